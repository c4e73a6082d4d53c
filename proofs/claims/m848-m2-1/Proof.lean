import JvmDerived
import JvmDerived.Pilot.@@N@@Statement
import JvmDerived.Pilot.@@N@@Code
set_option linter.unusedVariables false
set_option linter.unusedSimpArgs false
namespace Jvm.RoadKit
open Sem ClassFile Op Lib Jvm.Stand Jvm.Free Jvm.LawKit
section New
variable {p : Program} {l : Launch} {e : Env} {R : Room} {s : State} {m : MethodId} {args : Array Value} {below : List Frame} {meth : Method} {c : Code} {T : State} {locs : List Loc} {cells slots : Nat}
theorem retI (X : Stand p l e R s m args below meth c T locs cells slots) (hx : p.tables.exec = Jvm.exec) {pc : Nat} {Ls : Array Slot} {z : Int32} {rest : List Value} (hret : meth.sig.returnType = some .int) (hd : decode c.code pc = .ok (.ireturn, 1)) {fs : List Frame}
    (hl : ∀ (f : JFrame) (acts : List Action), f.method = m → f.locked = none → f.entered = [] → (doReturn e (T.setTop f) acts (some (.int z))).1 = T.setFrames fs) : Steps p.tables e below (T.setTop (mkF m pc Ls (.int z :: rest))) (T.setFrames fs) := by
  have hm' : T.vm.method? m = some meth := X.method'
  have hn : narrow .int (.int z) = .int z := rfl
  show Steps p.tables e below (T.setTop { method := m, pc := pc, locals := Ls, stack := _ :: rest, locked := none }) _
  jvm_step X.here [X.here.top, hx, hd, hm', hret, hn]
  first | (intro acts; rw [hl _ acts rfl rfl rfl]) | rw [hl _ _ rfl rfl rfl]
  exact Steps.refl _
theorem eqv_r {Z : State} {args : Array Value} {X F : Term} {idx : List Nat} {y : Addr} (hF : F.eval args Z none idx Z = some (.ref y)) (h : (Cond.eq X F).value args Z none Z idx = some true) : X.eval args Z none idx Z = some (.ref y) := by
  obtain ⟨x, y', e1, e2, k1, k2⟩ := cmp_v (Or.inl h)
  cases hF.symm.trans e2
  have hx : x.isRef = true := k2.2
  have q : x = .ref y := gotT (eq_R e1 hF hx rfl) h
  rw [e1, q]
end New
end Jvm.RoadKit
namespace Jvm.Pilot.@@N@@
open Jvm Jvm.ClassFile Sem Op Lib Jvm.Free Jvm.Stand Jvm.LawKit Jvm.RoadKit Bundle Jvm.Pilot.@@N@@.Jvm.D
theorem own_eT {Z T : State} {h : Heap} {a : Addr} {c : Cell} {ty : FieldType} (e : T.heap = h) (A : Arr Z h a c ty) : T.heap[a]? = some c := by rw [e]; exact A.1
def Go (p : Program) (e : Env) (below : List Frame) (Qf : Outcome → State → Prop) (W : State) : Prop := ∃ s₂ o, Steps p.tables e below W s₂ ∧ s₂.status = .running ∧ Ended s₂ below o ∧ Qf o s₂
theorem Go.st {p : Program} {e : Env} {below : List Frame} {Qf : Outcome → State → Prop} {W V' : State} (h : ∀ t, Steps p.tables e below V' t → Steps p.tables e below W t) (g : Go p e below Qf V') : Go p e below Qf W := by
  obtain ⟨s₂, o, g1, g2⟩ := g
  exact ⟨s₂, o, h _ g1, g2⟩
theorem Go.out {p : Program} {e : Env} {below : List Frame} {Qf : Outcome → State → Prop} {W : State} (g : Go p e below Qf W) : ∃ s₂ o, Steps p.tables e below W s₂ ∧ s₂.status = .running ∧ Ended s₂ below o ∧ Qf o s₂ := g
theorem Go.mk' {p : Program} {e : Env} {below : List Frame} {Qf : Outcome → State → Prop} {W : State} (g : ∃ s₂ o, Steps p.tables e below W s₂ ∧ s₂.status = .running ∧ Ended s₂ below o ∧ Qf o s₂) : Go p e below Qf W := g
theorem own_len {s : State} {args : Array Value} {t : Term} {a : Addr} {cl : Cell} {ty : FieldType} {n : Int32} (et : t.eval args s none [] s = some (.ref a)) (A : Arr s s.heap a cl ty) (h : (Jvm.Cond.eq (.length t) (.int n)).value args s none s [] = some true) : cl.slots.size < 2 ^ 31 ∧ cl.slots.size.toInt32 = n := by
  have q := eqv_i (Term.int_eval n) h
  have f := A.fin (U := s) (Vm.Alike.refl _)
  simp only [Term.eval, et, f, Option.bind_eq_bind, Option.bind_some] at q
  split at q
  · rename_i hs
    exact ⟨hs, by simpa using q⟩
  · simp at q
theorem own_elr {s : State} {args : Array Value} {t F : Term} {a y : Addr} {cl : Cell} {ty : FieldType} {j : Int32} {i : Nat} (et : t.eval args s none [] s = some (.ref a)) (A : Arr s s.heap a cl ty) (eX : F.eval args s none [] s = some (.ref y)) (h : (Jvm.Cond.eq (.elem t (.int j)) F).value args s none s [] = some true) (hj : ¬ j < 0) (hi : j.toNatClampNeg = i) : cl.slots[i]? = some (.ref y) :=
  hi ▸ (elem_f et (Term.int_eval j) (A.fin (Vm.Alike.refl _)) hj).symm.trans (eqv_r eX h)
def own_g (j : Int32) : Int32 := (if j < (32 : Int32) then (0 : Int32) else (if j < (33 : Int32) then (1 : Int32) else (if j < (39 : Int32) then (0 : Int32) else (if j < (42 : Int32) then (1 : Int32) else (if j < (43 : Int32) then (0 : Int32) else (if j < (59 : Int32) then (1 : Int32) else (if j < (63 : Int32) then (0 : Int32) else (if j < (64 : Int32) then (1 : Int32) else (if j < (65 : Int32) then (0 : Int32) else (if j < (91 : Int32) then (1 : Int32) else (if j < (97 : Int32) then (0 : Int32) else (if j < (123 : Int32) then (1 : Int32) else (0 : Int32)))))))))))))
theorem own_gi (x y : Int) (h0 : ¬ x < 0) (h1 : x < 256) (r2 : 32 ≤ x ∨ y = 0) (r3 : ¬ x = 32 ∨ y = 1) (r4 : x < 33 ∨ ¬ x < 39 ∨ y = 0) (r5 : ¬ x = 39 ∨ y = 1) (r6 : ¬ x = 40 ∨ y = 1) (r7 : ¬ x = 41 ∨ y = 1) (r8 : ¬ x = 42 ∨ y = 0) (r9 : x < 43 ∨ ¬ x < 59 ∨ y = 1) (r10 : x < 59 ∨ ¬ x < 63 ∨ y = 0) (r11 : ¬ x = 63 ∨ y = 1) (r12 : ¬ x = 64 ∨ y = 0) (r13 : x < 65 ∨ ¬ x < 91 ∨ y = 1) (r14 : x < 91 ∨ ¬ x < 97 ∨ y = 0) (r15 : x < 97 ∨ ¬ x < 123 ∨ y = 1) (r16 : x < 123 ∨ y = 0) : y = (if x < 32 then 0 else (if x < 33 then 1 else (if x < 39 then 0 else (if x < 42 then 1 else (if x < 43 then 0 else (if x < 59 then 1 else (if x < 63 then 0 else (if x < 64 then 1 else (if x < 65 then 0 else (if x < 91 then 1 else (if x < 97 then 0 else (if x < 123 then 1 else 0)))))))))))) := by
  by_cases g0 : x < 32
  · rw [if_pos g0]
    clear r3 r4 r5 r6 r7 r8 r9 r10 r11 r12 r13 r14 r15 r16; omega
  · rw [if_neg g0]
    by_cases g1 : x < 33
    · rw [if_pos g1]
      clear r2 r4 r5 r6 r7 r8 r9 r10 r11 r12 r13 r14 r15 r16; omega
    · rw [if_neg g1]
      by_cases g2 : x < 39
      · rw [if_pos g2]
        clear r2 r3 r5 r6 r7 r8 r9 r10 r11 r12 r13 r14 r15 r16; omega
      · rw [if_neg g2]
        by_cases g3 : x < 42
        · rw [if_pos g3]
          clear r2 r3 r4 r8 r9 r10 r11 r12 r13 r14 r15 r16; omega
        · rw [if_neg g3]
          by_cases g4 : x < 43
          · rw [if_pos g4]
            clear r2 r3 r4 r5 r6 r7 r9 r10 r11 r12 r13 r14 r15 r16; omega
          · rw [if_neg g4]
            by_cases g5 : x < 59
            · rw [if_pos g5]
              clear r2 r3 r4 r5 r6 r7 r8 r10 r11 r12 r13 r14 r15 r16; omega
            · rw [if_neg g5]
              by_cases g6 : x < 63
              · rw [if_pos g6]
                clear r2 r3 r4 r5 r6 r7 r8 r9 r11 r12 r13 r14 r15 r16; omega
              · rw [if_neg g6]
                by_cases g7 : x < 64
                · rw [if_pos g7]
                  clear r2 r3 r4 r5 r6 r7 r8 r9 r10 r12 r13 r14 r15 r16; omega
                · rw [if_neg g7]
                  by_cases g8 : x < 65
                  · rw [if_pos g8]
                    clear r2 r3 r4 r5 r6 r7 r8 r9 r10 r11 r13 r14 r15 r16; omega
                  · rw [if_neg g8]
                    by_cases g9 : x < 91
                    · rw [if_pos g9]
                      clear r2 r3 r4 r5 r6 r7 r8 r9 r10 r11 r12 r14 r15 r16; omega
                    · rw [if_neg g9]
                      by_cases g10 : x < 97
                      · rw [if_pos g10]
                        clear r2 r3 r4 r5 r6 r7 r8 r9 r10 r11 r12 r13 r15 r16; omega
                      · rw [if_neg g10]
                        by_cases g11 : x < 123
                        · rw [if_pos g11]
                          clear r2 r3 r4 r5 r6 r7 r8 r9 r10 r11 r12 r13 r14 r16; omega
                        · rw [if_neg g11]
                          clear r2 r3 r4 r5 r6 r7 r8 r9 r10 r11 r12 r13 r14 r15; omega
theorem own_idx {s : State} {args : Array Value} {t : Term} {a : Addr} {cl : Cell} {j : Int32} (et : t.eval args s none [j.toNatClampNeg] s = some (.ref a)) (T : Tab s s.heap a cl .boolean (256 : Int32)) (h0 : ¬ j < 0) (h1 : j < (256 : Int32)) : (Term.elem t (.index 0)).eval args s none [j.toNatClampNeg] s = some (.int (atv cl j)) :=
  (elem_f et (idx_at h0) (T.1.fin (Vm.Alike.refl _)) h0).trans (T.2.2.2 j (inb_of T.2.1 ⟨h0, h1⟩))
theorem own_all {s : State} {args : Array Value} {t : Term} {a : Addr} {cl : Cell} {c : Jvm.Cond} {j : Int32} (et : t.eval args s none [] s = some (.ref a)) (T : Tab s s.heap a cl .boolean (256 : Int32)) (h : (Jvm.Cond.all t c).value args s none s [] = some true) (h0 : ¬ j < 0) (h1 : j < (256 : Int32)) : c.value args s none s [j.toNatClampNeg] = some true :=
  Cond.all_elim et (T.1.fin (Vm.Alike.refl _)) h j.toNatClampNeg (Nat.lt_of_not_le fun q => inb_of T.2.1 ⟨h0, h1⟩ (Or.inr q))
theorem own_ite {P Q : Prop} [Decidable P] [Decidable Q] {a b : Int32} {x y : Int} (h : P ↔ Q) (ha : a.toInt = x) (hb : b.toInt = y) : (if P then a else b).toInt = if Q then x else y := by
  by_cases q : Q
  · rw [if_pos q, if_pos (h.mpr q)]; exact ha
  · rw [if_neg q, if_neg (fun z => q (h.mp z))]; exact hb
theorem own_gall {cl : Cell} (r2 : ∀ j : Int32, ¬ j < 0 → j < (256 : Int32) → ((32 : Int32) ≤ j ∨ atv cl j = (0 : Int32))) (r3 : ∀ j : Int32, ¬ j < 0 → j < (256 : Int32) → (¬ j = (32 : Int32) ∨ atv cl j = (1 : Int32))) (r4 : ∀ j : Int32, ¬ j < 0 → j < (256 : Int32) → (j < (33 : Int32) ∨ ¬ j < (39 : Int32) ∨ atv cl j = (0 : Int32))) (r5 : ∀ j : Int32, ¬ j < 0 → j < (256 : Int32) → (¬ j = (39 : Int32) ∨ atv cl j = (1 : Int32))) (r6 : ∀ j : Int32, ¬ j < 0 → j < (256 : Int32) → (¬ j = (40 : Int32) ∨ atv cl j = (1 : Int32))) (r7 : ∀ j : Int32, ¬ j < 0 → j < (256 : Int32) → (¬ j = (41 : Int32) ∨ atv cl j = (1 : Int32))) (r8 : ∀ j : Int32, ¬ j < 0 → j < (256 : Int32) → (¬ j = (42 : Int32) ∨ atv cl j = (0 : Int32))) (r9 : ∀ j : Int32, ¬ j < 0 → j < (256 : Int32) → (j < (43 : Int32) ∨ ¬ j < (59 : Int32) ∨ atv cl j = (1 : Int32))) (r10 : ∀ j : Int32, ¬ j < 0 → j < (256 : Int32) → (j < (59 : Int32) ∨ ¬ j < (63 : Int32) ∨ atv cl j = (0 : Int32))) (r11 : ∀ j : Int32, ¬ j < 0 → j < (256 : Int32) → (¬ j = (63 : Int32) ∨ atv cl j = (1 : Int32))) (r12 : ∀ j : Int32, ¬ j < 0 → j < (256 : Int32) → (¬ j = (64 : Int32) ∨ atv cl j = (0 : Int32))) (r13 : ∀ j : Int32, ¬ j < 0 → j < (256 : Int32) → (j < (65 : Int32) ∨ ¬ j < (91 : Int32) ∨ atv cl j = (1 : Int32))) (r14 : ∀ j : Int32, ¬ j < 0 → j < (256 : Int32) → (j < (91 : Int32) ∨ ¬ j < (97 : Int32) ∨ atv cl j = (0 : Int32))) (r15 : ∀ j : Int32, ¬ j < 0 → j < (256 : Int32) → (j < (97 : Int32) ∨ ¬ j < (123 : Int32) ∨ atv cl j = (1 : Int32))) (r16 : ∀ j : Int32, ¬ j < 0 → j < (256 : Int32) → (j < (123 : Int32) ∨ atv cl j = (0 : Int32))) : ∀ j : Int32, ¬ j < 0 → j < (256 : Int32) → atv cl j = own_g j := by
  intro j h0 h1
  have r2 := r2 j h0 h1
  have r3 := r3 j h0 h1
  have r4 := r4 j h0 h1
  have r5 := r5 j h0 h1
  have r6 := r6 j h0 h1
  have r7 := r7 j h0 h1
  have r8 := r8 j h0 h1
  have r9 := r9 j h0 h1
  have r10 := r10 j h0 h1
  have r11 := r11 j h0 h1
  have r12 := r12 j h0 h1
  have r13 := r13 j h0 h1
  have r14 := r14 j h0 h1
  have r15 := r15 j h0 h1
  have r16 := r16 j h0 h1
  have l0 : (0 : Int32).toInt = 0 := by decide
  have l1 : (1 : Int32).toInt = 1 := by decide
  have l32 : (32 : Int32).toInt = 32 := by decide
  have l33 : (33 : Int32).toInt = 33 := by decide
  have l39 : (39 : Int32).toInt = 39 := by decide
  have l40 : (40 : Int32).toInt = 40 := by decide
  have l41 : (41 : Int32).toInt = 41 := by decide
  have l42 : (42 : Int32).toInt = 42 := by decide
  have l43 : (43 : Int32).toInt = 43 := by decide
  have l59 : (59 : Int32).toInt = 59 := by decide
  have l63 : (63 : Int32).toInt = 63 := by decide
  have l64 : (64 : Int32).toInt = 64 := by decide
  have l65 : (65 : Int32).toInt = 65 := by decide
  have l91 : (91 : Int32).toInt = 91 := by decide
  have l97 : (97 : Int32).toInt = 97 := by decide
  have l123 : (123 : Int32).toInt = 123 := by decide
  have l256 : (256 : Int32).toInt = 256 := by decide
  apply Int32.toInt_inj.mp
  simp only [Int32.lt_iff_toInt_lt, Int32.le_iff_toInt_le, ← Int32.toInt_inj, l0, l1, l32, l33, l39, l40, l41, l42, l43, l59, l63, l64, l65, l91, l97, l123, l256] at h0 h1 r2 r3 r4 r5 r6 r7 r8 r9 r10 r11 r12 r13 r14 r15 r16
  rw [own_gi j.toInt (atv cl j).toInt h0 h1 r2 r3 r4 r5 r6 r7 r8 r9 r10 r11 r12 r13 r14 r15 r16]
  exact (own_ite (by rw [Int32.lt_iff_toInt_lt, l32]) l0 (own_ite (by rw [Int32.lt_iff_toInt_lt, l33]) l1 (own_ite (by rw [Int32.lt_iff_toInt_lt, l39]) l0 (own_ite (by rw [Int32.lt_iff_toInt_lt, l42]) l1 (own_ite (by rw [Int32.lt_iff_toInt_lt, l43]) l0 (own_ite (by rw [Int32.lt_iff_toInt_lt, l59]) l1 (own_ite (by rw [Int32.lt_iff_toInt_lt, l63]) l0 (own_ite (by rw [Int32.lt_iff_toInt_lt, l64]) l1 (own_ite (by rw [Int32.lt_iff_toInt_lt, l65]) l0 (own_ite (by rw [Int32.lt_iff_toInt_lt, l91]) l1 (own_ite (by rw [Int32.lt_iff_toInt_lt, l97]) l0 (own_ite (by rw [Int32.lt_iff_toInt_lt, l123]) l1 (l0))))))))))))).symm
theorem own_ch (x : Int32) : ¬ x.toUInt32.toUInt16.toUInt32.toInt32 < (0 : Int32) := by
  have c := c_i2c x
  have e : (0 : Int32).toInt = 0 := by decide
  rw [Int32.lt_iff_toInt_lt]
  omega
def W0 (Z : State) (s_tab : Addr) (cl_tab : Cell) : Prop :=
  (Tab Z Z.heap s_tab cl_tab .boolean (256 : Int32)) ∧
  (Sta Z Z.heap "com/example/settlewire/settlewire/fin/Fin" "IN_SET_X" "[Z" (.ref s_tab)) ∧
  (∀ j : Int32, ¬ j < 0 → j < (256 : Int32) → atv cl_tab j = own_g j)
theorem own_d1_0 : decode prog_46_method_9_code 0 = .ok (.iload_n 0, 1) := by decide +kernel
theorem own_d1_1 : decode prog_46_method_9_code 1 = .ok (.getstatic 90, 3) := by decide +kernel
theorem own_d1_4 : decode prog_46_method_9_code 4 = .ok (.arraylength, 1) := by decide +kernel
theorem own_d1_5 : decode prog_46_method_9_code 5 = .ok (.if_icmp .ge 15, 3) := by decide +kernel
theorem own_d1_8 : decode prog_46_method_9_code 8 = .ok (.getstatic 90, 3) := by decide +kernel
theorem own_d1_11 : decode prog_46_method_9_code 11 = .ok (.iload_n 0, 1) := by decide +kernel
theorem own_d1_12 : decode prog_46_method_9_code 12 = .ok (.baload, 1) := by decide +kernel
theorem own_d1_13 : decode prog_46_method_9_code 13 = .ok (.ifCond .eq 7, 3) := by decide +kernel
theorem own_d1_20 : decode prog_46_method_9_code 20 = .ok (.iconst 0, 1) := by decide +kernel
theorem own_d1_21 : decode prog_46_method_9_code 21 = .ok (.ireturn, 1) := by decide +kernel
theorem own_d1_16 : decode prog_46_method_9_code 16 = .ok (.iconst 1, 1) := by decide +kernel
theorem own_d1_17 : decode prog_46_method_9_code 17 = .ok (.goto 4, 3) := by decide +kernel
theorem own_pn0 : plainName "com/example/settlewire/settlewire/fin/Fin" = true := by first | (simp [plainName, overriddenIn]; done) | decide +kernel
theorem ef1 (m : MethodId) (p0 : Int32) : entryFrame m #[(.int p0)] 1 = mkF m 0 #[.val (.int p0)] [] := by first | (simp [entryFrame, mkF, argsToLocals, Value.category]; done) | rfl
def f1 (cl_tab : Cell) (p0 : Int32) : Int32 := (if p0 < (256 : Int32) then (if (atv cl_tab p0) = (0 : Int32) then (0 : Int32) else (1 : Int32)) else (0 : Int32))
def Q1 (Z : State) (cl_tab : Cell) (p0 : Int32) (h0 : Heap) (n0 : Nat) (v : Option Value) (h : Heap) (L : List Loc) : Prop := v = some (.int (f1 cl_tab p0)) ∧ Fr n0 L ∧ h = h0
set_option maxRecDepth 65536 in
set_option maxHeartbeats 40000000 in
theorem rm1 (l : Launch) (Z : State) (a0 : Array Value) (hw : ∀ d ∈ tables_1, d.before a0 Z = true) (ws : List Jvm.Cond) (s_tab : Addr) (cl_tab : Cell) (HW : W0 Z s_tab cl_tab) (p0 : Int32) (h0 : Heap) (n0 : Nat) (O0 : Old Z n0 h0) (hp0 : ¬ p0 < (0 : Int32)) :
    MetFree l (⟨"com/example/settlewire/settlewire/fin/Fin", "isSetX", "(C)Z"⟩ : MethodName) (head1 (Jvm.Cond.code (⟨"com/example/settlewire/settlewire/fin/Fin", "isSetX", "(C)Z"⟩ : MethodName) prog_46_method_9_code 1 (some .boolean) :: ws) ({ frames := 0, cells := 0, slots := 0, locals := 0 } : Room)) (fun a U => a = #[(.int p0)] ∧ Z.Warmed39 U.vm ∧ U.heap = h0) (fun _ _ _ _ _ => True) (fun _ U o U' => ∃ v L, o = .returned v ∧ Q1 Z cl_tab p0 h0 n0 v U'.heap L ∧ FrameEnd U o U' L ({ frames := 0, cells := 0, slots := 0, locals := 0 } : Room).cells ({ frames := 0, cells := 0, slots := 0, locals := 0 } : Room).slots) := by
  refine MetFree.of_bodySF (plainFor_of_name own_pn0) hisR ?_
  intro p e s m args below meth c s₁ Bd hml0 hP hK
  obtain ⟨rfl, hZ, hh⟩ := hP
  obtain ⟨T_tab, S_tab, G_tab⟩ := id HW
  have hx := Bd.exec
  have hby := Bd.bytes
  have hml : c.maxLocals = 1 := hml0
  have hown : s.vm.findClass "com/example/settlewire/settlewire/fin/Fin" = some m.cls := findClass_of_methodNamed Bd.named
  have hnm := (name_of_methodNamed Bd.named Bd.method).1
  have X0 : Stand p l e ({ frames := 0, cells := 0, slots := 0, locals := 0 } : Room) s m #[(.int p0)] below meth c s₁ [] 0 0 := Stand.of_body Bd
  have e0 : s₁.heap = h0 := by rw [← hh, Bd.state]; rfl
  have N0 := Fr.nil n0
  have K0 := Keep.refl h0 []
  refine Go.out ?_
  refine Go.st (V' := s₁.setTop (mkF m 0 #[.val (.int p0)] [])) (fun t k => castTop (ef1 m p0) k) ?_
  refine Go.st (V' := s₁.setTop (mkF m 1 #[.val (.int p0)] [(.int p0)])) (fun t k => ?_) ?_
  · refine XS.iloadN X0.here hx rfl (hb hby own_d1_0) rfl  ?_
    show Steps p.tables e below (s₁.setTop (mkF m 1 #[.val (.int p0)] [(.int p0)])) _
    exact k
  obtain ⟨T1, X1, e1, st1⟩ := getS2 X0 hx hZ hown (host := "") (Or.inl (hw _ (List.mem_of_getElem? (i := 5) rfl))) Via.refl e0 (S_tab.ext O0.2) (g := (mkF m 1 #[.val (.int p0)] [(.int p0)])) rfl (hb hby own_d1_1)
  refine Go.st (V' := T1.setTop (mkF m 4 #[.val (.int p0)] [(.ref s_tab), (.int p0)])) (fun t k => st1 t k) ?_
  have Ar2 := T_tab.1.ext O0.2
  have Ln2 : cl_tab.slots.size.toInt32 = (256 : Int32) := len_of T_tab.2.1 T_tab.2.2.1
  refine Go.st (V' := T1.setTop (mkF m 5 #[.val (.int p0)] [(.int (256 : Int32)), (.int p0)])) (fun t k => ?_) ?_
  · show Steps p.tables e below (T1.setTop (mkF m 4 #[.val (.int p0)] [(.ref s_tab), (.int p0)])) _
    refine X1.arraylength hx (own_eT e1 Ar2) (State.isArrayOf_alike hZ.alike Ar2.2.1) (g := (mkF m 4 #[.val (.int p0)] [(.ref s_tab), (.int p0)])) rfl rfl (hb hby own_d1_4) _ ?_
    rw [Ln2]
    show Steps p.tables e below (T1.setTop (mkF m 5 #[.val (.int p0)] [(.int (256 : Int32)), (.int p0)])) _
    exact k
  by_cases hc3 : p0 < (256 : Int32)
  · refine Go.st (V' := T1.setTop (mkF m 8 #[.val (.int p0)] [])) (fun t k => ?_) ?_
    · refine XS.icmpNo X1.here hx rfl (hb hby own_d1_5) rfl (tlt hc3).2.1 ?_
      show Steps p.tables e below (T1.setTop (mkF m 8 #[.val (.int p0)] [])) _
      exact k
    obtain ⟨T4, X4, e4, st4⟩ := getS2 X1 hx hZ hown (host := "") (Or.inl (hw _ (List.mem_of_getElem? (i := 5) rfl))) Via.refl e1 (S_tab.ext O0.2) (g := (mkF m 8 #[.val (.int p0)] [])) rfl (hb hby own_d1_8)
    refine Go.st (V' := T4.setTop (mkF m 11 #[.val (.int p0)] [(.ref s_tab)])) (fun t k => st4 t k) ?_
    refine Go.st (V' := T4.setTop (mkF m 12 #[.val (.int p0)] [(.int p0), (.ref s_tab)])) (fun t k => ?_) ?_
    · refine XS.iloadN X4.here hx rfl (hb hby own_d1_11) rfl  ?_
      show Steps p.tables e below (T4.setTop (mkF m 12 #[.val (.int p0)] [(.int p0), (.ref s_tab)])) _
      exact k
    have Ar5 := T_tab.1.ext O0.2
    have hin5 := inb_of (j := p0) T_tab.2.1 ⟨hp0, hc3⟩
    refine Go.st (V' := T4.setTop (mkF m 13 #[.val (.int p0)] [(.int (atv cl_tab p0))])) (fun t k => ?_) ?_
    · show Steps p.tables e below (T4.setTop (mkF m 12 #[.val (.int p0)] [(.int p0), (.ref s_tab)])) _
      refine X4.baloadBooleans hx (j := p0) (v := (.int (atv cl_tab p0))) (own_eT e4 Ar5) (State.isArrayOf_alike hZ.alike Ar5.2.1) Ar5.2.2 hin5 (T_tab.2.2.2 p0 hin5) (g := (mkF m 12 #[.val (.int p0)] [(.int p0), (.ref s_tab)])) rfl rfl (hb hby own_d1_12) _ ?_
      show Steps p.tables e below (T4.setTop (mkF m 13 #[.val (.int p0)] [(.int (atv cl_tab p0))])) _
      exact k
    by_cases hc6 : (atv cl_tab p0) = (0 : Int32)
    · refine Go.st (V' := T4.setTop (mkF m 21 #[.val (.int p0)] [(.int (0 : Int32))])) (fun t k => ?_) ?_
      · refine XS.ifYes X4.here hx rfl (pc0 := 13) (pc' := 20) rfl (hb hby own_d1_13) rfl ((if0 _ _).trans (teq hc6).1) (by decide) (by decide) ?_
        show Steps p.tables e below (T4.setTop (mkF m 20 #[.val (.int p0)] [])) _
        refine XS.iconst X4.here hx rfl (hb hby own_d1_20) ?_
        show Steps p.tables e below (T4.setTop (mkF m 21 #[.val (.int p0)] [(.int (0 : Int32))])) _
        exact k
      obtain ⟨fs, hr, hrun, hended, hW, hsame⟩ := X4.leave (v := some (.int (0 : Int32))) (fun h => by rw [Bd.returns] at h; cases h)
      refine Go.mk' ⟨_, _, retN X4 hx (t := .boolean) Bd.returns (by simp) (hb hby own_d1_21) hr, hrun, hended, _, _, rfl, ?_, ⟨_, rfl⟩, hW, hsame.mono (by decide) (by decide)⟩
      show Q1 Z cl_tab p0 h0 n0 _ T4.heap _
      rw [e4]
      exact ⟨(by rw [f1, if_pos hc3, if_pos hc6]), N0, rfl⟩
    · refine Go.st (V' := T4.setTop (mkF m 21 #[.val (.int p0)] [(.int (1 : Int32))])) (fun t k => ?_) ?_
      · refine XS.ifNo X4.here hx rfl (hb hby own_d1_13) rfl ((if0 _ _).trans (feq hc6).1) ?_
        show Steps p.tables e below (T4.setTop (mkF m 16 #[.val (.int p0)] [])) _
        refine XS.iconst X4.here hx rfl (hb hby own_d1_16) ?_
        show Steps p.tables e below (T4.setTop (mkF m 17 #[.val (.int p0)] [(.int (1 : Int32))])) _
        refine XS.goto X4.here hx rfl (pc0 := 17) (pc' := 21) rfl (hb hby own_d1_17) (by decide) (by decide) ?_
        show Steps p.tables e below (T4.setTop (mkF m 21 #[.val (.int p0)] [(.int (1 : Int32))])) _
        exact k
      obtain ⟨fs, hr, hrun, hended, hW, hsame⟩ := X4.leave (v := some (.int (1 : Int32))) (fun h => by rw [Bd.returns] at h; cases h)
      refine Go.mk' ⟨_, _, retN X4 hx (t := .boolean) Bd.returns (by simp) (hb hby own_d1_21) hr, hrun, hended, _, _, rfl, ?_, ⟨_, rfl⟩, hW, hsame.mono (by decide) (by decide)⟩
      show Q1 Z cl_tab p0 h0 n0 _ T4.heap _
      rw [e4]
      exact ⟨(by rw [f1, if_pos hc3, if_neg hc6]), N0, rfl⟩
  · refine Go.st (V' := T1.setTop (mkF m 21 #[.val (.int p0)] [(.int (0 : Int32))])) (fun t k => ?_) ?_
    · refine XS.icmpYes X1.here hx rfl (pc0 := 5) (pc' := 20) rfl (hb hby own_d1_5) rfl (flt hc3).2.1 (by decide) (by decide) ?_
      show Steps p.tables e below (T1.setTop (mkF m 20 #[.val (.int p0)] [])) _
      refine XS.iconst X1.here hx rfl (hb hby own_d1_20) ?_
      show Steps p.tables e below (T1.setTop (mkF m 21 #[.val (.int p0)] [(.int (0 : Int32))])) _
      exact k
    obtain ⟨fs, hr, hrun, hended, hW, hsame⟩ := X1.leave (v := some (.int (0 : Int32))) (fun h => by rw [Bd.returns] at h; cases h)
    refine Go.mk' ⟨_, _, retN X1 hx (t := .boolean) Bd.returns (by simp) (hb hby own_d1_21) hr, hrun, hended, _, _, rfl, ?_, ⟨_, rfl⟩, hW, hsame.mono (by decide) (by decide)⟩
    show Q1 Z cl_tab p0 h0 n0 _ T1.heap _
    rw [e1]
    exact ⟨(by rw [f1, if_neg hc3]), N0, rfl⟩
theorem own_d2_0 : decode method_2_code 0 = .ok (.iload_n 0, 1) := by decide +kernel
theorem own_d2_1 : decode method_2_code 1 = .ok (.bipush 65, 2) := by decide +kernel
theorem own_d2_3 : decode method_2_code 3 = .ok (.if_icmp .lt 11, 3) := by decide +kernel
theorem own_d2_14 : decode method_2_code 14 = .ok (.iload_n 0, 1) := by decide +kernel
theorem own_d2_15 : decode method_2_code 15 = .ok (.bipush 97, 2) := by decide +kernel
theorem own_d2_17 : decode method_2_code 17 = .ok (.if_icmp .lt 11, 3) := by decide +kernel
theorem own_d2_28 : decode method_2_code 28 = .ok (.iload_n 0, 1) := by decide +kernel
theorem own_d2_29 : decode method_2_code 29 = .ok (.bipush 48, 2) := by decide +kernel
theorem own_d2_31 : decode method_2_code 31 = .ok (.if_icmp .lt 11, 3) := by decide +kernel
theorem own_d2_42 : decode method_2_code 42 = .ok (.iload_n 0, 1) := by decide +kernel
theorem own_d2_43 : decode method_2_code 43 = .ok (.bipush 32, 2) := by decide +kernel
theorem own_d2_45 : decode method_2_code 45 = .ok (.if_icmp .eq 63, 3) := by decide +kernel
theorem own_d2_108 : decode method_2_code 108 = .ok (.iconst 1, 1) := by decide +kernel
theorem own_d2_109 : decode method_2_code 109 = .ok (.goto 4, 3) := by decide +kernel
theorem own_d2_113 : decode method_2_code 113 = .ok (.ireturn, 1) := by decide +kernel
theorem own_d2_48 : decode method_2_code 48 = .ok (.iload_n 0, 1) := by decide +kernel
theorem own_d2_49 : decode method_2_code 49 = .ok (.bipush 47, 2) := by decide +kernel
theorem own_d2_51 : decode method_2_code 51 = .ok (.if_icmp .eq 57, 3) := by decide +kernel
theorem own_d2_54 : decode method_2_code 54 = .ok (.iload_n 0, 1) := by decide +kernel
theorem own_d2_55 : decode method_2_code 55 = .ok (.bipush 45, 2) := by decide +kernel
theorem own_d2_57 : decode method_2_code 57 = .ok (.if_icmp .eq 51, 3) := by decide +kernel
theorem own_d2_60 : decode method_2_code 60 = .ok (.iload_n 0, 1) := by decide +kernel
theorem own_d2_61 : decode method_2_code 61 = .ok (.bipush 63, 2) := by decide +kernel
theorem own_d2_63 : decode method_2_code 63 = .ok (.if_icmp .eq 45, 3) := by decide +kernel
theorem own_d2_66 : decode method_2_code 66 = .ok (.iload_n 0, 1) := by decide +kernel
theorem own_d2_67 : decode method_2_code 67 = .ok (.bipush 58, 2) := by decide +kernel
theorem own_d2_69 : decode method_2_code 69 = .ok (.if_icmp .eq 39, 3) := by decide +kernel
theorem own_d2_72 : decode method_2_code 72 = .ok (.iload_n 0, 1) := by decide +kernel
theorem own_d2_73 : decode method_2_code 73 = .ok (.bipush 40, 2) := by decide +kernel
theorem own_d2_75 : decode method_2_code 75 = .ok (.if_icmp .eq 33, 3) := by decide +kernel
theorem own_d2_78 : decode method_2_code 78 = .ok (.iload_n 0, 1) := by decide +kernel
theorem own_d2_79 : decode method_2_code 79 = .ok (.bipush 41, 2) := by decide +kernel
theorem own_d2_81 : decode method_2_code 81 = .ok (.if_icmp .eq 27, 3) := by decide +kernel
theorem own_d2_84 : decode method_2_code 84 = .ok (.iload_n 0, 1) := by decide +kernel
theorem own_d2_85 : decode method_2_code 85 = .ok (.bipush 46, 2) := by decide +kernel
theorem own_d2_87 : decode method_2_code 87 = .ok (.if_icmp .eq 21, 3) := by decide +kernel
theorem own_d2_90 : decode method_2_code 90 = .ok (.iload_n 0, 1) := by decide +kernel
theorem own_d2_91 : decode method_2_code 91 = .ok (.bipush 44, 2) := by decide +kernel
theorem own_d2_93 : decode method_2_code 93 = .ok (.if_icmp .eq 15, 3) := by decide +kernel
theorem own_d2_96 : decode method_2_code 96 = .ok (.iload_n 0, 1) := by decide +kernel
theorem own_d2_97 : decode method_2_code 97 = .ok (.bipush 39, 2) := by decide +kernel
theorem own_d2_99 : decode method_2_code 99 = .ok (.if_icmp .eq 9, 3) := by decide +kernel
theorem own_d2_102 : decode method_2_code 102 = .ok (.iload_n 0, 1) := by decide +kernel
theorem own_d2_103 : decode method_2_code 103 = .ok (.bipush 43, 2) := by decide +kernel
theorem own_d2_105 : decode method_2_code 105 = .ok (.if_icmp .ne 7, 3) := by decide +kernel
theorem own_d2_112 : decode method_2_code 112 = .ok (.iconst 0, 1) := by decide +kernel
theorem own_d2_34 : decode method_2_code 34 = .ok (.iload_n 0, 1) := by decide +kernel
theorem own_d2_35 : decode method_2_code 35 = .ok (.bipush 57, 2) := by decide +kernel
theorem own_d2_37 : decode method_2_code 37 = .ok (.if_icmp .gt 5, 3) := by decide +kernel
theorem own_d2_40 : decode method_2_code 40 = .ok (.iconst 1, 1) := by decide +kernel
theorem own_d2_41 : decode method_2_code 41 = .ok (.ireturn, 1) := by decide +kernel
theorem own_d2_20 : decode method_2_code 20 = .ok (.iload_n 0, 1) := by decide +kernel
theorem own_d2_21 : decode method_2_code 21 = .ok (.bipush 122, 2) := by decide +kernel
theorem own_d2_23 : decode method_2_code 23 = .ok (.if_icmp .gt 5, 3) := by decide +kernel
theorem own_d2_26 : decode method_2_code 26 = .ok (.iconst 1, 1) := by decide +kernel
theorem own_d2_27 : decode method_2_code 27 = .ok (.ireturn, 1) := by decide +kernel
theorem own_d2_6 : decode method_2_code 6 = .ok (.iload_n 0, 1) := by decide +kernel
theorem own_d2_7 : decode method_2_code 7 = .ok (.bipush 90, 2) := by decide +kernel
theorem own_d2_9 : decode method_2_code 9 = .ok (.if_icmp .gt 5, 3) := by decide +kernel
theorem own_d2_12 : decode method_2_code 12 = .ok (.iconst 1, 1) := by decide +kernel
theorem own_d2_13 : decode method_2_code 13 = .ok (.ireturn, 1) := by decide +kernel
theorem own_pn1 : plainName "com/example/settlewire/settlewire/fin/FinIsSetXPinLaw" = true := by first | (simp [plainName, overriddenIn]; done) | decide +kernel
theorem ef2 (m : MethodId) (p0 : Int32) : entryFrame m #[(.int p0)] 1 = mkF m 0 #[.val (.int p0)] [] := by first | (simp [entryFrame, mkF, argsToLocals, Value.category]; done) | rfl
def f2 (p0 : Int32) : Int32 := (if p0 < (65 : Int32) then (if p0 < (97 : Int32) then (if p0 < (48 : Int32) then (if p0 = (32 : Int32) then (1 : Int32) else (if p0 = (47 : Int32) then (1 : Int32) else (if p0 = (45 : Int32) then (1 : Int32) else (if p0 = (63 : Int32) then (1 : Int32) else (if p0 = (58 : Int32) then (1 : Int32) else (if p0 = (40 : Int32) then (1 : Int32) else (if p0 = (41 : Int32) then (1 : Int32) else (if p0 = (46 : Int32) then (1 : Int32) else (if p0 = (44 : Int32) then (1 : Int32) else (if p0 = (39 : Int32) then (1 : Int32) else (if p0 = (43 : Int32) then (1 : Int32) else (0 : Int32)))))))))))) else (if (57 : Int32) < p0 then (if p0 = (32 : Int32) then (1 : Int32) else (if p0 = (47 : Int32) then (1 : Int32) else (if p0 = (45 : Int32) then (1 : Int32) else (if p0 = (63 : Int32) then (1 : Int32) else (if p0 = (58 : Int32) then (1 : Int32) else (if p0 = (40 : Int32) then (1 : Int32) else (if p0 = (41 : Int32) then (1 : Int32) else (if p0 = (46 : Int32) then (1 : Int32) else (if p0 = (44 : Int32) then (1 : Int32) else (if p0 = (39 : Int32) then (1 : Int32) else (if p0 = (43 : Int32) then (1 : Int32) else (0 : Int32)))))))))))) else (1 : Int32))) else (if (122 : Int32) < p0 then (if p0 < (48 : Int32) then (if p0 = (32 : Int32) then (1 : Int32) else (if p0 = (47 : Int32) then (1 : Int32) else (if p0 = (45 : Int32) then (1 : Int32) else (if p0 = (63 : Int32) then (1 : Int32) else (if p0 = (58 : Int32) then (1 : Int32) else (if p0 = (40 : Int32) then (1 : Int32) else (if p0 = (41 : Int32) then (1 : Int32) else (if p0 = (46 : Int32) then (1 : Int32) else (if p0 = (44 : Int32) then (1 : Int32) else (if p0 = (39 : Int32) then (1 : Int32) else (if p0 = (43 : Int32) then (1 : Int32) else (0 : Int32)))))))))))) else (if (57 : Int32) < p0 then (if p0 = (32 : Int32) then (1 : Int32) else (if p0 = (47 : Int32) then (1 : Int32) else (if p0 = (45 : Int32) then (1 : Int32) else (if p0 = (63 : Int32) then (1 : Int32) else (if p0 = (58 : Int32) then (1 : Int32) else (if p0 = (40 : Int32) then (1 : Int32) else (if p0 = (41 : Int32) then (1 : Int32) else (if p0 = (46 : Int32) then (1 : Int32) else (if p0 = (44 : Int32) then (1 : Int32) else (if p0 = (39 : Int32) then (1 : Int32) else (if p0 = (43 : Int32) then (1 : Int32) else (0 : Int32)))))))))))) else (1 : Int32))) else (1 : Int32))) else (if (90 : Int32) < p0 then (if p0 < (97 : Int32) then (if p0 < (48 : Int32) then (if p0 = (32 : Int32) then (1 : Int32) else (if p0 = (47 : Int32) then (1 : Int32) else (if p0 = (45 : Int32) then (1 : Int32) else (if p0 = (63 : Int32) then (1 : Int32) else (if p0 = (58 : Int32) then (1 : Int32) else (if p0 = (40 : Int32) then (1 : Int32) else (if p0 = (41 : Int32) then (1 : Int32) else (if p0 = (46 : Int32) then (1 : Int32) else (if p0 = (44 : Int32) then (1 : Int32) else (if p0 = (39 : Int32) then (1 : Int32) else (if p0 = (43 : Int32) then (1 : Int32) else (0 : Int32)))))))))))) else (if (57 : Int32) < p0 then (if p0 = (32 : Int32) then (1 : Int32) else (if p0 = (47 : Int32) then (1 : Int32) else (if p0 = (45 : Int32) then (1 : Int32) else (if p0 = (63 : Int32) then (1 : Int32) else (if p0 = (58 : Int32) then (1 : Int32) else (if p0 = (40 : Int32) then (1 : Int32) else (if p0 = (41 : Int32) then (1 : Int32) else (if p0 = (46 : Int32) then (1 : Int32) else (if p0 = (44 : Int32) then (1 : Int32) else (if p0 = (39 : Int32) then (1 : Int32) else (if p0 = (43 : Int32) then (1 : Int32) else (0 : Int32)))))))))))) else (1 : Int32))) else (if (122 : Int32) < p0 then (if p0 < (48 : Int32) then (if p0 = (32 : Int32) then (1 : Int32) else (if p0 = (47 : Int32) then (1 : Int32) else (if p0 = (45 : Int32) then (1 : Int32) else (if p0 = (63 : Int32) then (1 : Int32) else (if p0 = (58 : Int32) then (1 : Int32) else (if p0 = (40 : Int32) then (1 : Int32) else (if p0 = (41 : Int32) then (1 : Int32) else (if p0 = (46 : Int32) then (1 : Int32) else (if p0 = (44 : Int32) then (1 : Int32) else (if p0 = (39 : Int32) then (1 : Int32) else (if p0 = (43 : Int32) then (1 : Int32) else (0 : Int32)))))))))))) else (if (57 : Int32) < p0 then (if p0 = (32 : Int32) then (1 : Int32) else (if p0 = (47 : Int32) then (1 : Int32) else (if p0 = (45 : Int32) then (1 : Int32) else (if p0 = (63 : Int32) then (1 : Int32) else (if p0 = (58 : Int32) then (1 : Int32) else (if p0 = (40 : Int32) then (1 : Int32) else (if p0 = (41 : Int32) then (1 : Int32) else (if p0 = (46 : Int32) then (1 : Int32) else (if p0 = (44 : Int32) then (1 : Int32) else (if p0 = (39 : Int32) then (1 : Int32) else (if p0 = (43 : Int32) then (1 : Int32) else (0 : Int32)))))))))))) else (1 : Int32))) else (1 : Int32))) else (1 : Int32)))
def Q2 (Z : State) (p0 : Int32) (h0 : Heap) (n0 : Nat) (v : Option Value) (h : Heap) (L : List Loc) : Prop := v = some (.int (f2 p0)) ∧ Fr n0 L ∧ h = h0
set_option maxRecDepth 65536 in
set_option maxHeartbeats 40000000 in
theorem rm2 (l : Launch) (Z : State) (a0 : Array Value) (hw : ∀ d ∈ tables_1, d.before a0 Z = true) (ws : List Jvm.Cond) (s_tab : Addr) (cl_tab : Cell) (HW : W0 Z s_tab cl_tab) (p0 : Int32) (h0 : Heap) (n0 : Nat) (O0 : Old Z n0 h0) :
    MetFree l (⟨"com/example/settlewire/settlewire/fin/FinIsSetXPinLaw", "expected", "(C)Z"⟩ : MethodName) (head1 (Jvm.Cond.code (⟨"com/example/settlewire/settlewire/fin/FinIsSetXPinLaw", "expected", "(C)Z"⟩ : MethodName) method_2_code 1 (some .boolean) :: ws) ({ frames := 0, cells := 0, slots := 0, locals := 0 } : Room)) (fun a U => a = #[(.int p0)] ∧ Z.Warmed39 U.vm ∧ U.heap = h0) (fun _ _ _ _ _ => True) (fun _ U o U' => ∃ v L, o = .returned v ∧ Q2 Z p0 h0 n0 v U'.heap L ∧ FrameEnd U o U' L ({ frames := 0, cells := 0, slots := 0, locals := 0 } : Room).cells ({ frames := 0, cells := 0, slots := 0, locals := 0 } : Room).slots) := by
  refine MetFree.of_bodySF (plainFor_of_name own_pn1) hisR ?_
  intro p e s m args below meth c s₁ Bd hml0 hP hK
  obtain ⟨rfl, hZ, hh⟩ := hP
  obtain ⟨T_tab, S_tab, G_tab⟩ := id HW
  have hx := Bd.exec
  have hby := Bd.bytes
  have hml : c.maxLocals = 1 := hml0
  have hown : s.vm.findClass "com/example/settlewire/settlewire/fin/FinIsSetXPinLaw" = some m.cls := findClass_of_methodNamed Bd.named
  have hnm := (name_of_methodNamed Bd.named Bd.method).1
  have X0 : Stand p l e ({ frames := 0, cells := 0, slots := 0, locals := 0 } : Room) s m #[(.int p0)] below meth c s₁ [] 0 0 := Stand.of_body Bd
  have e0 : s₁.heap = h0 := by rw [← hh, Bd.state]; rfl
  have N0 := Fr.nil n0
  have K0 := Keep.refl h0 []
  refine Go.out ?_
  refine Go.st (V' := s₁.setTop (mkF m 0 #[.val (.int p0)] [])) (fun t k => castTop (ef2 m p0) k) ?_
  refine Go.st (V' := s₁.setTop (mkF m 3 #[.val (.int p0)] [(.int (65 : Int32)), (.int p0)])) (fun t k => ?_) ?_
  · refine XS.iloadN X0.here hx rfl (hb hby own_d2_0) rfl  ?_
    show Steps p.tables e below (s₁.setTop (mkF m 1 #[.val (.int p0)] [(.int p0)])) _
    refine XS.bipush X0.here hx rfl (hb hby own_d2_1) ?_
    show Steps p.tables e below (s₁.setTop (mkF m 3 #[.val (.int p0)] [(.int (65 : Int32)), (.int p0)])) _
    exact k
  by_cases hc7 : p0 < (65 : Int32)
  · refine Go.st (V' := s₁.setTop (mkF m 17 #[.val (.int p0)] [(.int (97 : Int32)), (.int p0)])) (fun t k => ?_) ?_
    · refine XS.icmpYes X0.here hx rfl (pc0 := 3) (pc' := 14) rfl (hb hby own_d2_3) rfl (tlt hc7).1 (by decide) (by decide) ?_
      show Steps p.tables e below (s₁.setTop (mkF m 14 #[.val (.int p0)] [])) _
      refine XS.iloadN X0.here hx rfl (hb hby own_d2_14) rfl  ?_
      show Steps p.tables e below (s₁.setTop (mkF m 15 #[.val (.int p0)] [(.int p0)])) _
      refine XS.bipush X0.here hx rfl (hb hby own_d2_15) ?_
      show Steps p.tables e below (s₁.setTop (mkF m 17 #[.val (.int p0)] [(.int (97 : Int32)), (.int p0)])) _
      exact k
    by_cases hc8 : p0 < (97 : Int32)
    · refine Go.st (V' := s₁.setTop (mkF m 31 #[.val (.int p0)] [(.int (48 : Int32)), (.int p0)])) (fun t k => ?_) ?_
      · refine XS.icmpYes X0.here hx rfl (pc0 := 17) (pc' := 28) rfl (hb hby own_d2_17) rfl (tlt hc8).1 (by decide) (by decide) ?_
        show Steps p.tables e below (s₁.setTop (mkF m 28 #[.val (.int p0)] [])) _
        refine XS.iloadN X0.here hx rfl (hb hby own_d2_28) rfl  ?_
        show Steps p.tables e below (s₁.setTop (mkF m 29 #[.val (.int p0)] [(.int p0)])) _
        refine XS.bipush X0.here hx rfl (hb hby own_d2_29) ?_
        show Steps p.tables e below (s₁.setTop (mkF m 31 #[.val (.int p0)] [(.int (48 : Int32)), (.int p0)])) _
        exact k
      by_cases hc9 : p0 < (48 : Int32)
      · refine Go.st (V' := s₁.setTop (mkF m 45 #[.val (.int p0)] [(.int (32 : Int32)), (.int p0)])) (fun t k => ?_) ?_
        · refine XS.icmpYes X0.here hx rfl (pc0 := 31) (pc' := 42) rfl (hb hby own_d2_31) rfl (tlt hc9).1 (by decide) (by decide) ?_
          show Steps p.tables e below (s₁.setTop (mkF m 42 #[.val (.int p0)] [])) _
          refine XS.iloadN X0.here hx rfl (hb hby own_d2_42) rfl  ?_
          show Steps p.tables e below (s₁.setTop (mkF m 43 #[.val (.int p0)] [(.int p0)])) _
          refine XS.bipush X0.here hx rfl (hb hby own_d2_43) ?_
          show Steps p.tables e below (s₁.setTop (mkF m 45 #[.val (.int p0)] [(.int (32 : Int32)), (.int p0)])) _
          exact k
        by_cases hc10 : p0 = (32 : Int32)
        · refine Go.st (V' := s₁.setTop (mkF m 113 #[.val (.int p0)] [(.int (1 : Int32))])) (fun t k => ?_) ?_
          · refine XS.icmpYes X0.here hx rfl (pc0 := 45) (pc' := 108) rfl (hb hby own_d2_45) rfl (teq hc10).1 (by decide) (by decide) ?_
            show Steps p.tables e below (s₁.setTop (mkF m 108 #[.val (.int p0)] [])) _
            refine XS.iconst X0.here hx rfl (hb hby own_d2_108) ?_
            show Steps p.tables e below (s₁.setTop (mkF m 109 #[.val (.int p0)] [(.int (1 : Int32))])) _
            refine XS.goto X0.here hx rfl (pc0 := 109) (pc' := 113) rfl (hb hby own_d2_109) (by decide) (by decide) ?_
            show Steps p.tables e below (s₁.setTop (mkF m 113 #[.val (.int p0)] [(.int (1 : Int32))])) _
            exact k
          obtain ⟨fs, hr, hrun, hended, hW, hsame⟩ := X0.leave (v := some (.int (1 : Int32))) (fun h => by rw [Bd.returns] at h; cases h)
          refine Go.mk' ⟨_, _, retN X0 hx (t := .boolean) Bd.returns (by simp) (hb hby own_d2_113) hr, hrun, hended, _, _, rfl, ?_, ⟨_, rfl⟩, hW, hsame.mono (by decide) (by decide)⟩
          show Q2 Z p0 h0 n0 _ s₁.heap _
          rw [e0]
          exact ⟨(by rw [f2, if_pos hc7, if_pos hc8, if_pos hc9, if_pos hc10]), N0, rfl⟩
        · refine Go.st (V' := s₁.setTop (mkF m 51 #[.val (.int p0)] [(.int (47 : Int32)), (.int p0)])) (fun t k => ?_) ?_
          · refine XS.icmpNo X0.here hx rfl (hb hby own_d2_45) rfl (feq hc10).1 ?_
            show Steps p.tables e below (s₁.setTop (mkF m 48 #[.val (.int p0)] [])) _
            refine XS.iloadN X0.here hx rfl (hb hby own_d2_48) rfl  ?_
            show Steps p.tables e below (s₁.setTop (mkF m 49 #[.val (.int p0)] [(.int p0)])) _
            refine XS.bipush X0.here hx rfl (hb hby own_d2_49) ?_
            show Steps p.tables e below (s₁.setTop (mkF m 51 #[.val (.int p0)] [(.int (47 : Int32)), (.int p0)])) _
            exact k
          by_cases hc11 : p0 = (47 : Int32)
          · refine Go.st (V' := s₁.setTop (mkF m 113 #[.val (.int p0)] [(.int (1 : Int32))])) (fun t k => ?_) ?_
            · refine XS.icmpYes X0.here hx rfl (pc0 := 51) (pc' := 108) rfl (hb hby own_d2_51) rfl (teq hc11).1 (by decide) (by decide) ?_
              show Steps p.tables e below (s₁.setTop (mkF m 108 #[.val (.int p0)] [])) _
              refine XS.iconst X0.here hx rfl (hb hby own_d2_108) ?_
              show Steps p.tables e below (s₁.setTop (mkF m 109 #[.val (.int p0)] [(.int (1 : Int32))])) _
              refine XS.goto X0.here hx rfl (pc0 := 109) (pc' := 113) rfl (hb hby own_d2_109) (by decide) (by decide) ?_
              show Steps p.tables e below (s₁.setTop (mkF m 113 #[.val (.int p0)] [(.int (1 : Int32))])) _
              exact k
            obtain ⟨fs, hr, hrun, hended, hW, hsame⟩ := X0.leave (v := some (.int (1 : Int32))) (fun h => by rw [Bd.returns] at h; cases h)
            refine Go.mk' ⟨_, _, retN X0 hx (t := .boolean) Bd.returns (by simp) (hb hby own_d2_113) hr, hrun, hended, _, _, rfl, ?_, ⟨_, rfl⟩, hW, hsame.mono (by decide) (by decide)⟩
            show Q2 Z p0 h0 n0 _ s₁.heap _
            rw [e0]
            exact ⟨(by rw [f2, if_pos hc7, if_pos hc8, if_pos hc9, if_neg hc10, if_pos hc11]), N0, rfl⟩
          · refine Go.st (V' := s₁.setTop (mkF m 57 #[.val (.int p0)] [(.int (45 : Int32)), (.int p0)])) (fun t k => ?_) ?_
            · refine XS.icmpNo X0.here hx rfl (hb hby own_d2_51) rfl (feq hc11).1 ?_
              show Steps p.tables e below (s₁.setTop (mkF m 54 #[.val (.int p0)] [])) _
              refine XS.iloadN X0.here hx rfl (hb hby own_d2_54) rfl  ?_
              show Steps p.tables e below (s₁.setTop (mkF m 55 #[.val (.int p0)] [(.int p0)])) _
              refine XS.bipush X0.here hx rfl (hb hby own_d2_55) ?_
              show Steps p.tables e below (s₁.setTop (mkF m 57 #[.val (.int p0)] [(.int (45 : Int32)), (.int p0)])) _
              exact k
            by_cases hc12 : p0 = (45 : Int32)
            · refine Go.st (V' := s₁.setTop (mkF m 113 #[.val (.int p0)] [(.int (1 : Int32))])) (fun t k => ?_) ?_
              · refine XS.icmpYes X0.here hx rfl (pc0 := 57) (pc' := 108) rfl (hb hby own_d2_57) rfl (teq hc12).1 (by decide) (by decide) ?_
                show Steps p.tables e below (s₁.setTop (mkF m 108 #[.val (.int p0)] [])) _
                refine XS.iconst X0.here hx rfl (hb hby own_d2_108) ?_
                show Steps p.tables e below (s₁.setTop (mkF m 109 #[.val (.int p0)] [(.int (1 : Int32))])) _
                refine XS.goto X0.here hx rfl (pc0 := 109) (pc' := 113) rfl (hb hby own_d2_109) (by decide) (by decide) ?_
                show Steps p.tables e below (s₁.setTop (mkF m 113 #[.val (.int p0)] [(.int (1 : Int32))])) _
                exact k
              obtain ⟨fs, hr, hrun, hended, hW, hsame⟩ := X0.leave (v := some (.int (1 : Int32))) (fun h => by rw [Bd.returns] at h; cases h)
              refine Go.mk' ⟨_, _, retN X0 hx (t := .boolean) Bd.returns (by simp) (hb hby own_d2_113) hr, hrun, hended, _, _, rfl, ?_, ⟨_, rfl⟩, hW, hsame.mono (by decide) (by decide)⟩
              show Q2 Z p0 h0 n0 _ s₁.heap _
              rw [e0]
              exact ⟨(by rw [f2, if_pos hc7, if_pos hc8, if_pos hc9, if_neg hc10, if_neg hc11, if_pos hc12]), N0, rfl⟩
            · refine Go.st (V' := s₁.setTop (mkF m 63 #[.val (.int p0)] [(.int (63 : Int32)), (.int p0)])) (fun t k => ?_) ?_
              · refine XS.icmpNo X0.here hx rfl (hb hby own_d2_57) rfl (feq hc12).1 ?_
                show Steps p.tables e below (s₁.setTop (mkF m 60 #[.val (.int p0)] [])) _
                refine XS.iloadN X0.here hx rfl (hb hby own_d2_60) rfl  ?_
                show Steps p.tables e below (s₁.setTop (mkF m 61 #[.val (.int p0)] [(.int p0)])) _
                refine XS.bipush X0.here hx rfl (hb hby own_d2_61) ?_
                show Steps p.tables e below (s₁.setTop (mkF m 63 #[.val (.int p0)] [(.int (63 : Int32)), (.int p0)])) _
                exact k
              by_cases hc13 : p0 = (63 : Int32)
              · refine Go.st (V' := s₁.setTop (mkF m 113 #[.val (.int p0)] [(.int (1 : Int32))])) (fun t k => ?_) ?_
                · refine XS.icmpYes X0.here hx rfl (pc0 := 63) (pc' := 108) rfl (hb hby own_d2_63) rfl (teq hc13).1 (by decide) (by decide) ?_
                  show Steps p.tables e below (s₁.setTop (mkF m 108 #[.val (.int p0)] [])) _
                  refine XS.iconst X0.here hx rfl (hb hby own_d2_108) ?_
                  show Steps p.tables e below (s₁.setTop (mkF m 109 #[.val (.int p0)] [(.int (1 : Int32))])) _
                  refine XS.goto X0.here hx rfl (pc0 := 109) (pc' := 113) rfl (hb hby own_d2_109) (by decide) (by decide) ?_
                  show Steps p.tables e below (s₁.setTop (mkF m 113 #[.val (.int p0)] [(.int (1 : Int32))])) _
                  exact k
                obtain ⟨fs, hr, hrun, hended, hW, hsame⟩ := X0.leave (v := some (.int (1 : Int32))) (fun h => by rw [Bd.returns] at h; cases h)
                refine Go.mk' ⟨_, _, retN X0 hx (t := .boolean) Bd.returns (by simp) (hb hby own_d2_113) hr, hrun, hended, _, _, rfl, ?_, ⟨_, rfl⟩, hW, hsame.mono (by decide) (by decide)⟩
                show Q2 Z p0 h0 n0 _ s₁.heap _
                rw [e0]
                exact ⟨(by rw [f2, if_pos hc7, if_pos hc8, if_pos hc9, if_neg hc10, if_neg hc11, if_neg hc12, if_pos hc13]), N0, rfl⟩
              · refine Go.st (V' := s₁.setTop (mkF m 69 #[.val (.int p0)] [(.int (58 : Int32)), (.int p0)])) (fun t k => ?_) ?_
                · refine XS.icmpNo X0.here hx rfl (hb hby own_d2_63) rfl (feq hc13).1 ?_
                  show Steps p.tables e below (s₁.setTop (mkF m 66 #[.val (.int p0)] [])) _
                  refine XS.iloadN X0.here hx rfl (hb hby own_d2_66) rfl  ?_
                  show Steps p.tables e below (s₁.setTop (mkF m 67 #[.val (.int p0)] [(.int p0)])) _
                  refine XS.bipush X0.here hx rfl (hb hby own_d2_67) ?_
                  show Steps p.tables e below (s₁.setTop (mkF m 69 #[.val (.int p0)] [(.int (58 : Int32)), (.int p0)])) _
                  exact k
                by_cases hc14 : p0 = (58 : Int32)
                · refine Go.st (V' := s₁.setTop (mkF m 113 #[.val (.int p0)] [(.int (1 : Int32))])) (fun t k => ?_) ?_
                  · refine XS.icmpYes X0.here hx rfl (pc0 := 69) (pc' := 108) rfl (hb hby own_d2_69) rfl (teq hc14).1 (by decide) (by decide) ?_
                    show Steps p.tables e below (s₁.setTop (mkF m 108 #[.val (.int p0)] [])) _
                    refine XS.iconst X0.here hx rfl (hb hby own_d2_108) ?_
                    show Steps p.tables e below (s₁.setTop (mkF m 109 #[.val (.int p0)] [(.int (1 : Int32))])) _
                    refine XS.goto X0.here hx rfl (pc0 := 109) (pc' := 113) rfl (hb hby own_d2_109) (by decide) (by decide) ?_
                    show Steps p.tables e below (s₁.setTop (mkF m 113 #[.val (.int p0)] [(.int (1 : Int32))])) _
                    exact k
                  obtain ⟨fs, hr, hrun, hended, hW, hsame⟩ := X0.leave (v := some (.int (1 : Int32))) (fun h => by rw [Bd.returns] at h; cases h)
                  refine Go.mk' ⟨_, _, retN X0 hx (t := .boolean) Bd.returns (by simp) (hb hby own_d2_113) hr, hrun, hended, _, _, rfl, ?_, ⟨_, rfl⟩, hW, hsame.mono (by decide) (by decide)⟩
                  show Q2 Z p0 h0 n0 _ s₁.heap _
                  rw [e0]
                  exact ⟨(by rw [f2, if_pos hc7, if_pos hc8, if_pos hc9, if_neg hc10, if_neg hc11, if_neg hc12, if_neg hc13, if_pos hc14]), N0, rfl⟩
                · refine Go.st (V' := s₁.setTop (mkF m 75 #[.val (.int p0)] [(.int (40 : Int32)), (.int p0)])) (fun t k => ?_) ?_
                  · refine XS.icmpNo X0.here hx rfl (hb hby own_d2_69) rfl (feq hc14).1 ?_
                    show Steps p.tables e below (s₁.setTop (mkF m 72 #[.val (.int p0)] [])) _
                    refine XS.iloadN X0.here hx rfl (hb hby own_d2_72) rfl  ?_
                    show Steps p.tables e below (s₁.setTop (mkF m 73 #[.val (.int p0)] [(.int p0)])) _
                    refine XS.bipush X0.here hx rfl (hb hby own_d2_73) ?_
                    show Steps p.tables e below (s₁.setTop (mkF m 75 #[.val (.int p0)] [(.int (40 : Int32)), (.int p0)])) _
                    exact k
                  by_cases hc15 : p0 = (40 : Int32)
                  · refine Go.st (V' := s₁.setTop (mkF m 113 #[.val (.int p0)] [(.int (1 : Int32))])) (fun t k => ?_) ?_
                    · refine XS.icmpYes X0.here hx rfl (pc0 := 75) (pc' := 108) rfl (hb hby own_d2_75) rfl (teq hc15).1 (by decide) (by decide) ?_
                      show Steps p.tables e below (s₁.setTop (mkF m 108 #[.val (.int p0)] [])) _
                      refine XS.iconst X0.here hx rfl (hb hby own_d2_108) ?_
                      show Steps p.tables e below (s₁.setTop (mkF m 109 #[.val (.int p0)] [(.int (1 : Int32))])) _
                      refine XS.goto X0.here hx rfl (pc0 := 109) (pc' := 113) rfl (hb hby own_d2_109) (by decide) (by decide) ?_
                      show Steps p.tables e below (s₁.setTop (mkF m 113 #[.val (.int p0)] [(.int (1 : Int32))])) _
                      exact k
                    obtain ⟨fs, hr, hrun, hended, hW, hsame⟩ := X0.leave (v := some (.int (1 : Int32))) (fun h => by rw [Bd.returns] at h; cases h)
                    refine Go.mk' ⟨_, _, retN X0 hx (t := .boolean) Bd.returns (by simp) (hb hby own_d2_113) hr, hrun, hended, _, _, rfl, ?_, ⟨_, rfl⟩, hW, hsame.mono (by decide) (by decide)⟩
                    show Q2 Z p0 h0 n0 _ s₁.heap _
                    rw [e0]
                    exact ⟨(by rw [f2, if_pos hc7, if_pos hc8, if_pos hc9, if_neg hc10, if_neg hc11, if_neg hc12, if_neg hc13, if_neg hc14, if_pos hc15]), N0, rfl⟩
                  · refine Go.st (V' := s₁.setTop (mkF m 81 #[.val (.int p0)] [(.int (41 : Int32)), (.int p0)])) (fun t k => ?_) ?_
                    · refine XS.icmpNo X0.here hx rfl (hb hby own_d2_75) rfl (feq hc15).1 ?_
                      show Steps p.tables e below (s₁.setTop (mkF m 78 #[.val (.int p0)] [])) _
                      refine XS.iloadN X0.here hx rfl (hb hby own_d2_78) rfl  ?_
                      show Steps p.tables e below (s₁.setTop (mkF m 79 #[.val (.int p0)] [(.int p0)])) _
                      refine XS.bipush X0.here hx rfl (hb hby own_d2_79) ?_
                      show Steps p.tables e below (s₁.setTop (mkF m 81 #[.val (.int p0)] [(.int (41 : Int32)), (.int p0)])) _
                      exact k
                    by_cases hc16 : p0 = (41 : Int32)
                    · refine Go.st (V' := s₁.setTop (mkF m 113 #[.val (.int p0)] [(.int (1 : Int32))])) (fun t k => ?_) ?_
                      · refine XS.icmpYes X0.here hx rfl (pc0 := 81) (pc' := 108) rfl (hb hby own_d2_81) rfl (teq hc16).1 (by decide) (by decide) ?_
                        show Steps p.tables e below (s₁.setTop (mkF m 108 #[.val (.int p0)] [])) _
                        refine XS.iconst X0.here hx rfl (hb hby own_d2_108) ?_
                        show Steps p.tables e below (s₁.setTop (mkF m 109 #[.val (.int p0)] [(.int (1 : Int32))])) _
                        refine XS.goto X0.here hx rfl (pc0 := 109) (pc' := 113) rfl (hb hby own_d2_109) (by decide) (by decide) ?_
                        show Steps p.tables e below (s₁.setTop (mkF m 113 #[.val (.int p0)] [(.int (1 : Int32))])) _
                        exact k
                      obtain ⟨fs, hr, hrun, hended, hW, hsame⟩ := X0.leave (v := some (.int (1 : Int32))) (fun h => by rw [Bd.returns] at h; cases h)
                      refine Go.mk' ⟨_, _, retN X0 hx (t := .boolean) Bd.returns (by simp) (hb hby own_d2_113) hr, hrun, hended, _, _, rfl, ?_, ⟨_, rfl⟩, hW, hsame.mono (by decide) (by decide)⟩
                      show Q2 Z p0 h0 n0 _ s₁.heap _
                      rw [e0]
                      exact ⟨(by rw [f2, if_pos hc7, if_pos hc8, if_pos hc9, if_neg hc10, if_neg hc11, if_neg hc12, if_neg hc13, if_neg hc14, if_neg hc15, if_pos hc16]), N0, rfl⟩
                    · refine Go.st (V' := s₁.setTop (mkF m 87 #[.val (.int p0)] [(.int (46 : Int32)), (.int p0)])) (fun t k => ?_) ?_
                      · refine XS.icmpNo X0.here hx rfl (hb hby own_d2_81) rfl (feq hc16).1 ?_
                        show Steps p.tables e below (s₁.setTop (mkF m 84 #[.val (.int p0)] [])) _
                        refine XS.iloadN X0.here hx rfl (hb hby own_d2_84) rfl  ?_
                        show Steps p.tables e below (s₁.setTop (mkF m 85 #[.val (.int p0)] [(.int p0)])) _
                        refine XS.bipush X0.here hx rfl (hb hby own_d2_85) ?_
                        show Steps p.tables e below (s₁.setTop (mkF m 87 #[.val (.int p0)] [(.int (46 : Int32)), (.int p0)])) _
                        exact k
                      by_cases hc17 : p0 = (46 : Int32)
                      · refine Go.st (V' := s₁.setTop (mkF m 113 #[.val (.int p0)] [(.int (1 : Int32))])) (fun t k => ?_) ?_
                        · refine XS.icmpYes X0.here hx rfl (pc0 := 87) (pc' := 108) rfl (hb hby own_d2_87) rfl (teq hc17).1 (by decide) (by decide) ?_
                          show Steps p.tables e below (s₁.setTop (mkF m 108 #[.val (.int p0)] [])) _
                          refine XS.iconst X0.here hx rfl (hb hby own_d2_108) ?_
                          show Steps p.tables e below (s₁.setTop (mkF m 109 #[.val (.int p0)] [(.int (1 : Int32))])) _
                          refine XS.goto X0.here hx rfl (pc0 := 109) (pc' := 113) rfl (hb hby own_d2_109) (by decide) (by decide) ?_
                          show Steps p.tables e below (s₁.setTop (mkF m 113 #[.val (.int p0)] [(.int (1 : Int32))])) _
                          exact k
                        obtain ⟨fs, hr, hrun, hended, hW, hsame⟩ := X0.leave (v := some (.int (1 : Int32))) (fun h => by rw [Bd.returns] at h; cases h)
                        refine Go.mk' ⟨_, _, retN X0 hx (t := .boolean) Bd.returns (by simp) (hb hby own_d2_113) hr, hrun, hended, _, _, rfl, ?_, ⟨_, rfl⟩, hW, hsame.mono (by decide) (by decide)⟩
                        show Q2 Z p0 h0 n0 _ s₁.heap _
                        rw [e0]
                        exact ⟨(by rw [f2, if_pos hc7, if_pos hc8, if_pos hc9, if_neg hc10, if_neg hc11, if_neg hc12, if_neg hc13, if_neg hc14, if_neg hc15, if_neg hc16, if_pos hc17]), N0, rfl⟩
                      · refine Go.st (V' := s₁.setTop (mkF m 93 #[.val (.int p0)] [(.int (44 : Int32)), (.int p0)])) (fun t k => ?_) ?_
                        · refine XS.icmpNo X0.here hx rfl (hb hby own_d2_87) rfl (feq hc17).1 ?_
                          show Steps p.tables e below (s₁.setTop (mkF m 90 #[.val (.int p0)] [])) _
                          refine XS.iloadN X0.here hx rfl (hb hby own_d2_90) rfl  ?_
                          show Steps p.tables e below (s₁.setTop (mkF m 91 #[.val (.int p0)] [(.int p0)])) _
                          refine XS.bipush X0.here hx rfl (hb hby own_d2_91) ?_
                          show Steps p.tables e below (s₁.setTop (mkF m 93 #[.val (.int p0)] [(.int (44 : Int32)), (.int p0)])) _
                          exact k
                        by_cases hc18 : p0 = (44 : Int32)
                        · refine Go.st (V' := s₁.setTop (mkF m 113 #[.val (.int p0)] [(.int (1 : Int32))])) (fun t k => ?_) ?_
                          · refine XS.icmpYes X0.here hx rfl (pc0 := 93) (pc' := 108) rfl (hb hby own_d2_93) rfl (teq hc18).1 (by decide) (by decide) ?_
                            show Steps p.tables e below (s₁.setTop (mkF m 108 #[.val (.int p0)] [])) _
                            refine XS.iconst X0.here hx rfl (hb hby own_d2_108) ?_
                            show Steps p.tables e below (s₁.setTop (mkF m 109 #[.val (.int p0)] [(.int (1 : Int32))])) _
                            refine XS.goto X0.here hx rfl (pc0 := 109) (pc' := 113) rfl (hb hby own_d2_109) (by decide) (by decide) ?_
                            show Steps p.tables e below (s₁.setTop (mkF m 113 #[.val (.int p0)] [(.int (1 : Int32))])) _
                            exact k
                          obtain ⟨fs, hr, hrun, hended, hW, hsame⟩ := X0.leave (v := some (.int (1 : Int32))) (fun h => by rw [Bd.returns] at h; cases h)
                          refine Go.mk' ⟨_, _, retN X0 hx (t := .boolean) Bd.returns (by simp) (hb hby own_d2_113) hr, hrun, hended, _, _, rfl, ?_, ⟨_, rfl⟩, hW, hsame.mono (by decide) (by decide)⟩
                          show Q2 Z p0 h0 n0 _ s₁.heap _
                          rw [e0]
                          exact ⟨(by rw [f2, if_pos hc7, if_pos hc8, if_pos hc9, if_neg hc10, if_neg hc11, if_neg hc12, if_neg hc13, if_neg hc14, if_neg hc15, if_neg hc16, if_neg hc17, if_pos hc18]), N0, rfl⟩
                        · refine Go.st (V' := s₁.setTop (mkF m 99 #[.val (.int p0)] [(.int (39 : Int32)), (.int p0)])) (fun t k => ?_) ?_
                          · refine XS.icmpNo X0.here hx rfl (hb hby own_d2_93) rfl (feq hc18).1 ?_
                            show Steps p.tables e below (s₁.setTop (mkF m 96 #[.val (.int p0)] [])) _
                            refine XS.iloadN X0.here hx rfl (hb hby own_d2_96) rfl  ?_
                            show Steps p.tables e below (s₁.setTop (mkF m 97 #[.val (.int p0)] [(.int p0)])) _
                            refine XS.bipush X0.here hx rfl (hb hby own_d2_97) ?_
                            show Steps p.tables e below (s₁.setTop (mkF m 99 #[.val (.int p0)] [(.int (39 : Int32)), (.int p0)])) _
                            exact k
                          by_cases hc19 : p0 = (39 : Int32)
                          · refine Go.st (V' := s₁.setTop (mkF m 113 #[.val (.int p0)] [(.int (1 : Int32))])) (fun t k => ?_) ?_
                            · refine XS.icmpYes X0.here hx rfl (pc0 := 99) (pc' := 108) rfl (hb hby own_d2_99) rfl (teq hc19).1 (by decide) (by decide) ?_
                              show Steps p.tables e below (s₁.setTop (mkF m 108 #[.val (.int p0)] [])) _
                              refine XS.iconst X0.here hx rfl (hb hby own_d2_108) ?_
                              show Steps p.tables e below (s₁.setTop (mkF m 109 #[.val (.int p0)] [(.int (1 : Int32))])) _
                              refine XS.goto X0.here hx rfl (pc0 := 109) (pc' := 113) rfl (hb hby own_d2_109) (by decide) (by decide) ?_
                              show Steps p.tables e below (s₁.setTop (mkF m 113 #[.val (.int p0)] [(.int (1 : Int32))])) _
                              exact k
                            obtain ⟨fs, hr, hrun, hended, hW, hsame⟩ := X0.leave (v := some (.int (1 : Int32))) (fun h => by rw [Bd.returns] at h; cases h)
                            refine Go.mk' ⟨_, _, retN X0 hx (t := .boolean) Bd.returns (by simp) (hb hby own_d2_113) hr, hrun, hended, _, _, rfl, ?_, ⟨_, rfl⟩, hW, hsame.mono (by decide) (by decide)⟩
                            show Q2 Z p0 h0 n0 _ s₁.heap _
                            rw [e0]
                            exact ⟨(by rw [f2, if_pos hc7, if_pos hc8, if_pos hc9, if_neg hc10, if_neg hc11, if_neg hc12, if_neg hc13, if_neg hc14, if_neg hc15, if_neg hc16, if_neg hc17, if_neg hc18, if_pos hc19]), N0, rfl⟩
                          · refine Go.st (V' := s₁.setTop (mkF m 105 #[.val (.int p0)] [(.int (43 : Int32)), (.int p0)])) (fun t k => ?_) ?_
                            · refine XS.icmpNo X0.here hx rfl (hb hby own_d2_99) rfl (feq hc19).1 ?_
                              show Steps p.tables e below (s₁.setTop (mkF m 102 #[.val (.int p0)] [])) _
                              refine XS.iloadN X0.here hx rfl (hb hby own_d2_102) rfl  ?_
                              show Steps p.tables e below (s₁.setTop (mkF m 103 #[.val (.int p0)] [(.int p0)])) _
                              refine XS.bipush X0.here hx rfl (hb hby own_d2_103) ?_
                              show Steps p.tables e below (s₁.setTop (mkF m 105 #[.val (.int p0)] [(.int (43 : Int32)), (.int p0)])) _
                              exact k
                            by_cases hc20 : p0 = (43 : Int32)
                            · refine Go.st (V' := s₁.setTop (mkF m 113 #[.val (.int p0)] [(.int (1 : Int32))])) (fun t k => ?_) ?_
                              · refine XS.icmpNo X0.here hx rfl (hb hby own_d2_105) rfl (teq hc20).2 ?_
                                show Steps p.tables e below (s₁.setTop (mkF m 108 #[.val (.int p0)] [])) _
                                refine XS.iconst X0.here hx rfl (hb hby own_d2_108) ?_
                                show Steps p.tables e below (s₁.setTop (mkF m 109 #[.val (.int p0)] [(.int (1 : Int32))])) _
                                refine XS.goto X0.here hx rfl (pc0 := 109) (pc' := 113) rfl (hb hby own_d2_109) (by decide) (by decide) ?_
                                show Steps p.tables e below (s₁.setTop (mkF m 113 #[.val (.int p0)] [(.int (1 : Int32))])) _
                                exact k
                              obtain ⟨fs, hr, hrun, hended, hW, hsame⟩ := X0.leave (v := some (.int (1 : Int32))) (fun h => by rw [Bd.returns] at h; cases h)
                              refine Go.mk' ⟨_, _, retN X0 hx (t := .boolean) Bd.returns (by simp) (hb hby own_d2_113) hr, hrun, hended, _, _, rfl, ?_, ⟨_, rfl⟩, hW, hsame.mono (by decide) (by decide)⟩
                              show Q2 Z p0 h0 n0 _ s₁.heap _
                              rw [e0]
                              exact ⟨(by rw [f2, if_pos hc7, if_pos hc8, if_pos hc9, if_neg hc10, if_neg hc11, if_neg hc12, if_neg hc13, if_neg hc14, if_neg hc15, if_neg hc16, if_neg hc17, if_neg hc18, if_neg hc19, if_pos hc20]), N0, rfl⟩
                            · refine Go.st (V' := s₁.setTop (mkF m 113 #[.val (.int p0)] [(.int (0 : Int32))])) (fun t k => ?_) ?_
                              · refine XS.icmpYes X0.here hx rfl (pc0 := 105) (pc' := 112) rfl (hb hby own_d2_105) rfl (feq hc20).2 (by decide) (by decide) ?_
                                show Steps p.tables e below (s₁.setTop (mkF m 112 #[.val (.int p0)] [])) _
                                refine XS.iconst X0.here hx rfl (hb hby own_d2_112) ?_
                                show Steps p.tables e below (s₁.setTop (mkF m 113 #[.val (.int p0)] [(.int (0 : Int32))])) _
                                exact k
                              obtain ⟨fs, hr, hrun, hended, hW, hsame⟩ := X0.leave (v := some (.int (0 : Int32))) (fun h => by rw [Bd.returns] at h; cases h)
                              refine Go.mk' ⟨_, _, retN X0 hx (t := .boolean) Bd.returns (by simp) (hb hby own_d2_113) hr, hrun, hended, _, _, rfl, ?_, ⟨_, rfl⟩, hW, hsame.mono (by decide) (by decide)⟩
                              show Q2 Z p0 h0 n0 _ s₁.heap _
                              rw [e0]
                              exact ⟨(by rw [f2, if_pos hc7, if_pos hc8, if_pos hc9, if_neg hc10, if_neg hc11, if_neg hc12, if_neg hc13, if_neg hc14, if_neg hc15, if_neg hc16, if_neg hc17, if_neg hc18, if_neg hc19, if_neg hc20]), N0, rfl⟩
      · refine Go.st (V' := s₁.setTop (mkF m 37 #[.val (.int p0)] [(.int (57 : Int32)), (.int p0)])) (fun t k => ?_) ?_
        · refine XS.icmpNo X0.here hx rfl (hb hby own_d2_31) rfl (flt hc9).1 ?_
          show Steps p.tables e below (s₁.setTop (mkF m 34 #[.val (.int p0)] [])) _
          refine XS.iloadN X0.here hx rfl (hb hby own_d2_34) rfl  ?_
          show Steps p.tables e below (s₁.setTop (mkF m 35 #[.val (.int p0)] [(.int p0)])) _
          refine XS.bipush X0.here hx rfl (hb hby own_d2_35) ?_
          show Steps p.tables e below (s₁.setTop (mkF m 37 #[.val (.int p0)] [(.int (57 : Int32)), (.int p0)])) _
          exact k
        by_cases hc21 : (57 : Int32) < p0
        · refine Go.st (V' := s₁.setTop (mkF m 45 #[.val (.int p0)] [(.int (32 : Int32)), (.int p0)])) (fun t k => ?_) ?_
          · refine XS.icmpYes X0.here hx rfl (pc0 := 37) (pc' := 42) rfl (hb hby own_d2_37) rfl (tlt hc21).2.2.1 (by decide) (by decide) ?_
            show Steps p.tables e below (s₁.setTop (mkF m 42 #[.val (.int p0)] [])) _
            refine XS.iloadN X0.here hx rfl (hb hby own_d2_42) rfl  ?_
            show Steps p.tables e below (s₁.setTop (mkF m 43 #[.val (.int p0)] [(.int p0)])) _
            refine XS.bipush X0.here hx rfl (hb hby own_d2_43) ?_
            show Steps p.tables e below (s₁.setTop (mkF m 45 #[.val (.int p0)] [(.int (32 : Int32)), (.int p0)])) _
            exact k
          by_cases hc22 : p0 = (32 : Int32)
          · refine Go.st (V' := s₁.setTop (mkF m 113 #[.val (.int p0)] [(.int (1 : Int32))])) (fun t k => ?_) ?_
            · refine XS.icmpYes X0.here hx rfl (pc0 := 45) (pc' := 108) rfl (hb hby own_d2_45) rfl (teq hc22).1 (by decide) (by decide) ?_
              show Steps p.tables e below (s₁.setTop (mkF m 108 #[.val (.int p0)] [])) _
              refine XS.iconst X0.here hx rfl (hb hby own_d2_108) ?_
              show Steps p.tables e below (s₁.setTop (mkF m 109 #[.val (.int p0)] [(.int (1 : Int32))])) _
              refine XS.goto X0.here hx rfl (pc0 := 109) (pc' := 113) rfl (hb hby own_d2_109) (by decide) (by decide) ?_
              show Steps p.tables e below (s₁.setTop (mkF m 113 #[.val (.int p0)] [(.int (1 : Int32))])) _
              exact k
            obtain ⟨fs, hr, hrun, hended, hW, hsame⟩ := X0.leave (v := some (.int (1 : Int32))) (fun h => by rw [Bd.returns] at h; cases h)
            refine Go.mk' ⟨_, _, retN X0 hx (t := .boolean) Bd.returns (by simp) (hb hby own_d2_113) hr, hrun, hended, _, _, rfl, ?_, ⟨_, rfl⟩, hW, hsame.mono (by decide) (by decide)⟩
            show Q2 Z p0 h0 n0 _ s₁.heap _
            rw [e0]
            exact ⟨(by rw [f2, if_pos hc7, if_pos hc8, if_neg hc9, if_pos hc21, if_pos hc22]), N0, rfl⟩
          · refine Go.st (V' := s₁.setTop (mkF m 51 #[.val (.int p0)] [(.int (47 : Int32)), (.int p0)])) (fun t k => ?_) ?_
            · refine XS.icmpNo X0.here hx rfl (hb hby own_d2_45) rfl (feq hc22).1 ?_
              show Steps p.tables e below (s₁.setTop (mkF m 48 #[.val (.int p0)] [])) _
              refine XS.iloadN X0.here hx rfl (hb hby own_d2_48) rfl  ?_
              show Steps p.tables e below (s₁.setTop (mkF m 49 #[.val (.int p0)] [(.int p0)])) _
              refine XS.bipush X0.here hx rfl (hb hby own_d2_49) ?_
              show Steps p.tables e below (s₁.setTop (mkF m 51 #[.val (.int p0)] [(.int (47 : Int32)), (.int p0)])) _
              exact k
            by_cases hc23 : p0 = (47 : Int32)
            · refine Go.st (V' := s₁.setTop (mkF m 113 #[.val (.int p0)] [(.int (1 : Int32))])) (fun t k => ?_) ?_
              · refine XS.icmpYes X0.here hx rfl (pc0 := 51) (pc' := 108) rfl (hb hby own_d2_51) rfl (teq hc23).1 (by decide) (by decide) ?_
                show Steps p.tables e below (s₁.setTop (mkF m 108 #[.val (.int p0)] [])) _
                refine XS.iconst X0.here hx rfl (hb hby own_d2_108) ?_
                show Steps p.tables e below (s₁.setTop (mkF m 109 #[.val (.int p0)] [(.int (1 : Int32))])) _
                refine XS.goto X0.here hx rfl (pc0 := 109) (pc' := 113) rfl (hb hby own_d2_109) (by decide) (by decide) ?_
                show Steps p.tables e below (s₁.setTop (mkF m 113 #[.val (.int p0)] [(.int (1 : Int32))])) _
                exact k
              obtain ⟨fs, hr, hrun, hended, hW, hsame⟩ := X0.leave (v := some (.int (1 : Int32))) (fun h => by rw [Bd.returns] at h; cases h)
              refine Go.mk' ⟨_, _, retN X0 hx (t := .boolean) Bd.returns (by simp) (hb hby own_d2_113) hr, hrun, hended, _, _, rfl, ?_, ⟨_, rfl⟩, hW, hsame.mono (by decide) (by decide)⟩
              show Q2 Z p0 h0 n0 _ s₁.heap _
              rw [e0]
              exact ⟨(by rw [f2, if_pos hc7, if_pos hc8, if_neg hc9, if_pos hc21, if_neg hc22, if_pos hc23]), N0, rfl⟩
            · refine Go.st (V' := s₁.setTop (mkF m 57 #[.val (.int p0)] [(.int (45 : Int32)), (.int p0)])) (fun t k => ?_) ?_
              · refine XS.icmpNo X0.here hx rfl (hb hby own_d2_51) rfl (feq hc23).1 ?_
                show Steps p.tables e below (s₁.setTop (mkF m 54 #[.val (.int p0)] [])) _
                refine XS.iloadN X0.here hx rfl (hb hby own_d2_54) rfl  ?_
                show Steps p.tables e below (s₁.setTop (mkF m 55 #[.val (.int p0)] [(.int p0)])) _
                refine XS.bipush X0.here hx rfl (hb hby own_d2_55) ?_
                show Steps p.tables e below (s₁.setTop (mkF m 57 #[.val (.int p0)] [(.int (45 : Int32)), (.int p0)])) _
                exact k
              by_cases hc24 : p0 = (45 : Int32)
              · refine Go.st (V' := s₁.setTop (mkF m 113 #[.val (.int p0)] [(.int (1 : Int32))])) (fun t k => ?_) ?_
                · refine XS.icmpYes X0.here hx rfl (pc0 := 57) (pc' := 108) rfl (hb hby own_d2_57) rfl (teq hc24).1 (by decide) (by decide) ?_
                  show Steps p.tables e below (s₁.setTop (mkF m 108 #[.val (.int p0)] [])) _
                  refine XS.iconst X0.here hx rfl (hb hby own_d2_108) ?_
                  show Steps p.tables e below (s₁.setTop (mkF m 109 #[.val (.int p0)] [(.int (1 : Int32))])) _
                  refine XS.goto X0.here hx rfl (pc0 := 109) (pc' := 113) rfl (hb hby own_d2_109) (by decide) (by decide) ?_
                  show Steps p.tables e below (s₁.setTop (mkF m 113 #[.val (.int p0)] [(.int (1 : Int32))])) _
                  exact k
                obtain ⟨fs, hr, hrun, hended, hW, hsame⟩ := X0.leave (v := some (.int (1 : Int32))) (fun h => by rw [Bd.returns] at h; cases h)
                refine Go.mk' ⟨_, _, retN X0 hx (t := .boolean) Bd.returns (by simp) (hb hby own_d2_113) hr, hrun, hended, _, _, rfl, ?_, ⟨_, rfl⟩, hW, hsame.mono (by decide) (by decide)⟩
                show Q2 Z p0 h0 n0 _ s₁.heap _
                rw [e0]
                exact ⟨(by rw [f2, if_pos hc7, if_pos hc8, if_neg hc9, if_pos hc21, if_neg hc22, if_neg hc23, if_pos hc24]), N0, rfl⟩
              · refine Go.st (V' := s₁.setTop (mkF m 63 #[.val (.int p0)] [(.int (63 : Int32)), (.int p0)])) (fun t k => ?_) ?_
                · refine XS.icmpNo X0.here hx rfl (hb hby own_d2_57) rfl (feq hc24).1 ?_
                  show Steps p.tables e below (s₁.setTop (mkF m 60 #[.val (.int p0)] [])) _
                  refine XS.iloadN X0.here hx rfl (hb hby own_d2_60) rfl  ?_
                  show Steps p.tables e below (s₁.setTop (mkF m 61 #[.val (.int p0)] [(.int p0)])) _
                  refine XS.bipush X0.here hx rfl (hb hby own_d2_61) ?_
                  show Steps p.tables e below (s₁.setTop (mkF m 63 #[.val (.int p0)] [(.int (63 : Int32)), (.int p0)])) _
                  exact k
                by_cases hc25 : p0 = (63 : Int32)
                · refine Go.st (V' := s₁.setTop (mkF m 113 #[.val (.int p0)] [(.int (1 : Int32))])) (fun t k => ?_) ?_
                  · refine XS.icmpYes X0.here hx rfl (pc0 := 63) (pc' := 108) rfl (hb hby own_d2_63) rfl (teq hc25).1 (by decide) (by decide) ?_
                    show Steps p.tables e below (s₁.setTop (mkF m 108 #[.val (.int p0)] [])) _
                    refine XS.iconst X0.here hx rfl (hb hby own_d2_108) ?_
                    show Steps p.tables e below (s₁.setTop (mkF m 109 #[.val (.int p0)] [(.int (1 : Int32))])) _
                    refine XS.goto X0.here hx rfl (pc0 := 109) (pc' := 113) rfl (hb hby own_d2_109) (by decide) (by decide) ?_
                    show Steps p.tables e below (s₁.setTop (mkF m 113 #[.val (.int p0)] [(.int (1 : Int32))])) _
                    exact k
                  obtain ⟨fs, hr, hrun, hended, hW, hsame⟩ := X0.leave (v := some (.int (1 : Int32))) (fun h => by rw [Bd.returns] at h; cases h)
                  refine Go.mk' ⟨_, _, retN X0 hx (t := .boolean) Bd.returns (by simp) (hb hby own_d2_113) hr, hrun, hended, _, _, rfl, ?_, ⟨_, rfl⟩, hW, hsame.mono (by decide) (by decide)⟩
                  show Q2 Z p0 h0 n0 _ s₁.heap _
                  rw [e0]
                  exact ⟨(by rw [f2, if_pos hc7, if_pos hc8, if_neg hc9, if_pos hc21, if_neg hc22, if_neg hc23, if_neg hc24, if_pos hc25]), N0, rfl⟩
                · refine Go.st (V' := s₁.setTop (mkF m 69 #[.val (.int p0)] [(.int (58 : Int32)), (.int p0)])) (fun t k => ?_) ?_
                  · refine XS.icmpNo X0.here hx rfl (hb hby own_d2_63) rfl (feq hc25).1 ?_
                    show Steps p.tables e below (s₁.setTop (mkF m 66 #[.val (.int p0)] [])) _
                    refine XS.iloadN X0.here hx rfl (hb hby own_d2_66) rfl  ?_
                    show Steps p.tables e below (s₁.setTop (mkF m 67 #[.val (.int p0)] [(.int p0)])) _
                    refine XS.bipush X0.here hx rfl (hb hby own_d2_67) ?_
                    show Steps p.tables e below (s₁.setTop (mkF m 69 #[.val (.int p0)] [(.int (58 : Int32)), (.int p0)])) _
                    exact k
                  by_cases hc26 : p0 = (58 : Int32)
                  · refine Go.st (V' := s₁.setTop (mkF m 113 #[.val (.int p0)] [(.int (1 : Int32))])) (fun t k => ?_) ?_
                    · refine XS.icmpYes X0.here hx rfl (pc0 := 69) (pc' := 108) rfl (hb hby own_d2_69) rfl (teq hc26).1 (by decide) (by decide) ?_
                      show Steps p.tables e below (s₁.setTop (mkF m 108 #[.val (.int p0)] [])) _
                      refine XS.iconst X0.here hx rfl (hb hby own_d2_108) ?_
                      show Steps p.tables e below (s₁.setTop (mkF m 109 #[.val (.int p0)] [(.int (1 : Int32))])) _
                      refine XS.goto X0.here hx rfl (pc0 := 109) (pc' := 113) rfl (hb hby own_d2_109) (by decide) (by decide) ?_
                      show Steps p.tables e below (s₁.setTop (mkF m 113 #[.val (.int p0)] [(.int (1 : Int32))])) _
                      exact k
                    obtain ⟨fs, hr, hrun, hended, hW, hsame⟩ := X0.leave (v := some (.int (1 : Int32))) (fun h => by rw [Bd.returns] at h; cases h)
                    refine Go.mk' ⟨_, _, retN X0 hx (t := .boolean) Bd.returns (by simp) (hb hby own_d2_113) hr, hrun, hended, _, _, rfl, ?_, ⟨_, rfl⟩, hW, hsame.mono (by decide) (by decide)⟩
                    show Q2 Z p0 h0 n0 _ s₁.heap _
                    rw [e0]
                    exact ⟨(by rw [f2, if_pos hc7, if_pos hc8, if_neg hc9, if_pos hc21, if_neg hc22, if_neg hc23, if_neg hc24, if_neg hc25, if_pos hc26]), N0, rfl⟩
                  · refine Go.st (V' := s₁.setTop (mkF m 75 #[.val (.int p0)] [(.int (40 : Int32)), (.int p0)])) (fun t k => ?_) ?_
                    · refine XS.icmpNo X0.here hx rfl (hb hby own_d2_69) rfl (feq hc26).1 ?_
                      show Steps p.tables e below (s₁.setTop (mkF m 72 #[.val (.int p0)] [])) _
                      refine XS.iloadN X0.here hx rfl (hb hby own_d2_72) rfl  ?_
                      show Steps p.tables e below (s₁.setTop (mkF m 73 #[.val (.int p0)] [(.int p0)])) _
                      refine XS.bipush X0.here hx rfl (hb hby own_d2_73) ?_
                      show Steps p.tables e below (s₁.setTop (mkF m 75 #[.val (.int p0)] [(.int (40 : Int32)), (.int p0)])) _
                      exact k
                    by_cases hc27 : p0 = (40 : Int32)
                    · refine Go.st (V' := s₁.setTop (mkF m 113 #[.val (.int p0)] [(.int (1 : Int32))])) (fun t k => ?_) ?_
                      · refine XS.icmpYes X0.here hx rfl (pc0 := 75) (pc' := 108) rfl (hb hby own_d2_75) rfl (teq hc27).1 (by decide) (by decide) ?_
                        show Steps p.tables e below (s₁.setTop (mkF m 108 #[.val (.int p0)] [])) _
                        refine XS.iconst X0.here hx rfl (hb hby own_d2_108) ?_
                        show Steps p.tables e below (s₁.setTop (mkF m 109 #[.val (.int p0)] [(.int (1 : Int32))])) _
                        refine XS.goto X0.here hx rfl (pc0 := 109) (pc' := 113) rfl (hb hby own_d2_109) (by decide) (by decide) ?_
                        show Steps p.tables e below (s₁.setTop (mkF m 113 #[.val (.int p0)] [(.int (1 : Int32))])) _
                        exact k
                      obtain ⟨fs, hr, hrun, hended, hW, hsame⟩ := X0.leave (v := some (.int (1 : Int32))) (fun h => by rw [Bd.returns] at h; cases h)
                      refine Go.mk' ⟨_, _, retN X0 hx (t := .boolean) Bd.returns (by simp) (hb hby own_d2_113) hr, hrun, hended, _, _, rfl, ?_, ⟨_, rfl⟩, hW, hsame.mono (by decide) (by decide)⟩
                      show Q2 Z p0 h0 n0 _ s₁.heap _
                      rw [e0]
                      exact ⟨(by rw [f2, if_pos hc7, if_pos hc8, if_neg hc9, if_pos hc21, if_neg hc22, if_neg hc23, if_neg hc24, if_neg hc25, if_neg hc26, if_pos hc27]), N0, rfl⟩
                    · refine Go.st (V' := s₁.setTop (mkF m 81 #[.val (.int p0)] [(.int (41 : Int32)), (.int p0)])) (fun t k => ?_) ?_
                      · refine XS.icmpNo X0.here hx rfl (hb hby own_d2_75) rfl (feq hc27).1 ?_
                        show Steps p.tables e below (s₁.setTop (mkF m 78 #[.val (.int p0)] [])) _
                        refine XS.iloadN X0.here hx rfl (hb hby own_d2_78) rfl  ?_
                        show Steps p.tables e below (s₁.setTop (mkF m 79 #[.val (.int p0)] [(.int p0)])) _
                        refine XS.bipush X0.here hx rfl (hb hby own_d2_79) ?_
                        show Steps p.tables e below (s₁.setTop (mkF m 81 #[.val (.int p0)] [(.int (41 : Int32)), (.int p0)])) _
                        exact k
                      by_cases hc28 : p0 = (41 : Int32)
                      · refine Go.st (V' := s₁.setTop (mkF m 113 #[.val (.int p0)] [(.int (1 : Int32))])) (fun t k => ?_) ?_
                        · refine XS.icmpYes X0.here hx rfl (pc0 := 81) (pc' := 108) rfl (hb hby own_d2_81) rfl (teq hc28).1 (by decide) (by decide) ?_
                          show Steps p.tables e below (s₁.setTop (mkF m 108 #[.val (.int p0)] [])) _
                          refine XS.iconst X0.here hx rfl (hb hby own_d2_108) ?_
                          show Steps p.tables e below (s₁.setTop (mkF m 109 #[.val (.int p0)] [(.int (1 : Int32))])) _
                          refine XS.goto X0.here hx rfl (pc0 := 109) (pc' := 113) rfl (hb hby own_d2_109) (by decide) (by decide) ?_
                          show Steps p.tables e below (s₁.setTop (mkF m 113 #[.val (.int p0)] [(.int (1 : Int32))])) _
                          exact k
                        obtain ⟨fs, hr, hrun, hended, hW, hsame⟩ := X0.leave (v := some (.int (1 : Int32))) (fun h => by rw [Bd.returns] at h; cases h)
                        refine Go.mk' ⟨_, _, retN X0 hx (t := .boolean) Bd.returns (by simp) (hb hby own_d2_113) hr, hrun, hended, _, _, rfl, ?_, ⟨_, rfl⟩, hW, hsame.mono (by decide) (by decide)⟩
                        show Q2 Z p0 h0 n0 _ s₁.heap _
                        rw [e0]
                        exact ⟨(by rw [f2, if_pos hc7, if_pos hc8, if_neg hc9, if_pos hc21, if_neg hc22, if_neg hc23, if_neg hc24, if_neg hc25, if_neg hc26, if_neg hc27, if_pos hc28]), N0, rfl⟩
                      · refine Go.st (V' := s₁.setTop (mkF m 87 #[.val (.int p0)] [(.int (46 : Int32)), (.int p0)])) (fun t k => ?_) ?_
                        · refine XS.icmpNo X0.here hx rfl (hb hby own_d2_81) rfl (feq hc28).1 ?_
                          show Steps p.tables e below (s₁.setTop (mkF m 84 #[.val (.int p0)] [])) _
                          refine XS.iloadN X0.here hx rfl (hb hby own_d2_84) rfl  ?_
                          show Steps p.tables e below (s₁.setTop (mkF m 85 #[.val (.int p0)] [(.int p0)])) _
                          refine XS.bipush X0.here hx rfl (hb hby own_d2_85) ?_
                          show Steps p.tables e below (s₁.setTop (mkF m 87 #[.val (.int p0)] [(.int (46 : Int32)), (.int p0)])) _
                          exact k
                        by_cases hc29 : p0 = (46 : Int32)
                        · refine Go.st (V' := s₁.setTop (mkF m 113 #[.val (.int p0)] [(.int (1 : Int32))])) (fun t k => ?_) ?_
                          · refine XS.icmpYes X0.here hx rfl (pc0 := 87) (pc' := 108) rfl (hb hby own_d2_87) rfl (teq hc29).1 (by decide) (by decide) ?_
                            show Steps p.tables e below (s₁.setTop (mkF m 108 #[.val (.int p0)] [])) _
                            refine XS.iconst X0.here hx rfl (hb hby own_d2_108) ?_
                            show Steps p.tables e below (s₁.setTop (mkF m 109 #[.val (.int p0)] [(.int (1 : Int32))])) _
                            refine XS.goto X0.here hx rfl (pc0 := 109) (pc' := 113) rfl (hb hby own_d2_109) (by decide) (by decide) ?_
                            show Steps p.tables e below (s₁.setTop (mkF m 113 #[.val (.int p0)] [(.int (1 : Int32))])) _
                            exact k
                          obtain ⟨fs, hr, hrun, hended, hW, hsame⟩ := X0.leave (v := some (.int (1 : Int32))) (fun h => by rw [Bd.returns] at h; cases h)
                          refine Go.mk' ⟨_, _, retN X0 hx (t := .boolean) Bd.returns (by simp) (hb hby own_d2_113) hr, hrun, hended, _, _, rfl, ?_, ⟨_, rfl⟩, hW, hsame.mono (by decide) (by decide)⟩
                          show Q2 Z p0 h0 n0 _ s₁.heap _
                          rw [e0]
                          exact ⟨(by rw [f2, if_pos hc7, if_pos hc8, if_neg hc9, if_pos hc21, if_neg hc22, if_neg hc23, if_neg hc24, if_neg hc25, if_neg hc26, if_neg hc27, if_neg hc28, if_pos hc29]), N0, rfl⟩
                        · refine Go.st (V' := s₁.setTop (mkF m 93 #[.val (.int p0)] [(.int (44 : Int32)), (.int p0)])) (fun t k => ?_) ?_
                          · refine XS.icmpNo X0.here hx rfl (hb hby own_d2_87) rfl (feq hc29).1 ?_
                            show Steps p.tables e below (s₁.setTop (mkF m 90 #[.val (.int p0)] [])) _
                            refine XS.iloadN X0.here hx rfl (hb hby own_d2_90) rfl  ?_
                            show Steps p.tables e below (s₁.setTop (mkF m 91 #[.val (.int p0)] [(.int p0)])) _
                            refine XS.bipush X0.here hx rfl (hb hby own_d2_91) ?_
                            show Steps p.tables e below (s₁.setTop (mkF m 93 #[.val (.int p0)] [(.int (44 : Int32)), (.int p0)])) _
                            exact k
                          by_cases hc30 : p0 = (44 : Int32)
                          · refine Go.st (V' := s₁.setTop (mkF m 113 #[.val (.int p0)] [(.int (1 : Int32))])) (fun t k => ?_) ?_
                            · refine XS.icmpYes X0.here hx rfl (pc0 := 93) (pc' := 108) rfl (hb hby own_d2_93) rfl (teq hc30).1 (by decide) (by decide) ?_
                              show Steps p.tables e below (s₁.setTop (mkF m 108 #[.val (.int p0)] [])) _
                              refine XS.iconst X0.here hx rfl (hb hby own_d2_108) ?_
                              show Steps p.tables e below (s₁.setTop (mkF m 109 #[.val (.int p0)] [(.int (1 : Int32))])) _
                              refine XS.goto X0.here hx rfl (pc0 := 109) (pc' := 113) rfl (hb hby own_d2_109) (by decide) (by decide) ?_
                              show Steps p.tables e below (s₁.setTop (mkF m 113 #[.val (.int p0)] [(.int (1 : Int32))])) _
                              exact k
                            obtain ⟨fs, hr, hrun, hended, hW, hsame⟩ := X0.leave (v := some (.int (1 : Int32))) (fun h => by rw [Bd.returns] at h; cases h)
                            refine Go.mk' ⟨_, _, retN X0 hx (t := .boolean) Bd.returns (by simp) (hb hby own_d2_113) hr, hrun, hended, _, _, rfl, ?_, ⟨_, rfl⟩, hW, hsame.mono (by decide) (by decide)⟩
                            show Q2 Z p0 h0 n0 _ s₁.heap _
                            rw [e0]
                            exact ⟨(by rw [f2, if_pos hc7, if_pos hc8, if_neg hc9, if_pos hc21, if_neg hc22, if_neg hc23, if_neg hc24, if_neg hc25, if_neg hc26, if_neg hc27, if_neg hc28, if_neg hc29, if_pos hc30]), N0, rfl⟩
                          · refine Go.st (V' := s₁.setTop (mkF m 99 #[.val (.int p0)] [(.int (39 : Int32)), (.int p0)])) (fun t k => ?_) ?_
                            · refine XS.icmpNo X0.here hx rfl (hb hby own_d2_93) rfl (feq hc30).1 ?_
                              show Steps p.tables e below (s₁.setTop (mkF m 96 #[.val (.int p0)] [])) _
                              refine XS.iloadN X0.here hx rfl (hb hby own_d2_96) rfl  ?_
                              show Steps p.tables e below (s₁.setTop (mkF m 97 #[.val (.int p0)] [(.int p0)])) _
                              refine XS.bipush X0.here hx rfl (hb hby own_d2_97) ?_
                              show Steps p.tables e below (s₁.setTop (mkF m 99 #[.val (.int p0)] [(.int (39 : Int32)), (.int p0)])) _
                              exact k
                            by_cases hc31 : p0 = (39 : Int32)
                            · refine Go.st (V' := s₁.setTop (mkF m 113 #[.val (.int p0)] [(.int (1 : Int32))])) (fun t k => ?_) ?_
                              · refine XS.icmpYes X0.here hx rfl (pc0 := 99) (pc' := 108) rfl (hb hby own_d2_99) rfl (teq hc31).1 (by decide) (by decide) ?_
                                show Steps p.tables e below (s₁.setTop (mkF m 108 #[.val (.int p0)] [])) _
                                refine XS.iconst X0.here hx rfl (hb hby own_d2_108) ?_
                                show Steps p.tables e below (s₁.setTop (mkF m 109 #[.val (.int p0)] [(.int (1 : Int32))])) _
                                refine XS.goto X0.here hx rfl (pc0 := 109) (pc' := 113) rfl (hb hby own_d2_109) (by decide) (by decide) ?_
                                show Steps p.tables e below (s₁.setTop (mkF m 113 #[.val (.int p0)] [(.int (1 : Int32))])) _
                                exact k
                              obtain ⟨fs, hr, hrun, hended, hW, hsame⟩ := X0.leave (v := some (.int (1 : Int32))) (fun h => by rw [Bd.returns] at h; cases h)
                              refine Go.mk' ⟨_, _, retN X0 hx (t := .boolean) Bd.returns (by simp) (hb hby own_d2_113) hr, hrun, hended, _, _, rfl, ?_, ⟨_, rfl⟩, hW, hsame.mono (by decide) (by decide)⟩
                              show Q2 Z p0 h0 n0 _ s₁.heap _
                              rw [e0]
                              exact ⟨(by rw [f2, if_pos hc7, if_pos hc8, if_neg hc9, if_pos hc21, if_neg hc22, if_neg hc23, if_neg hc24, if_neg hc25, if_neg hc26, if_neg hc27, if_neg hc28, if_neg hc29, if_neg hc30, if_pos hc31]), N0, rfl⟩
                            · refine Go.st (V' := s₁.setTop (mkF m 105 #[.val (.int p0)] [(.int (43 : Int32)), (.int p0)])) (fun t k => ?_) ?_
                              · refine XS.icmpNo X0.here hx rfl (hb hby own_d2_99) rfl (feq hc31).1 ?_
                                show Steps p.tables e below (s₁.setTop (mkF m 102 #[.val (.int p0)] [])) _
                                refine XS.iloadN X0.here hx rfl (hb hby own_d2_102) rfl  ?_
                                show Steps p.tables e below (s₁.setTop (mkF m 103 #[.val (.int p0)] [(.int p0)])) _
                                refine XS.bipush X0.here hx rfl (hb hby own_d2_103) ?_
                                show Steps p.tables e below (s₁.setTop (mkF m 105 #[.val (.int p0)] [(.int (43 : Int32)), (.int p0)])) _
                                exact k
                              by_cases hc32 : p0 = (43 : Int32)
                              · refine Go.st (V' := s₁.setTop (mkF m 113 #[.val (.int p0)] [(.int (1 : Int32))])) (fun t k => ?_) ?_
                                · refine XS.icmpNo X0.here hx rfl (hb hby own_d2_105) rfl (teq hc32).2 ?_
                                  show Steps p.tables e below (s₁.setTop (mkF m 108 #[.val (.int p0)] [])) _
                                  refine XS.iconst X0.here hx rfl (hb hby own_d2_108) ?_
                                  show Steps p.tables e below (s₁.setTop (mkF m 109 #[.val (.int p0)] [(.int (1 : Int32))])) _
                                  refine XS.goto X0.here hx rfl (pc0 := 109) (pc' := 113) rfl (hb hby own_d2_109) (by decide) (by decide) ?_
                                  show Steps p.tables e below (s₁.setTop (mkF m 113 #[.val (.int p0)] [(.int (1 : Int32))])) _
                                  exact k
                                obtain ⟨fs, hr, hrun, hended, hW, hsame⟩ := X0.leave (v := some (.int (1 : Int32))) (fun h => by rw [Bd.returns] at h; cases h)
                                refine Go.mk' ⟨_, _, retN X0 hx (t := .boolean) Bd.returns (by simp) (hb hby own_d2_113) hr, hrun, hended, _, _, rfl, ?_, ⟨_, rfl⟩, hW, hsame.mono (by decide) (by decide)⟩
                                show Q2 Z p0 h0 n0 _ s₁.heap _
                                rw [e0]
                                exact ⟨(by rw [f2, if_pos hc7, if_pos hc8, if_neg hc9, if_pos hc21, if_neg hc22, if_neg hc23, if_neg hc24, if_neg hc25, if_neg hc26, if_neg hc27, if_neg hc28, if_neg hc29, if_neg hc30, if_neg hc31, if_pos hc32]), N0, rfl⟩
                              · refine Go.st (V' := s₁.setTop (mkF m 113 #[.val (.int p0)] [(.int (0 : Int32))])) (fun t k => ?_) ?_
                                · refine XS.icmpYes X0.here hx rfl (pc0 := 105) (pc' := 112) rfl (hb hby own_d2_105) rfl (feq hc32).2 (by decide) (by decide) ?_
                                  show Steps p.tables e below (s₁.setTop (mkF m 112 #[.val (.int p0)] [])) _
                                  refine XS.iconst X0.here hx rfl (hb hby own_d2_112) ?_
                                  show Steps p.tables e below (s₁.setTop (mkF m 113 #[.val (.int p0)] [(.int (0 : Int32))])) _
                                  exact k
                                obtain ⟨fs, hr, hrun, hended, hW, hsame⟩ := X0.leave (v := some (.int (0 : Int32))) (fun h => by rw [Bd.returns] at h; cases h)
                                refine Go.mk' ⟨_, _, retN X0 hx (t := .boolean) Bd.returns (by simp) (hb hby own_d2_113) hr, hrun, hended, _, _, rfl, ?_, ⟨_, rfl⟩, hW, hsame.mono (by decide) (by decide)⟩
                                show Q2 Z p0 h0 n0 _ s₁.heap _
                                rw [e0]
                                exact ⟨(by rw [f2, if_pos hc7, if_pos hc8, if_neg hc9, if_pos hc21, if_neg hc22, if_neg hc23, if_neg hc24, if_neg hc25, if_neg hc26, if_neg hc27, if_neg hc28, if_neg hc29, if_neg hc30, if_neg hc31, if_neg hc32]), N0, rfl⟩
        · refine Go.st (V' := s₁.setTop (mkF m 41 #[.val (.int p0)] [(.int (1 : Int32))])) (fun t k => ?_) ?_
          · refine XS.icmpNo X0.here hx rfl (hb hby own_d2_37) rfl (flt hc21).2.2.1 ?_
            show Steps p.tables e below (s₁.setTop (mkF m 40 #[.val (.int p0)] [])) _
            refine XS.iconst X0.here hx rfl (hb hby own_d2_40) ?_
            show Steps p.tables e below (s₁.setTop (mkF m 41 #[.val (.int p0)] [(.int (1 : Int32))])) _
            exact k
          obtain ⟨fs, hr, hrun, hended, hW, hsame⟩ := X0.leave (v := some (.int (1 : Int32))) (fun h => by rw [Bd.returns] at h; cases h)
          refine Go.mk' ⟨_, _, retN X0 hx (t := .boolean) Bd.returns (by simp) (hb hby own_d2_41) hr, hrun, hended, _, _, rfl, ?_, ⟨_, rfl⟩, hW, hsame.mono (by decide) (by decide)⟩
          show Q2 Z p0 h0 n0 _ s₁.heap _
          rw [e0]
          exact ⟨(by rw [f2, if_pos hc7, if_pos hc8, if_neg hc9, if_neg hc21]), N0, rfl⟩
    · refine Go.st (V' := s₁.setTop (mkF m 23 #[.val (.int p0)] [(.int (122 : Int32)), (.int p0)])) (fun t k => ?_) ?_
      · refine XS.icmpNo X0.here hx rfl (hb hby own_d2_17) rfl (flt hc8).1 ?_
        show Steps p.tables e below (s₁.setTop (mkF m 20 #[.val (.int p0)] [])) _
        refine XS.iloadN X0.here hx rfl (hb hby own_d2_20) rfl  ?_
        show Steps p.tables e below (s₁.setTop (mkF m 21 #[.val (.int p0)] [(.int p0)])) _
        refine XS.bipush X0.here hx rfl (hb hby own_d2_21) ?_
        show Steps p.tables e below (s₁.setTop (mkF m 23 #[.val (.int p0)] [(.int (122 : Int32)), (.int p0)])) _
        exact k
      by_cases hc33 : (122 : Int32) < p0
      · refine Go.st (V' := s₁.setTop (mkF m 31 #[.val (.int p0)] [(.int (48 : Int32)), (.int p0)])) (fun t k => ?_) ?_
        · refine XS.icmpYes X0.here hx rfl (pc0 := 23) (pc' := 28) rfl (hb hby own_d2_23) rfl (tlt hc33).2.2.1 (by decide) (by decide) ?_
          show Steps p.tables e below (s₁.setTop (mkF m 28 #[.val (.int p0)] [])) _
          refine XS.iloadN X0.here hx rfl (hb hby own_d2_28) rfl  ?_
          show Steps p.tables e below (s₁.setTop (mkF m 29 #[.val (.int p0)] [(.int p0)])) _
          refine XS.bipush X0.here hx rfl (hb hby own_d2_29) ?_
          show Steps p.tables e below (s₁.setTop (mkF m 31 #[.val (.int p0)] [(.int (48 : Int32)), (.int p0)])) _
          exact k
        by_cases hc34 : p0 < (48 : Int32)
        · refine Go.st (V' := s₁.setTop (mkF m 45 #[.val (.int p0)] [(.int (32 : Int32)), (.int p0)])) (fun t k => ?_) ?_
          · refine XS.icmpYes X0.here hx rfl (pc0 := 31) (pc' := 42) rfl (hb hby own_d2_31) rfl (tlt hc34).1 (by decide) (by decide) ?_
            show Steps p.tables e below (s₁.setTop (mkF m 42 #[.val (.int p0)] [])) _
            refine XS.iloadN X0.here hx rfl (hb hby own_d2_42) rfl  ?_
            show Steps p.tables e below (s₁.setTop (mkF m 43 #[.val (.int p0)] [(.int p0)])) _
            refine XS.bipush X0.here hx rfl (hb hby own_d2_43) ?_
            show Steps p.tables e below (s₁.setTop (mkF m 45 #[.val (.int p0)] [(.int (32 : Int32)), (.int p0)])) _
            exact k
          by_cases hc35 : p0 = (32 : Int32)
          · refine Go.st (V' := s₁.setTop (mkF m 113 #[.val (.int p0)] [(.int (1 : Int32))])) (fun t k => ?_) ?_
            · refine XS.icmpYes X0.here hx rfl (pc0 := 45) (pc' := 108) rfl (hb hby own_d2_45) rfl (teq hc35).1 (by decide) (by decide) ?_
              show Steps p.tables e below (s₁.setTop (mkF m 108 #[.val (.int p0)] [])) _
              refine XS.iconst X0.here hx rfl (hb hby own_d2_108) ?_
              show Steps p.tables e below (s₁.setTop (mkF m 109 #[.val (.int p0)] [(.int (1 : Int32))])) _
              refine XS.goto X0.here hx rfl (pc0 := 109) (pc' := 113) rfl (hb hby own_d2_109) (by decide) (by decide) ?_
              show Steps p.tables e below (s₁.setTop (mkF m 113 #[.val (.int p0)] [(.int (1 : Int32))])) _
              exact k
            obtain ⟨fs, hr, hrun, hended, hW, hsame⟩ := X0.leave (v := some (.int (1 : Int32))) (fun h => by rw [Bd.returns] at h; cases h)
            refine Go.mk' ⟨_, _, retN X0 hx (t := .boolean) Bd.returns (by simp) (hb hby own_d2_113) hr, hrun, hended, _, _, rfl, ?_, ⟨_, rfl⟩, hW, hsame.mono (by decide) (by decide)⟩
            show Q2 Z p0 h0 n0 _ s₁.heap _
            rw [e0]
            exact ⟨(by rw [f2, if_pos hc7, if_neg hc8, if_pos hc33, if_pos hc34, if_pos hc35]), N0, rfl⟩
          · refine Go.st (V' := s₁.setTop (mkF m 51 #[.val (.int p0)] [(.int (47 : Int32)), (.int p0)])) (fun t k => ?_) ?_
            · refine XS.icmpNo X0.here hx rfl (hb hby own_d2_45) rfl (feq hc35).1 ?_
              show Steps p.tables e below (s₁.setTop (mkF m 48 #[.val (.int p0)] [])) _
              refine XS.iloadN X0.here hx rfl (hb hby own_d2_48) rfl  ?_
              show Steps p.tables e below (s₁.setTop (mkF m 49 #[.val (.int p0)] [(.int p0)])) _
              refine XS.bipush X0.here hx rfl (hb hby own_d2_49) ?_
              show Steps p.tables e below (s₁.setTop (mkF m 51 #[.val (.int p0)] [(.int (47 : Int32)), (.int p0)])) _
              exact k
            by_cases hc36 : p0 = (47 : Int32)
            · refine Go.st (V' := s₁.setTop (mkF m 113 #[.val (.int p0)] [(.int (1 : Int32))])) (fun t k => ?_) ?_
              · refine XS.icmpYes X0.here hx rfl (pc0 := 51) (pc' := 108) rfl (hb hby own_d2_51) rfl (teq hc36).1 (by decide) (by decide) ?_
                show Steps p.tables e below (s₁.setTop (mkF m 108 #[.val (.int p0)] [])) _
                refine XS.iconst X0.here hx rfl (hb hby own_d2_108) ?_
                show Steps p.tables e below (s₁.setTop (mkF m 109 #[.val (.int p0)] [(.int (1 : Int32))])) _
                refine XS.goto X0.here hx rfl (pc0 := 109) (pc' := 113) rfl (hb hby own_d2_109) (by decide) (by decide) ?_
                show Steps p.tables e below (s₁.setTop (mkF m 113 #[.val (.int p0)] [(.int (1 : Int32))])) _
                exact k
              obtain ⟨fs, hr, hrun, hended, hW, hsame⟩ := X0.leave (v := some (.int (1 : Int32))) (fun h => by rw [Bd.returns] at h; cases h)
              refine Go.mk' ⟨_, _, retN X0 hx (t := .boolean) Bd.returns (by simp) (hb hby own_d2_113) hr, hrun, hended, _, _, rfl, ?_, ⟨_, rfl⟩, hW, hsame.mono (by decide) (by decide)⟩
              show Q2 Z p0 h0 n0 _ s₁.heap _
              rw [e0]
              exact ⟨(by rw [f2, if_pos hc7, if_neg hc8, if_pos hc33, if_pos hc34, if_neg hc35, if_pos hc36]), N0, rfl⟩
            · refine Go.st (V' := s₁.setTop (mkF m 57 #[.val (.int p0)] [(.int (45 : Int32)), (.int p0)])) (fun t k => ?_) ?_
              · refine XS.icmpNo X0.here hx rfl (hb hby own_d2_51) rfl (feq hc36).1 ?_
                show Steps p.tables e below (s₁.setTop (mkF m 54 #[.val (.int p0)] [])) _
                refine XS.iloadN X0.here hx rfl (hb hby own_d2_54) rfl  ?_
                show Steps p.tables e below (s₁.setTop (mkF m 55 #[.val (.int p0)] [(.int p0)])) _
                refine XS.bipush X0.here hx rfl (hb hby own_d2_55) ?_
                show Steps p.tables e below (s₁.setTop (mkF m 57 #[.val (.int p0)] [(.int (45 : Int32)), (.int p0)])) _
                exact k
              by_cases hc37 : p0 = (45 : Int32)
              · refine Go.st (V' := s₁.setTop (mkF m 113 #[.val (.int p0)] [(.int (1 : Int32))])) (fun t k => ?_) ?_
                · refine XS.icmpYes X0.here hx rfl (pc0 := 57) (pc' := 108) rfl (hb hby own_d2_57) rfl (teq hc37).1 (by decide) (by decide) ?_
                  show Steps p.tables e below (s₁.setTop (mkF m 108 #[.val (.int p0)] [])) _
                  refine XS.iconst X0.here hx rfl (hb hby own_d2_108) ?_
                  show Steps p.tables e below (s₁.setTop (mkF m 109 #[.val (.int p0)] [(.int (1 : Int32))])) _
                  refine XS.goto X0.here hx rfl (pc0 := 109) (pc' := 113) rfl (hb hby own_d2_109) (by decide) (by decide) ?_
                  show Steps p.tables e below (s₁.setTop (mkF m 113 #[.val (.int p0)] [(.int (1 : Int32))])) _
                  exact k
                obtain ⟨fs, hr, hrun, hended, hW, hsame⟩ := X0.leave (v := some (.int (1 : Int32))) (fun h => by rw [Bd.returns] at h; cases h)
                refine Go.mk' ⟨_, _, retN X0 hx (t := .boolean) Bd.returns (by simp) (hb hby own_d2_113) hr, hrun, hended, _, _, rfl, ?_, ⟨_, rfl⟩, hW, hsame.mono (by decide) (by decide)⟩
                show Q2 Z p0 h0 n0 _ s₁.heap _
                rw [e0]
                exact ⟨(by rw [f2, if_pos hc7, if_neg hc8, if_pos hc33, if_pos hc34, if_neg hc35, if_neg hc36, if_pos hc37]), N0, rfl⟩
              · refine Go.st (V' := s₁.setTop (mkF m 63 #[.val (.int p0)] [(.int (63 : Int32)), (.int p0)])) (fun t k => ?_) ?_
                · refine XS.icmpNo X0.here hx rfl (hb hby own_d2_57) rfl (feq hc37).1 ?_
                  show Steps p.tables e below (s₁.setTop (mkF m 60 #[.val (.int p0)] [])) _
                  refine XS.iloadN X0.here hx rfl (hb hby own_d2_60) rfl  ?_
                  show Steps p.tables e below (s₁.setTop (mkF m 61 #[.val (.int p0)] [(.int p0)])) _
                  refine XS.bipush X0.here hx rfl (hb hby own_d2_61) ?_
                  show Steps p.tables e below (s₁.setTop (mkF m 63 #[.val (.int p0)] [(.int (63 : Int32)), (.int p0)])) _
                  exact k
                by_cases hc38 : p0 = (63 : Int32)
                · refine Go.st (V' := s₁.setTop (mkF m 113 #[.val (.int p0)] [(.int (1 : Int32))])) (fun t k => ?_) ?_
                  · refine XS.icmpYes X0.here hx rfl (pc0 := 63) (pc' := 108) rfl (hb hby own_d2_63) rfl (teq hc38).1 (by decide) (by decide) ?_
                    show Steps p.tables e below (s₁.setTop (mkF m 108 #[.val (.int p0)] [])) _
                    refine XS.iconst X0.here hx rfl (hb hby own_d2_108) ?_
                    show Steps p.tables e below (s₁.setTop (mkF m 109 #[.val (.int p0)] [(.int (1 : Int32))])) _
                    refine XS.goto X0.here hx rfl (pc0 := 109) (pc' := 113) rfl (hb hby own_d2_109) (by decide) (by decide) ?_
                    show Steps p.tables e below (s₁.setTop (mkF m 113 #[.val (.int p0)] [(.int (1 : Int32))])) _
                    exact k
                  obtain ⟨fs, hr, hrun, hended, hW, hsame⟩ := X0.leave (v := some (.int (1 : Int32))) (fun h => by rw [Bd.returns] at h; cases h)
                  refine Go.mk' ⟨_, _, retN X0 hx (t := .boolean) Bd.returns (by simp) (hb hby own_d2_113) hr, hrun, hended, _, _, rfl, ?_, ⟨_, rfl⟩, hW, hsame.mono (by decide) (by decide)⟩
                  show Q2 Z p0 h0 n0 _ s₁.heap _
                  rw [e0]
                  exact ⟨(by rw [f2, if_pos hc7, if_neg hc8, if_pos hc33, if_pos hc34, if_neg hc35, if_neg hc36, if_neg hc37, if_pos hc38]), N0, rfl⟩
                · refine Go.st (V' := s₁.setTop (mkF m 69 #[.val (.int p0)] [(.int (58 : Int32)), (.int p0)])) (fun t k => ?_) ?_
                  · refine XS.icmpNo X0.here hx rfl (hb hby own_d2_63) rfl (feq hc38).1 ?_
                    show Steps p.tables e below (s₁.setTop (mkF m 66 #[.val (.int p0)] [])) _
                    refine XS.iloadN X0.here hx rfl (hb hby own_d2_66) rfl  ?_
                    show Steps p.tables e below (s₁.setTop (mkF m 67 #[.val (.int p0)] [(.int p0)])) _
                    refine XS.bipush X0.here hx rfl (hb hby own_d2_67) ?_
                    show Steps p.tables e below (s₁.setTop (mkF m 69 #[.val (.int p0)] [(.int (58 : Int32)), (.int p0)])) _
                    exact k
                  by_cases hc39 : p0 = (58 : Int32)
                  · refine Go.st (V' := s₁.setTop (mkF m 113 #[.val (.int p0)] [(.int (1 : Int32))])) (fun t k => ?_) ?_
                    · refine XS.icmpYes X0.here hx rfl (pc0 := 69) (pc' := 108) rfl (hb hby own_d2_69) rfl (teq hc39).1 (by decide) (by decide) ?_
                      show Steps p.tables e below (s₁.setTop (mkF m 108 #[.val (.int p0)] [])) _
                      refine XS.iconst X0.here hx rfl (hb hby own_d2_108) ?_
                      show Steps p.tables e below (s₁.setTop (mkF m 109 #[.val (.int p0)] [(.int (1 : Int32))])) _
                      refine XS.goto X0.here hx rfl (pc0 := 109) (pc' := 113) rfl (hb hby own_d2_109) (by decide) (by decide) ?_
                      show Steps p.tables e below (s₁.setTop (mkF m 113 #[.val (.int p0)] [(.int (1 : Int32))])) _
                      exact k
                    obtain ⟨fs, hr, hrun, hended, hW, hsame⟩ := X0.leave (v := some (.int (1 : Int32))) (fun h => by rw [Bd.returns] at h; cases h)
                    refine Go.mk' ⟨_, _, retN X0 hx (t := .boolean) Bd.returns (by simp) (hb hby own_d2_113) hr, hrun, hended, _, _, rfl, ?_, ⟨_, rfl⟩, hW, hsame.mono (by decide) (by decide)⟩
                    show Q2 Z p0 h0 n0 _ s₁.heap _
                    rw [e0]
                    exact ⟨(by rw [f2, if_pos hc7, if_neg hc8, if_pos hc33, if_pos hc34, if_neg hc35, if_neg hc36, if_neg hc37, if_neg hc38, if_pos hc39]), N0, rfl⟩
                  · refine Go.st (V' := s₁.setTop (mkF m 75 #[.val (.int p0)] [(.int (40 : Int32)), (.int p0)])) (fun t k => ?_) ?_
                    · refine XS.icmpNo X0.here hx rfl (hb hby own_d2_69) rfl (feq hc39).1 ?_
                      show Steps p.tables e below (s₁.setTop (mkF m 72 #[.val (.int p0)] [])) _
                      refine XS.iloadN X0.here hx rfl (hb hby own_d2_72) rfl  ?_
                      show Steps p.tables e below (s₁.setTop (mkF m 73 #[.val (.int p0)] [(.int p0)])) _
                      refine XS.bipush X0.here hx rfl (hb hby own_d2_73) ?_
                      show Steps p.tables e below (s₁.setTop (mkF m 75 #[.val (.int p0)] [(.int (40 : Int32)), (.int p0)])) _
                      exact k
                    by_cases hc40 : p0 = (40 : Int32)
                    · refine Go.st (V' := s₁.setTop (mkF m 113 #[.val (.int p0)] [(.int (1 : Int32))])) (fun t k => ?_) ?_
                      · refine XS.icmpYes X0.here hx rfl (pc0 := 75) (pc' := 108) rfl (hb hby own_d2_75) rfl (teq hc40).1 (by decide) (by decide) ?_
                        show Steps p.tables e below (s₁.setTop (mkF m 108 #[.val (.int p0)] [])) _
                        refine XS.iconst X0.here hx rfl (hb hby own_d2_108) ?_
                        show Steps p.tables e below (s₁.setTop (mkF m 109 #[.val (.int p0)] [(.int (1 : Int32))])) _
                        refine XS.goto X0.here hx rfl (pc0 := 109) (pc' := 113) rfl (hb hby own_d2_109) (by decide) (by decide) ?_
                        show Steps p.tables e below (s₁.setTop (mkF m 113 #[.val (.int p0)] [(.int (1 : Int32))])) _
                        exact k
                      obtain ⟨fs, hr, hrun, hended, hW, hsame⟩ := X0.leave (v := some (.int (1 : Int32))) (fun h => by rw [Bd.returns] at h; cases h)
                      refine Go.mk' ⟨_, _, retN X0 hx (t := .boolean) Bd.returns (by simp) (hb hby own_d2_113) hr, hrun, hended, _, _, rfl, ?_, ⟨_, rfl⟩, hW, hsame.mono (by decide) (by decide)⟩
                      show Q2 Z p0 h0 n0 _ s₁.heap _
                      rw [e0]
                      exact ⟨(by rw [f2, if_pos hc7, if_neg hc8, if_pos hc33, if_pos hc34, if_neg hc35, if_neg hc36, if_neg hc37, if_neg hc38, if_neg hc39, if_pos hc40]), N0, rfl⟩
                    · refine Go.st (V' := s₁.setTop (mkF m 81 #[.val (.int p0)] [(.int (41 : Int32)), (.int p0)])) (fun t k => ?_) ?_
                      · refine XS.icmpNo X0.here hx rfl (hb hby own_d2_75) rfl (feq hc40).1 ?_
                        show Steps p.tables e below (s₁.setTop (mkF m 78 #[.val (.int p0)] [])) _
                        refine XS.iloadN X0.here hx rfl (hb hby own_d2_78) rfl  ?_
                        show Steps p.tables e below (s₁.setTop (mkF m 79 #[.val (.int p0)] [(.int p0)])) _
                        refine XS.bipush X0.here hx rfl (hb hby own_d2_79) ?_
                        show Steps p.tables e below (s₁.setTop (mkF m 81 #[.val (.int p0)] [(.int (41 : Int32)), (.int p0)])) _
                        exact k
                      by_cases hc41 : p0 = (41 : Int32)
                      · refine Go.st (V' := s₁.setTop (mkF m 113 #[.val (.int p0)] [(.int (1 : Int32))])) (fun t k => ?_) ?_
                        · refine XS.icmpYes X0.here hx rfl (pc0 := 81) (pc' := 108) rfl (hb hby own_d2_81) rfl (teq hc41).1 (by decide) (by decide) ?_
                          show Steps p.tables e below (s₁.setTop (mkF m 108 #[.val (.int p0)] [])) _
                          refine XS.iconst X0.here hx rfl (hb hby own_d2_108) ?_
                          show Steps p.tables e below (s₁.setTop (mkF m 109 #[.val (.int p0)] [(.int (1 : Int32))])) _
                          refine XS.goto X0.here hx rfl (pc0 := 109) (pc' := 113) rfl (hb hby own_d2_109) (by decide) (by decide) ?_
                          show Steps p.tables e below (s₁.setTop (mkF m 113 #[.val (.int p0)] [(.int (1 : Int32))])) _
                          exact k
                        obtain ⟨fs, hr, hrun, hended, hW, hsame⟩ := X0.leave (v := some (.int (1 : Int32))) (fun h => by rw [Bd.returns] at h; cases h)
                        refine Go.mk' ⟨_, _, retN X0 hx (t := .boolean) Bd.returns (by simp) (hb hby own_d2_113) hr, hrun, hended, _, _, rfl, ?_, ⟨_, rfl⟩, hW, hsame.mono (by decide) (by decide)⟩
                        show Q2 Z p0 h0 n0 _ s₁.heap _
                        rw [e0]
                        exact ⟨(by rw [f2, if_pos hc7, if_neg hc8, if_pos hc33, if_pos hc34, if_neg hc35, if_neg hc36, if_neg hc37, if_neg hc38, if_neg hc39, if_neg hc40, if_pos hc41]), N0, rfl⟩
                      · refine Go.st (V' := s₁.setTop (mkF m 87 #[.val (.int p0)] [(.int (46 : Int32)), (.int p0)])) (fun t k => ?_) ?_
                        · refine XS.icmpNo X0.here hx rfl (hb hby own_d2_81) rfl (feq hc41).1 ?_
                          show Steps p.tables e below (s₁.setTop (mkF m 84 #[.val (.int p0)] [])) _
                          refine XS.iloadN X0.here hx rfl (hb hby own_d2_84) rfl  ?_
                          show Steps p.tables e below (s₁.setTop (mkF m 85 #[.val (.int p0)] [(.int p0)])) _
                          refine XS.bipush X0.here hx rfl (hb hby own_d2_85) ?_
                          show Steps p.tables e below (s₁.setTop (mkF m 87 #[.val (.int p0)] [(.int (46 : Int32)), (.int p0)])) _
                          exact k
                        by_cases hc42 : p0 = (46 : Int32)
                        · refine Go.st (V' := s₁.setTop (mkF m 113 #[.val (.int p0)] [(.int (1 : Int32))])) (fun t k => ?_) ?_
                          · refine XS.icmpYes X0.here hx rfl (pc0 := 87) (pc' := 108) rfl (hb hby own_d2_87) rfl (teq hc42).1 (by decide) (by decide) ?_
                            show Steps p.tables e below (s₁.setTop (mkF m 108 #[.val (.int p0)] [])) _
                            refine XS.iconst X0.here hx rfl (hb hby own_d2_108) ?_
                            show Steps p.tables e below (s₁.setTop (mkF m 109 #[.val (.int p0)] [(.int (1 : Int32))])) _
                            refine XS.goto X0.here hx rfl (pc0 := 109) (pc' := 113) rfl (hb hby own_d2_109) (by decide) (by decide) ?_
                            show Steps p.tables e below (s₁.setTop (mkF m 113 #[.val (.int p0)] [(.int (1 : Int32))])) _
                            exact k
                          obtain ⟨fs, hr, hrun, hended, hW, hsame⟩ := X0.leave (v := some (.int (1 : Int32))) (fun h => by rw [Bd.returns] at h; cases h)
                          refine Go.mk' ⟨_, _, retN X0 hx (t := .boolean) Bd.returns (by simp) (hb hby own_d2_113) hr, hrun, hended, _, _, rfl, ?_, ⟨_, rfl⟩, hW, hsame.mono (by decide) (by decide)⟩
                          show Q2 Z p0 h0 n0 _ s₁.heap _
                          rw [e0]
                          exact ⟨(by rw [f2, if_pos hc7, if_neg hc8, if_pos hc33, if_pos hc34, if_neg hc35, if_neg hc36, if_neg hc37, if_neg hc38, if_neg hc39, if_neg hc40, if_neg hc41, if_pos hc42]), N0, rfl⟩
                        · refine Go.st (V' := s₁.setTop (mkF m 93 #[.val (.int p0)] [(.int (44 : Int32)), (.int p0)])) (fun t k => ?_) ?_
                          · refine XS.icmpNo X0.here hx rfl (hb hby own_d2_87) rfl (feq hc42).1 ?_
                            show Steps p.tables e below (s₁.setTop (mkF m 90 #[.val (.int p0)] [])) _
                            refine XS.iloadN X0.here hx rfl (hb hby own_d2_90) rfl  ?_
                            show Steps p.tables e below (s₁.setTop (mkF m 91 #[.val (.int p0)] [(.int p0)])) _
                            refine XS.bipush X0.here hx rfl (hb hby own_d2_91) ?_
                            show Steps p.tables e below (s₁.setTop (mkF m 93 #[.val (.int p0)] [(.int (44 : Int32)), (.int p0)])) _
                            exact k
                          by_cases hc43 : p0 = (44 : Int32)
                          · refine Go.st (V' := s₁.setTop (mkF m 113 #[.val (.int p0)] [(.int (1 : Int32))])) (fun t k => ?_) ?_
                            · refine XS.icmpYes X0.here hx rfl (pc0 := 93) (pc' := 108) rfl (hb hby own_d2_93) rfl (teq hc43).1 (by decide) (by decide) ?_
                              show Steps p.tables e below (s₁.setTop (mkF m 108 #[.val (.int p0)] [])) _
                              refine XS.iconst X0.here hx rfl (hb hby own_d2_108) ?_
                              show Steps p.tables e below (s₁.setTop (mkF m 109 #[.val (.int p0)] [(.int (1 : Int32))])) _
                              refine XS.goto X0.here hx rfl (pc0 := 109) (pc' := 113) rfl (hb hby own_d2_109) (by decide) (by decide) ?_
                              show Steps p.tables e below (s₁.setTop (mkF m 113 #[.val (.int p0)] [(.int (1 : Int32))])) _
                              exact k
                            obtain ⟨fs, hr, hrun, hended, hW, hsame⟩ := X0.leave (v := some (.int (1 : Int32))) (fun h => by rw [Bd.returns] at h; cases h)
                            refine Go.mk' ⟨_, _, retN X0 hx (t := .boolean) Bd.returns (by simp) (hb hby own_d2_113) hr, hrun, hended, _, _, rfl, ?_, ⟨_, rfl⟩, hW, hsame.mono (by decide) (by decide)⟩
                            show Q2 Z p0 h0 n0 _ s₁.heap _
                            rw [e0]
                            exact ⟨(by rw [f2, if_pos hc7, if_neg hc8, if_pos hc33, if_pos hc34, if_neg hc35, if_neg hc36, if_neg hc37, if_neg hc38, if_neg hc39, if_neg hc40, if_neg hc41, if_neg hc42, if_pos hc43]), N0, rfl⟩
                          · refine Go.st (V' := s₁.setTop (mkF m 99 #[.val (.int p0)] [(.int (39 : Int32)), (.int p0)])) (fun t k => ?_) ?_
                            · refine XS.icmpNo X0.here hx rfl (hb hby own_d2_93) rfl (feq hc43).1 ?_
                              show Steps p.tables e below (s₁.setTop (mkF m 96 #[.val (.int p0)] [])) _
                              refine XS.iloadN X0.here hx rfl (hb hby own_d2_96) rfl  ?_
                              show Steps p.tables e below (s₁.setTop (mkF m 97 #[.val (.int p0)] [(.int p0)])) _
                              refine XS.bipush X0.here hx rfl (hb hby own_d2_97) ?_
                              show Steps p.tables e below (s₁.setTop (mkF m 99 #[.val (.int p0)] [(.int (39 : Int32)), (.int p0)])) _
                              exact k
                            by_cases hc44 : p0 = (39 : Int32)
                            · refine Go.st (V' := s₁.setTop (mkF m 113 #[.val (.int p0)] [(.int (1 : Int32))])) (fun t k => ?_) ?_
                              · refine XS.icmpYes X0.here hx rfl (pc0 := 99) (pc' := 108) rfl (hb hby own_d2_99) rfl (teq hc44).1 (by decide) (by decide) ?_
                                show Steps p.tables e below (s₁.setTop (mkF m 108 #[.val (.int p0)] [])) _
                                refine XS.iconst X0.here hx rfl (hb hby own_d2_108) ?_
                                show Steps p.tables e below (s₁.setTop (mkF m 109 #[.val (.int p0)] [(.int (1 : Int32))])) _
                                refine XS.goto X0.here hx rfl (pc0 := 109) (pc' := 113) rfl (hb hby own_d2_109) (by decide) (by decide) ?_
                                show Steps p.tables e below (s₁.setTop (mkF m 113 #[.val (.int p0)] [(.int (1 : Int32))])) _
                                exact k
                              obtain ⟨fs, hr, hrun, hended, hW, hsame⟩ := X0.leave (v := some (.int (1 : Int32))) (fun h => by rw [Bd.returns] at h; cases h)
                              refine Go.mk' ⟨_, _, retN X0 hx (t := .boolean) Bd.returns (by simp) (hb hby own_d2_113) hr, hrun, hended, _, _, rfl, ?_, ⟨_, rfl⟩, hW, hsame.mono (by decide) (by decide)⟩
                              show Q2 Z p0 h0 n0 _ s₁.heap _
                              rw [e0]
                              exact ⟨(by rw [f2, if_pos hc7, if_neg hc8, if_pos hc33, if_pos hc34, if_neg hc35, if_neg hc36, if_neg hc37, if_neg hc38, if_neg hc39, if_neg hc40, if_neg hc41, if_neg hc42, if_neg hc43, if_pos hc44]), N0, rfl⟩
                            · refine Go.st (V' := s₁.setTop (mkF m 105 #[.val (.int p0)] [(.int (43 : Int32)), (.int p0)])) (fun t k => ?_) ?_
                              · refine XS.icmpNo X0.here hx rfl (hb hby own_d2_99) rfl (feq hc44).1 ?_
                                show Steps p.tables e below (s₁.setTop (mkF m 102 #[.val (.int p0)] [])) _
                                refine XS.iloadN X0.here hx rfl (hb hby own_d2_102) rfl  ?_
                                show Steps p.tables e below (s₁.setTop (mkF m 103 #[.val (.int p0)] [(.int p0)])) _
                                refine XS.bipush X0.here hx rfl (hb hby own_d2_103) ?_
                                show Steps p.tables e below (s₁.setTop (mkF m 105 #[.val (.int p0)] [(.int (43 : Int32)), (.int p0)])) _
                                exact k
                              by_cases hc45 : p0 = (43 : Int32)
                              · refine Go.st (V' := s₁.setTop (mkF m 113 #[.val (.int p0)] [(.int (1 : Int32))])) (fun t k => ?_) ?_
                                · refine XS.icmpNo X0.here hx rfl (hb hby own_d2_105) rfl (teq hc45).2 ?_
                                  show Steps p.tables e below (s₁.setTop (mkF m 108 #[.val (.int p0)] [])) _
                                  refine XS.iconst X0.here hx rfl (hb hby own_d2_108) ?_
                                  show Steps p.tables e below (s₁.setTop (mkF m 109 #[.val (.int p0)] [(.int (1 : Int32))])) _
                                  refine XS.goto X0.here hx rfl (pc0 := 109) (pc' := 113) rfl (hb hby own_d2_109) (by decide) (by decide) ?_
                                  show Steps p.tables e below (s₁.setTop (mkF m 113 #[.val (.int p0)] [(.int (1 : Int32))])) _
                                  exact k
                                obtain ⟨fs, hr, hrun, hended, hW, hsame⟩ := X0.leave (v := some (.int (1 : Int32))) (fun h => by rw [Bd.returns] at h; cases h)
                                refine Go.mk' ⟨_, _, retN X0 hx (t := .boolean) Bd.returns (by simp) (hb hby own_d2_113) hr, hrun, hended, _, _, rfl, ?_, ⟨_, rfl⟩, hW, hsame.mono (by decide) (by decide)⟩
                                show Q2 Z p0 h0 n0 _ s₁.heap _
                                rw [e0]
                                exact ⟨(by rw [f2, if_pos hc7, if_neg hc8, if_pos hc33, if_pos hc34, if_neg hc35, if_neg hc36, if_neg hc37, if_neg hc38, if_neg hc39, if_neg hc40, if_neg hc41, if_neg hc42, if_neg hc43, if_neg hc44, if_pos hc45]), N0, rfl⟩
                              · refine Go.st (V' := s₁.setTop (mkF m 113 #[.val (.int p0)] [(.int (0 : Int32))])) (fun t k => ?_) ?_
                                · refine XS.icmpYes X0.here hx rfl (pc0 := 105) (pc' := 112) rfl (hb hby own_d2_105) rfl (feq hc45).2 (by decide) (by decide) ?_
                                  show Steps p.tables e below (s₁.setTop (mkF m 112 #[.val (.int p0)] [])) _
                                  refine XS.iconst X0.here hx rfl (hb hby own_d2_112) ?_
                                  show Steps p.tables e below (s₁.setTop (mkF m 113 #[.val (.int p0)] [(.int (0 : Int32))])) _
                                  exact k
                                obtain ⟨fs, hr, hrun, hended, hW, hsame⟩ := X0.leave (v := some (.int (0 : Int32))) (fun h => by rw [Bd.returns] at h; cases h)
                                refine Go.mk' ⟨_, _, retN X0 hx (t := .boolean) Bd.returns (by simp) (hb hby own_d2_113) hr, hrun, hended, _, _, rfl, ?_, ⟨_, rfl⟩, hW, hsame.mono (by decide) (by decide)⟩
                                show Q2 Z p0 h0 n0 _ s₁.heap _
                                rw [e0]
                                exact ⟨(by rw [f2, if_pos hc7, if_neg hc8, if_pos hc33, if_pos hc34, if_neg hc35, if_neg hc36, if_neg hc37, if_neg hc38, if_neg hc39, if_neg hc40, if_neg hc41, if_neg hc42, if_neg hc43, if_neg hc44, if_neg hc45]), N0, rfl⟩
        · refine Go.st (V' := s₁.setTop (mkF m 37 #[.val (.int p0)] [(.int (57 : Int32)), (.int p0)])) (fun t k => ?_) ?_
          · refine XS.icmpNo X0.here hx rfl (hb hby own_d2_31) rfl (flt hc34).1 ?_
            show Steps p.tables e below (s₁.setTop (mkF m 34 #[.val (.int p0)] [])) _
            refine XS.iloadN X0.here hx rfl (hb hby own_d2_34) rfl  ?_
            show Steps p.tables e below (s₁.setTop (mkF m 35 #[.val (.int p0)] [(.int p0)])) _
            refine XS.bipush X0.here hx rfl (hb hby own_d2_35) ?_
            show Steps p.tables e below (s₁.setTop (mkF m 37 #[.val (.int p0)] [(.int (57 : Int32)), (.int p0)])) _
            exact k
          by_cases hc46 : (57 : Int32) < p0
          · refine Go.st (V' := s₁.setTop (mkF m 45 #[.val (.int p0)] [(.int (32 : Int32)), (.int p0)])) (fun t k => ?_) ?_
            · refine XS.icmpYes X0.here hx rfl (pc0 := 37) (pc' := 42) rfl (hb hby own_d2_37) rfl (tlt hc46).2.2.1 (by decide) (by decide) ?_
              show Steps p.tables e below (s₁.setTop (mkF m 42 #[.val (.int p0)] [])) _
              refine XS.iloadN X0.here hx rfl (hb hby own_d2_42) rfl  ?_
              show Steps p.tables e below (s₁.setTop (mkF m 43 #[.val (.int p0)] [(.int p0)])) _
              refine XS.bipush X0.here hx rfl (hb hby own_d2_43) ?_
              show Steps p.tables e below (s₁.setTop (mkF m 45 #[.val (.int p0)] [(.int (32 : Int32)), (.int p0)])) _
              exact k
            by_cases hc47 : p0 = (32 : Int32)
            · refine Go.st (V' := s₁.setTop (mkF m 113 #[.val (.int p0)] [(.int (1 : Int32))])) (fun t k => ?_) ?_
              · refine XS.icmpYes X0.here hx rfl (pc0 := 45) (pc' := 108) rfl (hb hby own_d2_45) rfl (teq hc47).1 (by decide) (by decide) ?_
                show Steps p.tables e below (s₁.setTop (mkF m 108 #[.val (.int p0)] [])) _
                refine XS.iconst X0.here hx rfl (hb hby own_d2_108) ?_
                show Steps p.tables e below (s₁.setTop (mkF m 109 #[.val (.int p0)] [(.int (1 : Int32))])) _
                refine XS.goto X0.here hx rfl (pc0 := 109) (pc' := 113) rfl (hb hby own_d2_109) (by decide) (by decide) ?_
                show Steps p.tables e below (s₁.setTop (mkF m 113 #[.val (.int p0)] [(.int (1 : Int32))])) _
                exact k
              obtain ⟨fs, hr, hrun, hended, hW, hsame⟩ := X0.leave (v := some (.int (1 : Int32))) (fun h => by rw [Bd.returns] at h; cases h)
              refine Go.mk' ⟨_, _, retN X0 hx (t := .boolean) Bd.returns (by simp) (hb hby own_d2_113) hr, hrun, hended, _, _, rfl, ?_, ⟨_, rfl⟩, hW, hsame.mono (by decide) (by decide)⟩
              show Q2 Z p0 h0 n0 _ s₁.heap _
              rw [e0]
              exact ⟨(by rw [f2, if_pos hc7, if_neg hc8, if_pos hc33, if_neg hc34, if_pos hc46, if_pos hc47]), N0, rfl⟩
            · refine Go.st (V' := s₁.setTop (mkF m 51 #[.val (.int p0)] [(.int (47 : Int32)), (.int p0)])) (fun t k => ?_) ?_
              · refine XS.icmpNo X0.here hx rfl (hb hby own_d2_45) rfl (feq hc47).1 ?_
                show Steps p.tables e below (s₁.setTop (mkF m 48 #[.val (.int p0)] [])) _
                refine XS.iloadN X0.here hx rfl (hb hby own_d2_48) rfl  ?_
                show Steps p.tables e below (s₁.setTop (mkF m 49 #[.val (.int p0)] [(.int p0)])) _
                refine XS.bipush X0.here hx rfl (hb hby own_d2_49) ?_
                show Steps p.tables e below (s₁.setTop (mkF m 51 #[.val (.int p0)] [(.int (47 : Int32)), (.int p0)])) _
                exact k
              by_cases hc48 : p0 = (47 : Int32)
              · refine Go.st (V' := s₁.setTop (mkF m 113 #[.val (.int p0)] [(.int (1 : Int32))])) (fun t k => ?_) ?_
                · refine XS.icmpYes X0.here hx rfl (pc0 := 51) (pc' := 108) rfl (hb hby own_d2_51) rfl (teq hc48).1 (by decide) (by decide) ?_
                  show Steps p.tables e below (s₁.setTop (mkF m 108 #[.val (.int p0)] [])) _
                  refine XS.iconst X0.here hx rfl (hb hby own_d2_108) ?_
                  show Steps p.tables e below (s₁.setTop (mkF m 109 #[.val (.int p0)] [(.int (1 : Int32))])) _
                  refine XS.goto X0.here hx rfl (pc0 := 109) (pc' := 113) rfl (hb hby own_d2_109) (by decide) (by decide) ?_
                  show Steps p.tables e below (s₁.setTop (mkF m 113 #[.val (.int p0)] [(.int (1 : Int32))])) _
                  exact k
                obtain ⟨fs, hr, hrun, hended, hW, hsame⟩ := X0.leave (v := some (.int (1 : Int32))) (fun h => by rw [Bd.returns] at h; cases h)
                refine Go.mk' ⟨_, _, retN X0 hx (t := .boolean) Bd.returns (by simp) (hb hby own_d2_113) hr, hrun, hended, _, _, rfl, ?_, ⟨_, rfl⟩, hW, hsame.mono (by decide) (by decide)⟩
                show Q2 Z p0 h0 n0 _ s₁.heap _
                rw [e0]
                exact ⟨(by rw [f2, if_pos hc7, if_neg hc8, if_pos hc33, if_neg hc34, if_pos hc46, if_neg hc47, if_pos hc48]), N0, rfl⟩
              · refine Go.st (V' := s₁.setTop (mkF m 57 #[.val (.int p0)] [(.int (45 : Int32)), (.int p0)])) (fun t k => ?_) ?_
                · refine XS.icmpNo X0.here hx rfl (hb hby own_d2_51) rfl (feq hc48).1 ?_
                  show Steps p.tables e below (s₁.setTop (mkF m 54 #[.val (.int p0)] [])) _
                  refine XS.iloadN X0.here hx rfl (hb hby own_d2_54) rfl  ?_
                  show Steps p.tables e below (s₁.setTop (mkF m 55 #[.val (.int p0)] [(.int p0)])) _
                  refine XS.bipush X0.here hx rfl (hb hby own_d2_55) ?_
                  show Steps p.tables e below (s₁.setTop (mkF m 57 #[.val (.int p0)] [(.int (45 : Int32)), (.int p0)])) _
                  exact k
                by_cases hc49 : p0 = (45 : Int32)
                · refine Go.st (V' := s₁.setTop (mkF m 113 #[.val (.int p0)] [(.int (1 : Int32))])) (fun t k => ?_) ?_
                  · refine XS.icmpYes X0.here hx rfl (pc0 := 57) (pc' := 108) rfl (hb hby own_d2_57) rfl (teq hc49).1 (by decide) (by decide) ?_
                    show Steps p.tables e below (s₁.setTop (mkF m 108 #[.val (.int p0)] [])) _
                    refine XS.iconst X0.here hx rfl (hb hby own_d2_108) ?_
                    show Steps p.tables e below (s₁.setTop (mkF m 109 #[.val (.int p0)] [(.int (1 : Int32))])) _
                    refine XS.goto X0.here hx rfl (pc0 := 109) (pc' := 113) rfl (hb hby own_d2_109) (by decide) (by decide) ?_
                    show Steps p.tables e below (s₁.setTop (mkF m 113 #[.val (.int p0)] [(.int (1 : Int32))])) _
                    exact k
                  obtain ⟨fs, hr, hrun, hended, hW, hsame⟩ := X0.leave (v := some (.int (1 : Int32))) (fun h => by rw [Bd.returns] at h; cases h)
                  refine Go.mk' ⟨_, _, retN X0 hx (t := .boolean) Bd.returns (by simp) (hb hby own_d2_113) hr, hrun, hended, _, _, rfl, ?_, ⟨_, rfl⟩, hW, hsame.mono (by decide) (by decide)⟩
                  show Q2 Z p0 h0 n0 _ s₁.heap _
                  rw [e0]
                  exact ⟨(by rw [f2, if_pos hc7, if_neg hc8, if_pos hc33, if_neg hc34, if_pos hc46, if_neg hc47, if_neg hc48, if_pos hc49]), N0, rfl⟩
                · refine Go.st (V' := s₁.setTop (mkF m 63 #[.val (.int p0)] [(.int (63 : Int32)), (.int p0)])) (fun t k => ?_) ?_
                  · refine XS.icmpNo X0.here hx rfl (hb hby own_d2_57) rfl (feq hc49).1 ?_
                    show Steps p.tables e below (s₁.setTop (mkF m 60 #[.val (.int p0)] [])) _
                    refine XS.iloadN X0.here hx rfl (hb hby own_d2_60) rfl  ?_
                    show Steps p.tables e below (s₁.setTop (mkF m 61 #[.val (.int p0)] [(.int p0)])) _
                    refine XS.bipush X0.here hx rfl (hb hby own_d2_61) ?_
                    show Steps p.tables e below (s₁.setTop (mkF m 63 #[.val (.int p0)] [(.int (63 : Int32)), (.int p0)])) _
                    exact k
                  by_cases hc50 : p0 = (63 : Int32)
                  · refine Go.st (V' := s₁.setTop (mkF m 113 #[.val (.int p0)] [(.int (1 : Int32))])) (fun t k => ?_) ?_
                    · refine XS.icmpYes X0.here hx rfl (pc0 := 63) (pc' := 108) rfl (hb hby own_d2_63) rfl (teq hc50).1 (by decide) (by decide) ?_
                      show Steps p.tables e below (s₁.setTop (mkF m 108 #[.val (.int p0)] [])) _
                      refine XS.iconst X0.here hx rfl (hb hby own_d2_108) ?_
                      show Steps p.tables e below (s₁.setTop (mkF m 109 #[.val (.int p0)] [(.int (1 : Int32))])) _
                      refine XS.goto X0.here hx rfl (pc0 := 109) (pc' := 113) rfl (hb hby own_d2_109) (by decide) (by decide) ?_
                      show Steps p.tables e below (s₁.setTop (mkF m 113 #[.val (.int p0)] [(.int (1 : Int32))])) _
                      exact k
                    obtain ⟨fs, hr, hrun, hended, hW, hsame⟩ := X0.leave (v := some (.int (1 : Int32))) (fun h => by rw [Bd.returns] at h; cases h)
                    refine Go.mk' ⟨_, _, retN X0 hx (t := .boolean) Bd.returns (by simp) (hb hby own_d2_113) hr, hrun, hended, _, _, rfl, ?_, ⟨_, rfl⟩, hW, hsame.mono (by decide) (by decide)⟩
                    show Q2 Z p0 h0 n0 _ s₁.heap _
                    rw [e0]
                    exact ⟨(by rw [f2, if_pos hc7, if_neg hc8, if_pos hc33, if_neg hc34, if_pos hc46, if_neg hc47, if_neg hc48, if_neg hc49, if_pos hc50]), N0, rfl⟩
                  · refine Go.st (V' := s₁.setTop (mkF m 69 #[.val (.int p0)] [(.int (58 : Int32)), (.int p0)])) (fun t k => ?_) ?_
                    · refine XS.icmpNo X0.here hx rfl (hb hby own_d2_63) rfl (feq hc50).1 ?_
                      show Steps p.tables e below (s₁.setTop (mkF m 66 #[.val (.int p0)] [])) _
                      refine XS.iloadN X0.here hx rfl (hb hby own_d2_66) rfl  ?_
                      show Steps p.tables e below (s₁.setTop (mkF m 67 #[.val (.int p0)] [(.int p0)])) _
                      refine XS.bipush X0.here hx rfl (hb hby own_d2_67) ?_
                      show Steps p.tables e below (s₁.setTop (mkF m 69 #[.val (.int p0)] [(.int (58 : Int32)), (.int p0)])) _
                      exact k
                    by_cases hc51 : p0 = (58 : Int32)
                    · refine Go.st (V' := s₁.setTop (mkF m 113 #[.val (.int p0)] [(.int (1 : Int32))])) (fun t k => ?_) ?_
                      · refine XS.icmpYes X0.here hx rfl (pc0 := 69) (pc' := 108) rfl (hb hby own_d2_69) rfl (teq hc51).1 (by decide) (by decide) ?_
                        show Steps p.tables e below (s₁.setTop (mkF m 108 #[.val (.int p0)] [])) _
                        refine XS.iconst X0.here hx rfl (hb hby own_d2_108) ?_
                        show Steps p.tables e below (s₁.setTop (mkF m 109 #[.val (.int p0)] [(.int (1 : Int32))])) _
                        refine XS.goto X0.here hx rfl (pc0 := 109) (pc' := 113) rfl (hb hby own_d2_109) (by decide) (by decide) ?_
                        show Steps p.tables e below (s₁.setTop (mkF m 113 #[.val (.int p0)] [(.int (1 : Int32))])) _
                        exact k
                      obtain ⟨fs, hr, hrun, hended, hW, hsame⟩ := X0.leave (v := some (.int (1 : Int32))) (fun h => by rw [Bd.returns] at h; cases h)
                      refine Go.mk' ⟨_, _, retN X0 hx (t := .boolean) Bd.returns (by simp) (hb hby own_d2_113) hr, hrun, hended, _, _, rfl, ?_, ⟨_, rfl⟩, hW, hsame.mono (by decide) (by decide)⟩
                      show Q2 Z p0 h0 n0 _ s₁.heap _
                      rw [e0]
                      exact ⟨(by rw [f2, if_pos hc7, if_neg hc8, if_pos hc33, if_neg hc34, if_pos hc46, if_neg hc47, if_neg hc48, if_neg hc49, if_neg hc50, if_pos hc51]), N0, rfl⟩
                    · refine Go.st (V' := s₁.setTop (mkF m 75 #[.val (.int p0)] [(.int (40 : Int32)), (.int p0)])) (fun t k => ?_) ?_
                      · refine XS.icmpNo X0.here hx rfl (hb hby own_d2_69) rfl (feq hc51).1 ?_
                        show Steps p.tables e below (s₁.setTop (mkF m 72 #[.val (.int p0)] [])) _
                        refine XS.iloadN X0.here hx rfl (hb hby own_d2_72) rfl  ?_
                        show Steps p.tables e below (s₁.setTop (mkF m 73 #[.val (.int p0)] [(.int p0)])) _
                        refine XS.bipush X0.here hx rfl (hb hby own_d2_73) ?_
                        show Steps p.tables e below (s₁.setTop (mkF m 75 #[.val (.int p0)] [(.int (40 : Int32)), (.int p0)])) _
                        exact k
                      by_cases hc52 : p0 = (40 : Int32)
                      · refine Go.st (V' := s₁.setTop (mkF m 113 #[.val (.int p0)] [(.int (1 : Int32))])) (fun t k => ?_) ?_
                        · refine XS.icmpYes X0.here hx rfl (pc0 := 75) (pc' := 108) rfl (hb hby own_d2_75) rfl (teq hc52).1 (by decide) (by decide) ?_
                          show Steps p.tables e below (s₁.setTop (mkF m 108 #[.val (.int p0)] [])) _
                          refine XS.iconst X0.here hx rfl (hb hby own_d2_108) ?_
                          show Steps p.tables e below (s₁.setTop (mkF m 109 #[.val (.int p0)] [(.int (1 : Int32))])) _
                          refine XS.goto X0.here hx rfl (pc0 := 109) (pc' := 113) rfl (hb hby own_d2_109) (by decide) (by decide) ?_
                          show Steps p.tables e below (s₁.setTop (mkF m 113 #[.val (.int p0)] [(.int (1 : Int32))])) _
                          exact k
                        obtain ⟨fs, hr, hrun, hended, hW, hsame⟩ := X0.leave (v := some (.int (1 : Int32))) (fun h => by rw [Bd.returns] at h; cases h)
                        refine Go.mk' ⟨_, _, retN X0 hx (t := .boolean) Bd.returns (by simp) (hb hby own_d2_113) hr, hrun, hended, _, _, rfl, ?_, ⟨_, rfl⟩, hW, hsame.mono (by decide) (by decide)⟩
                        show Q2 Z p0 h0 n0 _ s₁.heap _
                        rw [e0]
                        exact ⟨(by rw [f2, if_pos hc7, if_neg hc8, if_pos hc33, if_neg hc34, if_pos hc46, if_neg hc47, if_neg hc48, if_neg hc49, if_neg hc50, if_neg hc51, if_pos hc52]), N0, rfl⟩
                      · refine Go.st (V' := s₁.setTop (mkF m 81 #[.val (.int p0)] [(.int (41 : Int32)), (.int p0)])) (fun t k => ?_) ?_
                        · refine XS.icmpNo X0.here hx rfl (hb hby own_d2_75) rfl (feq hc52).1 ?_
                          show Steps p.tables e below (s₁.setTop (mkF m 78 #[.val (.int p0)] [])) _
                          refine XS.iloadN X0.here hx rfl (hb hby own_d2_78) rfl  ?_
                          show Steps p.tables e below (s₁.setTop (mkF m 79 #[.val (.int p0)] [(.int p0)])) _
                          refine XS.bipush X0.here hx rfl (hb hby own_d2_79) ?_
                          show Steps p.tables e below (s₁.setTop (mkF m 81 #[.val (.int p0)] [(.int (41 : Int32)), (.int p0)])) _
                          exact k
                        by_cases hc53 : p0 = (41 : Int32)
                        · refine Go.st (V' := s₁.setTop (mkF m 113 #[.val (.int p0)] [(.int (1 : Int32))])) (fun t k => ?_) ?_
                          · refine XS.icmpYes X0.here hx rfl (pc0 := 81) (pc' := 108) rfl (hb hby own_d2_81) rfl (teq hc53).1 (by decide) (by decide) ?_
                            show Steps p.tables e below (s₁.setTop (mkF m 108 #[.val (.int p0)] [])) _
                            refine XS.iconst X0.here hx rfl (hb hby own_d2_108) ?_
                            show Steps p.tables e below (s₁.setTop (mkF m 109 #[.val (.int p0)] [(.int (1 : Int32))])) _
                            refine XS.goto X0.here hx rfl (pc0 := 109) (pc' := 113) rfl (hb hby own_d2_109) (by decide) (by decide) ?_
                            show Steps p.tables e below (s₁.setTop (mkF m 113 #[.val (.int p0)] [(.int (1 : Int32))])) _
                            exact k
                          obtain ⟨fs, hr, hrun, hended, hW, hsame⟩ := X0.leave (v := some (.int (1 : Int32))) (fun h => by rw [Bd.returns] at h; cases h)
                          refine Go.mk' ⟨_, _, retN X0 hx (t := .boolean) Bd.returns (by simp) (hb hby own_d2_113) hr, hrun, hended, _, _, rfl, ?_, ⟨_, rfl⟩, hW, hsame.mono (by decide) (by decide)⟩
                          show Q2 Z p0 h0 n0 _ s₁.heap _
                          rw [e0]
                          exact ⟨(by rw [f2, if_pos hc7, if_neg hc8, if_pos hc33, if_neg hc34, if_pos hc46, if_neg hc47, if_neg hc48, if_neg hc49, if_neg hc50, if_neg hc51, if_neg hc52, if_pos hc53]), N0, rfl⟩
                        · refine Go.st (V' := s₁.setTop (mkF m 87 #[.val (.int p0)] [(.int (46 : Int32)), (.int p0)])) (fun t k => ?_) ?_
                          · refine XS.icmpNo X0.here hx rfl (hb hby own_d2_81) rfl (feq hc53).1 ?_
                            show Steps p.tables e below (s₁.setTop (mkF m 84 #[.val (.int p0)] [])) _
                            refine XS.iloadN X0.here hx rfl (hb hby own_d2_84) rfl  ?_
                            show Steps p.tables e below (s₁.setTop (mkF m 85 #[.val (.int p0)] [(.int p0)])) _
                            refine XS.bipush X0.here hx rfl (hb hby own_d2_85) ?_
                            show Steps p.tables e below (s₁.setTop (mkF m 87 #[.val (.int p0)] [(.int (46 : Int32)), (.int p0)])) _
                            exact k
                          by_cases hc54 : p0 = (46 : Int32)
                          · refine Go.st (V' := s₁.setTop (mkF m 113 #[.val (.int p0)] [(.int (1 : Int32))])) (fun t k => ?_) ?_
                            · refine XS.icmpYes X0.here hx rfl (pc0 := 87) (pc' := 108) rfl (hb hby own_d2_87) rfl (teq hc54).1 (by decide) (by decide) ?_
                              show Steps p.tables e below (s₁.setTop (mkF m 108 #[.val (.int p0)] [])) _
                              refine XS.iconst X0.here hx rfl (hb hby own_d2_108) ?_
                              show Steps p.tables e below (s₁.setTop (mkF m 109 #[.val (.int p0)] [(.int (1 : Int32))])) _
                              refine XS.goto X0.here hx rfl (pc0 := 109) (pc' := 113) rfl (hb hby own_d2_109) (by decide) (by decide) ?_
                              show Steps p.tables e below (s₁.setTop (mkF m 113 #[.val (.int p0)] [(.int (1 : Int32))])) _
                              exact k
                            obtain ⟨fs, hr, hrun, hended, hW, hsame⟩ := X0.leave (v := some (.int (1 : Int32))) (fun h => by rw [Bd.returns] at h; cases h)
                            refine Go.mk' ⟨_, _, retN X0 hx (t := .boolean) Bd.returns (by simp) (hb hby own_d2_113) hr, hrun, hended, _, _, rfl, ?_, ⟨_, rfl⟩, hW, hsame.mono (by decide) (by decide)⟩
                            show Q2 Z p0 h0 n0 _ s₁.heap _
                            rw [e0]
                            exact ⟨(by rw [f2, if_pos hc7, if_neg hc8, if_pos hc33, if_neg hc34, if_pos hc46, if_neg hc47, if_neg hc48, if_neg hc49, if_neg hc50, if_neg hc51, if_neg hc52, if_neg hc53, if_pos hc54]), N0, rfl⟩
                          · refine Go.st (V' := s₁.setTop (mkF m 93 #[.val (.int p0)] [(.int (44 : Int32)), (.int p0)])) (fun t k => ?_) ?_
                            · refine XS.icmpNo X0.here hx rfl (hb hby own_d2_87) rfl (feq hc54).1 ?_
                              show Steps p.tables e below (s₁.setTop (mkF m 90 #[.val (.int p0)] [])) _
                              refine XS.iloadN X0.here hx rfl (hb hby own_d2_90) rfl  ?_
                              show Steps p.tables e below (s₁.setTop (mkF m 91 #[.val (.int p0)] [(.int p0)])) _
                              refine XS.bipush X0.here hx rfl (hb hby own_d2_91) ?_
                              show Steps p.tables e below (s₁.setTop (mkF m 93 #[.val (.int p0)] [(.int (44 : Int32)), (.int p0)])) _
                              exact k
                            by_cases hc55 : p0 = (44 : Int32)
                            · refine Go.st (V' := s₁.setTop (mkF m 113 #[.val (.int p0)] [(.int (1 : Int32))])) (fun t k => ?_) ?_
                              · refine XS.icmpYes X0.here hx rfl (pc0 := 93) (pc' := 108) rfl (hb hby own_d2_93) rfl (teq hc55).1 (by decide) (by decide) ?_
                                show Steps p.tables e below (s₁.setTop (mkF m 108 #[.val (.int p0)] [])) _
                                refine XS.iconst X0.here hx rfl (hb hby own_d2_108) ?_
                                show Steps p.tables e below (s₁.setTop (mkF m 109 #[.val (.int p0)] [(.int (1 : Int32))])) _
                                refine XS.goto X0.here hx rfl (pc0 := 109) (pc' := 113) rfl (hb hby own_d2_109) (by decide) (by decide) ?_
                                show Steps p.tables e below (s₁.setTop (mkF m 113 #[.val (.int p0)] [(.int (1 : Int32))])) _
                                exact k
                              obtain ⟨fs, hr, hrun, hended, hW, hsame⟩ := X0.leave (v := some (.int (1 : Int32))) (fun h => by rw [Bd.returns] at h; cases h)
                              refine Go.mk' ⟨_, _, retN X0 hx (t := .boolean) Bd.returns (by simp) (hb hby own_d2_113) hr, hrun, hended, _, _, rfl, ?_, ⟨_, rfl⟩, hW, hsame.mono (by decide) (by decide)⟩
                              show Q2 Z p0 h0 n0 _ s₁.heap _
                              rw [e0]
                              exact ⟨(by rw [f2, if_pos hc7, if_neg hc8, if_pos hc33, if_neg hc34, if_pos hc46, if_neg hc47, if_neg hc48, if_neg hc49, if_neg hc50, if_neg hc51, if_neg hc52, if_neg hc53, if_neg hc54, if_pos hc55]), N0, rfl⟩
                            · refine Go.st (V' := s₁.setTop (mkF m 99 #[.val (.int p0)] [(.int (39 : Int32)), (.int p0)])) (fun t k => ?_) ?_
                              · refine XS.icmpNo X0.here hx rfl (hb hby own_d2_93) rfl (feq hc55).1 ?_
                                show Steps p.tables e below (s₁.setTop (mkF m 96 #[.val (.int p0)] [])) _
                                refine XS.iloadN X0.here hx rfl (hb hby own_d2_96) rfl  ?_
                                show Steps p.tables e below (s₁.setTop (mkF m 97 #[.val (.int p0)] [(.int p0)])) _
                                refine XS.bipush X0.here hx rfl (hb hby own_d2_97) ?_
                                show Steps p.tables e below (s₁.setTop (mkF m 99 #[.val (.int p0)] [(.int (39 : Int32)), (.int p0)])) _
                                exact k
                              by_cases hc56 : p0 = (39 : Int32)
                              · refine Go.st (V' := s₁.setTop (mkF m 113 #[.val (.int p0)] [(.int (1 : Int32))])) (fun t k => ?_) ?_
                                · refine XS.icmpYes X0.here hx rfl (pc0 := 99) (pc' := 108) rfl (hb hby own_d2_99) rfl (teq hc56).1 (by decide) (by decide) ?_
                                  show Steps p.tables e below (s₁.setTop (mkF m 108 #[.val (.int p0)] [])) _
                                  refine XS.iconst X0.here hx rfl (hb hby own_d2_108) ?_
                                  show Steps p.tables e below (s₁.setTop (mkF m 109 #[.val (.int p0)] [(.int (1 : Int32))])) _
                                  refine XS.goto X0.here hx rfl (pc0 := 109) (pc' := 113) rfl (hb hby own_d2_109) (by decide) (by decide) ?_
                                  show Steps p.tables e below (s₁.setTop (mkF m 113 #[.val (.int p0)] [(.int (1 : Int32))])) _
                                  exact k
                                obtain ⟨fs, hr, hrun, hended, hW, hsame⟩ := X0.leave (v := some (.int (1 : Int32))) (fun h => by rw [Bd.returns] at h; cases h)
                                refine Go.mk' ⟨_, _, retN X0 hx (t := .boolean) Bd.returns (by simp) (hb hby own_d2_113) hr, hrun, hended, _, _, rfl, ?_, ⟨_, rfl⟩, hW, hsame.mono (by decide) (by decide)⟩
                                show Q2 Z p0 h0 n0 _ s₁.heap _
                                rw [e0]
                                exact ⟨(by rw [f2, if_pos hc7, if_neg hc8, if_pos hc33, if_neg hc34, if_pos hc46, if_neg hc47, if_neg hc48, if_neg hc49, if_neg hc50, if_neg hc51, if_neg hc52, if_neg hc53, if_neg hc54, if_neg hc55, if_pos hc56]), N0, rfl⟩
                              · refine Go.st (V' := s₁.setTop (mkF m 105 #[.val (.int p0)] [(.int (43 : Int32)), (.int p0)])) (fun t k => ?_) ?_
                                · refine XS.icmpNo X0.here hx rfl (hb hby own_d2_99) rfl (feq hc56).1 ?_
                                  show Steps p.tables e below (s₁.setTop (mkF m 102 #[.val (.int p0)] [])) _
                                  refine XS.iloadN X0.here hx rfl (hb hby own_d2_102) rfl  ?_
                                  show Steps p.tables e below (s₁.setTop (mkF m 103 #[.val (.int p0)] [(.int p0)])) _
                                  refine XS.bipush X0.here hx rfl (hb hby own_d2_103) ?_
                                  show Steps p.tables e below (s₁.setTop (mkF m 105 #[.val (.int p0)] [(.int (43 : Int32)), (.int p0)])) _
                                  exact k
                                by_cases hc57 : p0 = (43 : Int32)
                                · refine Go.st (V' := s₁.setTop (mkF m 113 #[.val (.int p0)] [(.int (1 : Int32))])) (fun t k => ?_) ?_
                                  · refine XS.icmpNo X0.here hx rfl (hb hby own_d2_105) rfl (teq hc57).2 ?_
                                    show Steps p.tables e below (s₁.setTop (mkF m 108 #[.val (.int p0)] [])) _
                                    refine XS.iconst X0.here hx rfl (hb hby own_d2_108) ?_
                                    show Steps p.tables e below (s₁.setTop (mkF m 109 #[.val (.int p0)] [(.int (1 : Int32))])) _
                                    refine XS.goto X0.here hx rfl (pc0 := 109) (pc' := 113) rfl (hb hby own_d2_109) (by decide) (by decide) ?_
                                    show Steps p.tables e below (s₁.setTop (mkF m 113 #[.val (.int p0)] [(.int (1 : Int32))])) _
                                    exact k
                                  obtain ⟨fs, hr, hrun, hended, hW, hsame⟩ := X0.leave (v := some (.int (1 : Int32))) (fun h => by rw [Bd.returns] at h; cases h)
                                  refine Go.mk' ⟨_, _, retN X0 hx (t := .boolean) Bd.returns (by simp) (hb hby own_d2_113) hr, hrun, hended, _, _, rfl, ?_, ⟨_, rfl⟩, hW, hsame.mono (by decide) (by decide)⟩
                                  show Q2 Z p0 h0 n0 _ s₁.heap _
                                  rw [e0]
                                  exact ⟨(by rw [f2, if_pos hc7, if_neg hc8, if_pos hc33, if_neg hc34, if_pos hc46, if_neg hc47, if_neg hc48, if_neg hc49, if_neg hc50, if_neg hc51, if_neg hc52, if_neg hc53, if_neg hc54, if_neg hc55, if_neg hc56, if_pos hc57]), N0, rfl⟩
                                · refine Go.st (V' := s₁.setTop (mkF m 113 #[.val (.int p0)] [(.int (0 : Int32))])) (fun t k => ?_) ?_
                                  · refine XS.icmpYes X0.here hx rfl (pc0 := 105) (pc' := 112) rfl (hb hby own_d2_105) rfl (feq hc57).2 (by decide) (by decide) ?_
                                    show Steps p.tables e below (s₁.setTop (mkF m 112 #[.val (.int p0)] [])) _
                                    refine XS.iconst X0.here hx rfl (hb hby own_d2_112) ?_
                                    show Steps p.tables e below (s₁.setTop (mkF m 113 #[.val (.int p0)] [(.int (0 : Int32))])) _
                                    exact k
                                  obtain ⟨fs, hr, hrun, hended, hW, hsame⟩ := X0.leave (v := some (.int (0 : Int32))) (fun h => by rw [Bd.returns] at h; cases h)
                                  refine Go.mk' ⟨_, _, retN X0 hx (t := .boolean) Bd.returns (by simp) (hb hby own_d2_113) hr, hrun, hended, _, _, rfl, ?_, ⟨_, rfl⟩, hW, hsame.mono (by decide) (by decide)⟩
                                  show Q2 Z p0 h0 n0 _ s₁.heap _
                                  rw [e0]
                                  exact ⟨(by rw [f2, if_pos hc7, if_neg hc8, if_pos hc33, if_neg hc34, if_pos hc46, if_neg hc47, if_neg hc48, if_neg hc49, if_neg hc50, if_neg hc51, if_neg hc52, if_neg hc53, if_neg hc54, if_neg hc55, if_neg hc56, if_neg hc57]), N0, rfl⟩
          · refine Go.st (V' := s₁.setTop (mkF m 41 #[.val (.int p0)] [(.int (1 : Int32))])) (fun t k => ?_) ?_
            · refine XS.icmpNo X0.here hx rfl (hb hby own_d2_37) rfl (flt hc46).2.2.1 ?_
              show Steps p.tables e below (s₁.setTop (mkF m 40 #[.val (.int p0)] [])) _
              refine XS.iconst X0.here hx rfl (hb hby own_d2_40) ?_
              show Steps p.tables e below (s₁.setTop (mkF m 41 #[.val (.int p0)] [(.int (1 : Int32))])) _
              exact k
            obtain ⟨fs, hr, hrun, hended, hW, hsame⟩ := X0.leave (v := some (.int (1 : Int32))) (fun h => by rw [Bd.returns] at h; cases h)
            refine Go.mk' ⟨_, _, retN X0 hx (t := .boolean) Bd.returns (by simp) (hb hby own_d2_41) hr, hrun, hended, _, _, rfl, ?_, ⟨_, rfl⟩, hW, hsame.mono (by decide) (by decide)⟩
            show Q2 Z p0 h0 n0 _ s₁.heap _
            rw [e0]
            exact ⟨(by rw [f2, if_pos hc7, if_neg hc8, if_pos hc33, if_neg hc34, if_neg hc46]), N0, rfl⟩
      · refine Go.st (V' := s₁.setTop (mkF m 27 #[.val (.int p0)] [(.int (1 : Int32))])) (fun t k => ?_) ?_
        · refine XS.icmpNo X0.here hx rfl (hb hby own_d2_23) rfl (flt hc33).2.2.1 ?_
          show Steps p.tables e below (s₁.setTop (mkF m 26 #[.val (.int p0)] [])) _
          refine XS.iconst X0.here hx rfl (hb hby own_d2_26) ?_
          show Steps p.tables e below (s₁.setTop (mkF m 27 #[.val (.int p0)] [(.int (1 : Int32))])) _
          exact k
        obtain ⟨fs, hr, hrun, hended, hW, hsame⟩ := X0.leave (v := some (.int (1 : Int32))) (fun h => by rw [Bd.returns] at h; cases h)
        refine Go.mk' ⟨_, _, retN X0 hx (t := .boolean) Bd.returns (by simp) (hb hby own_d2_27) hr, hrun, hended, _, _, rfl, ?_, ⟨_, rfl⟩, hW, hsame.mono (by decide) (by decide)⟩
        show Q2 Z p0 h0 n0 _ s₁.heap _
        rw [e0]
        exact ⟨(by rw [f2, if_pos hc7, if_neg hc8, if_neg hc33]), N0, rfl⟩
  · refine Go.st (V' := s₁.setTop (mkF m 9 #[.val (.int p0)] [(.int (90 : Int32)), (.int p0)])) (fun t k => ?_) ?_
    · refine XS.icmpNo X0.here hx rfl (hb hby own_d2_3) rfl (flt hc7).1 ?_
      show Steps p.tables e below (s₁.setTop (mkF m 6 #[.val (.int p0)] [])) _
      refine XS.iloadN X0.here hx rfl (hb hby own_d2_6) rfl  ?_
      show Steps p.tables e below (s₁.setTop (mkF m 7 #[.val (.int p0)] [(.int p0)])) _
      refine XS.bipush X0.here hx rfl (hb hby own_d2_7) ?_
      show Steps p.tables e below (s₁.setTop (mkF m 9 #[.val (.int p0)] [(.int (90 : Int32)), (.int p0)])) _
      exact k
    by_cases hc58 : (90 : Int32) < p0
    · refine Go.st (V' := s₁.setTop (mkF m 17 #[.val (.int p0)] [(.int (97 : Int32)), (.int p0)])) (fun t k => ?_) ?_
      · refine XS.icmpYes X0.here hx rfl (pc0 := 9) (pc' := 14) rfl (hb hby own_d2_9) rfl (tlt hc58).2.2.1 (by decide) (by decide) ?_
        show Steps p.tables e below (s₁.setTop (mkF m 14 #[.val (.int p0)] [])) _
        refine XS.iloadN X0.here hx rfl (hb hby own_d2_14) rfl  ?_
        show Steps p.tables e below (s₁.setTop (mkF m 15 #[.val (.int p0)] [(.int p0)])) _
        refine XS.bipush X0.here hx rfl (hb hby own_d2_15) ?_
        show Steps p.tables e below (s₁.setTop (mkF m 17 #[.val (.int p0)] [(.int (97 : Int32)), (.int p0)])) _
        exact k
      by_cases hc59 : p0 < (97 : Int32)
      · refine Go.st (V' := s₁.setTop (mkF m 31 #[.val (.int p0)] [(.int (48 : Int32)), (.int p0)])) (fun t k => ?_) ?_
        · refine XS.icmpYes X0.here hx rfl (pc0 := 17) (pc' := 28) rfl (hb hby own_d2_17) rfl (tlt hc59).1 (by decide) (by decide) ?_
          show Steps p.tables e below (s₁.setTop (mkF m 28 #[.val (.int p0)] [])) _
          refine XS.iloadN X0.here hx rfl (hb hby own_d2_28) rfl  ?_
          show Steps p.tables e below (s₁.setTop (mkF m 29 #[.val (.int p0)] [(.int p0)])) _
          refine XS.bipush X0.here hx rfl (hb hby own_d2_29) ?_
          show Steps p.tables e below (s₁.setTop (mkF m 31 #[.val (.int p0)] [(.int (48 : Int32)), (.int p0)])) _
          exact k
        by_cases hc60 : p0 < (48 : Int32)
        · refine Go.st (V' := s₁.setTop (mkF m 45 #[.val (.int p0)] [(.int (32 : Int32)), (.int p0)])) (fun t k => ?_) ?_
          · refine XS.icmpYes X0.here hx rfl (pc0 := 31) (pc' := 42) rfl (hb hby own_d2_31) rfl (tlt hc60).1 (by decide) (by decide) ?_
            show Steps p.tables e below (s₁.setTop (mkF m 42 #[.val (.int p0)] [])) _
            refine XS.iloadN X0.here hx rfl (hb hby own_d2_42) rfl  ?_
            show Steps p.tables e below (s₁.setTop (mkF m 43 #[.val (.int p0)] [(.int p0)])) _
            refine XS.bipush X0.here hx rfl (hb hby own_d2_43) ?_
            show Steps p.tables e below (s₁.setTop (mkF m 45 #[.val (.int p0)] [(.int (32 : Int32)), (.int p0)])) _
            exact k
          by_cases hc61 : p0 = (32 : Int32)
          · refine Go.st (V' := s₁.setTop (mkF m 113 #[.val (.int p0)] [(.int (1 : Int32))])) (fun t k => ?_) ?_
            · refine XS.icmpYes X0.here hx rfl (pc0 := 45) (pc' := 108) rfl (hb hby own_d2_45) rfl (teq hc61).1 (by decide) (by decide) ?_
              show Steps p.tables e below (s₁.setTop (mkF m 108 #[.val (.int p0)] [])) _
              refine XS.iconst X0.here hx rfl (hb hby own_d2_108) ?_
              show Steps p.tables e below (s₁.setTop (mkF m 109 #[.val (.int p0)] [(.int (1 : Int32))])) _
              refine XS.goto X0.here hx rfl (pc0 := 109) (pc' := 113) rfl (hb hby own_d2_109) (by decide) (by decide) ?_
              show Steps p.tables e below (s₁.setTop (mkF m 113 #[.val (.int p0)] [(.int (1 : Int32))])) _
              exact k
            obtain ⟨fs, hr, hrun, hended, hW, hsame⟩ := X0.leave (v := some (.int (1 : Int32))) (fun h => by rw [Bd.returns] at h; cases h)
            refine Go.mk' ⟨_, _, retN X0 hx (t := .boolean) Bd.returns (by simp) (hb hby own_d2_113) hr, hrun, hended, _, _, rfl, ?_, ⟨_, rfl⟩, hW, hsame.mono (by decide) (by decide)⟩
            show Q2 Z p0 h0 n0 _ s₁.heap _
            rw [e0]
            exact ⟨(by rw [f2, if_neg hc7, if_pos hc58, if_pos hc59, if_pos hc60, if_pos hc61]), N0, rfl⟩
          · refine Go.st (V' := s₁.setTop (mkF m 51 #[.val (.int p0)] [(.int (47 : Int32)), (.int p0)])) (fun t k => ?_) ?_
            · refine XS.icmpNo X0.here hx rfl (hb hby own_d2_45) rfl (feq hc61).1 ?_
              show Steps p.tables e below (s₁.setTop (mkF m 48 #[.val (.int p0)] [])) _
              refine XS.iloadN X0.here hx rfl (hb hby own_d2_48) rfl  ?_
              show Steps p.tables e below (s₁.setTop (mkF m 49 #[.val (.int p0)] [(.int p0)])) _
              refine XS.bipush X0.here hx rfl (hb hby own_d2_49) ?_
              show Steps p.tables e below (s₁.setTop (mkF m 51 #[.val (.int p0)] [(.int (47 : Int32)), (.int p0)])) _
              exact k
            by_cases hc62 : p0 = (47 : Int32)
            · refine Go.st (V' := s₁.setTop (mkF m 113 #[.val (.int p0)] [(.int (1 : Int32))])) (fun t k => ?_) ?_
              · refine XS.icmpYes X0.here hx rfl (pc0 := 51) (pc' := 108) rfl (hb hby own_d2_51) rfl (teq hc62).1 (by decide) (by decide) ?_
                show Steps p.tables e below (s₁.setTop (mkF m 108 #[.val (.int p0)] [])) _
                refine XS.iconst X0.here hx rfl (hb hby own_d2_108) ?_
                show Steps p.tables e below (s₁.setTop (mkF m 109 #[.val (.int p0)] [(.int (1 : Int32))])) _
                refine XS.goto X0.here hx rfl (pc0 := 109) (pc' := 113) rfl (hb hby own_d2_109) (by decide) (by decide) ?_
                show Steps p.tables e below (s₁.setTop (mkF m 113 #[.val (.int p0)] [(.int (1 : Int32))])) _
                exact k
              obtain ⟨fs, hr, hrun, hended, hW, hsame⟩ := X0.leave (v := some (.int (1 : Int32))) (fun h => by rw [Bd.returns] at h; cases h)
              refine Go.mk' ⟨_, _, retN X0 hx (t := .boolean) Bd.returns (by simp) (hb hby own_d2_113) hr, hrun, hended, _, _, rfl, ?_, ⟨_, rfl⟩, hW, hsame.mono (by decide) (by decide)⟩
              show Q2 Z p0 h0 n0 _ s₁.heap _
              rw [e0]
              exact ⟨(by rw [f2, if_neg hc7, if_pos hc58, if_pos hc59, if_pos hc60, if_neg hc61, if_pos hc62]), N0, rfl⟩
            · refine Go.st (V' := s₁.setTop (mkF m 57 #[.val (.int p0)] [(.int (45 : Int32)), (.int p0)])) (fun t k => ?_) ?_
              · refine XS.icmpNo X0.here hx rfl (hb hby own_d2_51) rfl (feq hc62).1 ?_
                show Steps p.tables e below (s₁.setTop (mkF m 54 #[.val (.int p0)] [])) _
                refine XS.iloadN X0.here hx rfl (hb hby own_d2_54) rfl  ?_
                show Steps p.tables e below (s₁.setTop (mkF m 55 #[.val (.int p0)] [(.int p0)])) _
                refine XS.bipush X0.here hx rfl (hb hby own_d2_55) ?_
                show Steps p.tables e below (s₁.setTop (mkF m 57 #[.val (.int p0)] [(.int (45 : Int32)), (.int p0)])) _
                exact k
              by_cases hc63 : p0 = (45 : Int32)
              · refine Go.st (V' := s₁.setTop (mkF m 113 #[.val (.int p0)] [(.int (1 : Int32))])) (fun t k => ?_) ?_
                · refine XS.icmpYes X0.here hx rfl (pc0 := 57) (pc' := 108) rfl (hb hby own_d2_57) rfl (teq hc63).1 (by decide) (by decide) ?_
                  show Steps p.tables e below (s₁.setTop (mkF m 108 #[.val (.int p0)] [])) _
                  refine XS.iconst X0.here hx rfl (hb hby own_d2_108) ?_
                  show Steps p.tables e below (s₁.setTop (mkF m 109 #[.val (.int p0)] [(.int (1 : Int32))])) _
                  refine XS.goto X0.here hx rfl (pc0 := 109) (pc' := 113) rfl (hb hby own_d2_109) (by decide) (by decide) ?_
                  show Steps p.tables e below (s₁.setTop (mkF m 113 #[.val (.int p0)] [(.int (1 : Int32))])) _
                  exact k
                obtain ⟨fs, hr, hrun, hended, hW, hsame⟩ := X0.leave (v := some (.int (1 : Int32))) (fun h => by rw [Bd.returns] at h; cases h)
                refine Go.mk' ⟨_, _, retN X0 hx (t := .boolean) Bd.returns (by simp) (hb hby own_d2_113) hr, hrun, hended, _, _, rfl, ?_, ⟨_, rfl⟩, hW, hsame.mono (by decide) (by decide)⟩
                show Q2 Z p0 h0 n0 _ s₁.heap _
                rw [e0]
                exact ⟨(by rw [f2, if_neg hc7, if_pos hc58, if_pos hc59, if_pos hc60, if_neg hc61, if_neg hc62, if_pos hc63]), N0, rfl⟩
              · refine Go.st (V' := s₁.setTop (mkF m 63 #[.val (.int p0)] [(.int (63 : Int32)), (.int p0)])) (fun t k => ?_) ?_
                · refine XS.icmpNo X0.here hx rfl (hb hby own_d2_57) rfl (feq hc63).1 ?_
                  show Steps p.tables e below (s₁.setTop (mkF m 60 #[.val (.int p0)] [])) _
                  refine XS.iloadN X0.here hx rfl (hb hby own_d2_60) rfl  ?_
                  show Steps p.tables e below (s₁.setTop (mkF m 61 #[.val (.int p0)] [(.int p0)])) _
                  refine XS.bipush X0.here hx rfl (hb hby own_d2_61) ?_
                  show Steps p.tables e below (s₁.setTop (mkF m 63 #[.val (.int p0)] [(.int (63 : Int32)), (.int p0)])) _
                  exact k
                by_cases hc64 : p0 = (63 : Int32)
                · refine Go.st (V' := s₁.setTop (mkF m 113 #[.val (.int p0)] [(.int (1 : Int32))])) (fun t k => ?_) ?_
                  · refine XS.icmpYes X0.here hx rfl (pc0 := 63) (pc' := 108) rfl (hb hby own_d2_63) rfl (teq hc64).1 (by decide) (by decide) ?_
                    show Steps p.tables e below (s₁.setTop (mkF m 108 #[.val (.int p0)] [])) _
                    refine XS.iconst X0.here hx rfl (hb hby own_d2_108) ?_
                    show Steps p.tables e below (s₁.setTop (mkF m 109 #[.val (.int p0)] [(.int (1 : Int32))])) _
                    refine XS.goto X0.here hx rfl (pc0 := 109) (pc' := 113) rfl (hb hby own_d2_109) (by decide) (by decide) ?_
                    show Steps p.tables e below (s₁.setTop (mkF m 113 #[.val (.int p0)] [(.int (1 : Int32))])) _
                    exact k
                  obtain ⟨fs, hr, hrun, hended, hW, hsame⟩ := X0.leave (v := some (.int (1 : Int32))) (fun h => by rw [Bd.returns] at h; cases h)
                  refine Go.mk' ⟨_, _, retN X0 hx (t := .boolean) Bd.returns (by simp) (hb hby own_d2_113) hr, hrun, hended, _, _, rfl, ?_, ⟨_, rfl⟩, hW, hsame.mono (by decide) (by decide)⟩
                  show Q2 Z p0 h0 n0 _ s₁.heap _
                  rw [e0]
                  exact ⟨(by rw [f2, if_neg hc7, if_pos hc58, if_pos hc59, if_pos hc60, if_neg hc61, if_neg hc62, if_neg hc63, if_pos hc64]), N0, rfl⟩
                · refine Go.st (V' := s₁.setTop (mkF m 69 #[.val (.int p0)] [(.int (58 : Int32)), (.int p0)])) (fun t k => ?_) ?_
                  · refine XS.icmpNo X0.here hx rfl (hb hby own_d2_63) rfl (feq hc64).1 ?_
                    show Steps p.tables e below (s₁.setTop (mkF m 66 #[.val (.int p0)] [])) _
                    refine XS.iloadN X0.here hx rfl (hb hby own_d2_66) rfl  ?_
                    show Steps p.tables e below (s₁.setTop (mkF m 67 #[.val (.int p0)] [(.int p0)])) _
                    refine XS.bipush X0.here hx rfl (hb hby own_d2_67) ?_
                    show Steps p.tables e below (s₁.setTop (mkF m 69 #[.val (.int p0)] [(.int (58 : Int32)), (.int p0)])) _
                    exact k
                  by_cases hc65 : p0 = (58 : Int32)
                  · refine Go.st (V' := s₁.setTop (mkF m 113 #[.val (.int p0)] [(.int (1 : Int32))])) (fun t k => ?_) ?_
                    · refine XS.icmpYes X0.here hx rfl (pc0 := 69) (pc' := 108) rfl (hb hby own_d2_69) rfl (teq hc65).1 (by decide) (by decide) ?_
                      show Steps p.tables e below (s₁.setTop (mkF m 108 #[.val (.int p0)] [])) _
                      refine XS.iconst X0.here hx rfl (hb hby own_d2_108) ?_
                      show Steps p.tables e below (s₁.setTop (mkF m 109 #[.val (.int p0)] [(.int (1 : Int32))])) _
                      refine XS.goto X0.here hx rfl (pc0 := 109) (pc' := 113) rfl (hb hby own_d2_109) (by decide) (by decide) ?_
                      show Steps p.tables e below (s₁.setTop (mkF m 113 #[.val (.int p0)] [(.int (1 : Int32))])) _
                      exact k
                    obtain ⟨fs, hr, hrun, hended, hW, hsame⟩ := X0.leave (v := some (.int (1 : Int32))) (fun h => by rw [Bd.returns] at h; cases h)
                    refine Go.mk' ⟨_, _, retN X0 hx (t := .boolean) Bd.returns (by simp) (hb hby own_d2_113) hr, hrun, hended, _, _, rfl, ?_, ⟨_, rfl⟩, hW, hsame.mono (by decide) (by decide)⟩
                    show Q2 Z p0 h0 n0 _ s₁.heap _
                    rw [e0]
                    exact ⟨(by rw [f2, if_neg hc7, if_pos hc58, if_pos hc59, if_pos hc60, if_neg hc61, if_neg hc62, if_neg hc63, if_neg hc64, if_pos hc65]), N0, rfl⟩
                  · refine Go.st (V' := s₁.setTop (mkF m 75 #[.val (.int p0)] [(.int (40 : Int32)), (.int p0)])) (fun t k => ?_) ?_
                    · refine XS.icmpNo X0.here hx rfl (hb hby own_d2_69) rfl (feq hc65).1 ?_
                      show Steps p.tables e below (s₁.setTop (mkF m 72 #[.val (.int p0)] [])) _
                      refine XS.iloadN X0.here hx rfl (hb hby own_d2_72) rfl  ?_
                      show Steps p.tables e below (s₁.setTop (mkF m 73 #[.val (.int p0)] [(.int p0)])) _
                      refine XS.bipush X0.here hx rfl (hb hby own_d2_73) ?_
                      show Steps p.tables e below (s₁.setTop (mkF m 75 #[.val (.int p0)] [(.int (40 : Int32)), (.int p0)])) _
                      exact k
                    by_cases hc66 : p0 = (40 : Int32)
                    · refine Go.st (V' := s₁.setTop (mkF m 113 #[.val (.int p0)] [(.int (1 : Int32))])) (fun t k => ?_) ?_
                      · refine XS.icmpYes X0.here hx rfl (pc0 := 75) (pc' := 108) rfl (hb hby own_d2_75) rfl (teq hc66).1 (by decide) (by decide) ?_
                        show Steps p.tables e below (s₁.setTop (mkF m 108 #[.val (.int p0)] [])) _
                        refine XS.iconst X0.here hx rfl (hb hby own_d2_108) ?_
                        show Steps p.tables e below (s₁.setTop (mkF m 109 #[.val (.int p0)] [(.int (1 : Int32))])) _
                        refine XS.goto X0.here hx rfl (pc0 := 109) (pc' := 113) rfl (hb hby own_d2_109) (by decide) (by decide) ?_
                        show Steps p.tables e below (s₁.setTop (mkF m 113 #[.val (.int p0)] [(.int (1 : Int32))])) _
                        exact k
                      obtain ⟨fs, hr, hrun, hended, hW, hsame⟩ := X0.leave (v := some (.int (1 : Int32))) (fun h => by rw [Bd.returns] at h; cases h)
                      refine Go.mk' ⟨_, _, retN X0 hx (t := .boolean) Bd.returns (by simp) (hb hby own_d2_113) hr, hrun, hended, _, _, rfl, ?_, ⟨_, rfl⟩, hW, hsame.mono (by decide) (by decide)⟩
                      show Q2 Z p0 h0 n0 _ s₁.heap _
                      rw [e0]
                      exact ⟨(by rw [f2, if_neg hc7, if_pos hc58, if_pos hc59, if_pos hc60, if_neg hc61, if_neg hc62, if_neg hc63, if_neg hc64, if_neg hc65, if_pos hc66]), N0, rfl⟩
                    · refine Go.st (V' := s₁.setTop (mkF m 81 #[.val (.int p0)] [(.int (41 : Int32)), (.int p0)])) (fun t k => ?_) ?_
                      · refine XS.icmpNo X0.here hx rfl (hb hby own_d2_75) rfl (feq hc66).1 ?_
                        show Steps p.tables e below (s₁.setTop (mkF m 78 #[.val (.int p0)] [])) _
                        refine XS.iloadN X0.here hx rfl (hb hby own_d2_78) rfl  ?_
                        show Steps p.tables e below (s₁.setTop (mkF m 79 #[.val (.int p0)] [(.int p0)])) _
                        refine XS.bipush X0.here hx rfl (hb hby own_d2_79) ?_
                        show Steps p.tables e below (s₁.setTop (mkF m 81 #[.val (.int p0)] [(.int (41 : Int32)), (.int p0)])) _
                        exact k
                      by_cases hc67 : p0 = (41 : Int32)
                      · refine Go.st (V' := s₁.setTop (mkF m 113 #[.val (.int p0)] [(.int (1 : Int32))])) (fun t k => ?_) ?_
                        · refine XS.icmpYes X0.here hx rfl (pc0 := 81) (pc' := 108) rfl (hb hby own_d2_81) rfl (teq hc67).1 (by decide) (by decide) ?_
                          show Steps p.tables e below (s₁.setTop (mkF m 108 #[.val (.int p0)] [])) _
                          refine XS.iconst X0.here hx rfl (hb hby own_d2_108) ?_
                          show Steps p.tables e below (s₁.setTop (mkF m 109 #[.val (.int p0)] [(.int (1 : Int32))])) _
                          refine XS.goto X0.here hx rfl (pc0 := 109) (pc' := 113) rfl (hb hby own_d2_109) (by decide) (by decide) ?_
                          show Steps p.tables e below (s₁.setTop (mkF m 113 #[.val (.int p0)] [(.int (1 : Int32))])) _
                          exact k
                        obtain ⟨fs, hr, hrun, hended, hW, hsame⟩ := X0.leave (v := some (.int (1 : Int32))) (fun h => by rw [Bd.returns] at h; cases h)
                        refine Go.mk' ⟨_, _, retN X0 hx (t := .boolean) Bd.returns (by simp) (hb hby own_d2_113) hr, hrun, hended, _, _, rfl, ?_, ⟨_, rfl⟩, hW, hsame.mono (by decide) (by decide)⟩
                        show Q2 Z p0 h0 n0 _ s₁.heap _
                        rw [e0]
                        exact ⟨(by rw [f2, if_neg hc7, if_pos hc58, if_pos hc59, if_pos hc60, if_neg hc61, if_neg hc62, if_neg hc63, if_neg hc64, if_neg hc65, if_neg hc66, if_pos hc67]), N0, rfl⟩
                      · refine Go.st (V' := s₁.setTop (mkF m 87 #[.val (.int p0)] [(.int (46 : Int32)), (.int p0)])) (fun t k => ?_) ?_
                        · refine XS.icmpNo X0.here hx rfl (hb hby own_d2_81) rfl (feq hc67).1 ?_
                          show Steps p.tables e below (s₁.setTop (mkF m 84 #[.val (.int p0)] [])) _
                          refine XS.iloadN X0.here hx rfl (hb hby own_d2_84) rfl  ?_
                          show Steps p.tables e below (s₁.setTop (mkF m 85 #[.val (.int p0)] [(.int p0)])) _
                          refine XS.bipush X0.here hx rfl (hb hby own_d2_85) ?_
                          show Steps p.tables e below (s₁.setTop (mkF m 87 #[.val (.int p0)] [(.int (46 : Int32)), (.int p0)])) _
                          exact k
                        by_cases hc68 : p0 = (46 : Int32)
                        · refine Go.st (V' := s₁.setTop (mkF m 113 #[.val (.int p0)] [(.int (1 : Int32))])) (fun t k => ?_) ?_
                          · refine XS.icmpYes X0.here hx rfl (pc0 := 87) (pc' := 108) rfl (hb hby own_d2_87) rfl (teq hc68).1 (by decide) (by decide) ?_
                            show Steps p.tables e below (s₁.setTop (mkF m 108 #[.val (.int p0)] [])) _
                            refine XS.iconst X0.here hx rfl (hb hby own_d2_108) ?_
                            show Steps p.tables e below (s₁.setTop (mkF m 109 #[.val (.int p0)] [(.int (1 : Int32))])) _
                            refine XS.goto X0.here hx rfl (pc0 := 109) (pc' := 113) rfl (hb hby own_d2_109) (by decide) (by decide) ?_
                            show Steps p.tables e below (s₁.setTop (mkF m 113 #[.val (.int p0)] [(.int (1 : Int32))])) _
                            exact k
                          obtain ⟨fs, hr, hrun, hended, hW, hsame⟩ := X0.leave (v := some (.int (1 : Int32))) (fun h => by rw [Bd.returns] at h; cases h)
                          refine Go.mk' ⟨_, _, retN X0 hx (t := .boolean) Bd.returns (by simp) (hb hby own_d2_113) hr, hrun, hended, _, _, rfl, ?_, ⟨_, rfl⟩, hW, hsame.mono (by decide) (by decide)⟩
                          show Q2 Z p0 h0 n0 _ s₁.heap _
                          rw [e0]
                          exact ⟨(by rw [f2, if_neg hc7, if_pos hc58, if_pos hc59, if_pos hc60, if_neg hc61, if_neg hc62, if_neg hc63, if_neg hc64, if_neg hc65, if_neg hc66, if_neg hc67, if_pos hc68]), N0, rfl⟩
                        · refine Go.st (V' := s₁.setTop (mkF m 93 #[.val (.int p0)] [(.int (44 : Int32)), (.int p0)])) (fun t k => ?_) ?_
                          · refine XS.icmpNo X0.here hx rfl (hb hby own_d2_87) rfl (feq hc68).1 ?_
                            show Steps p.tables e below (s₁.setTop (mkF m 90 #[.val (.int p0)] [])) _
                            refine XS.iloadN X0.here hx rfl (hb hby own_d2_90) rfl  ?_
                            show Steps p.tables e below (s₁.setTop (mkF m 91 #[.val (.int p0)] [(.int p0)])) _
                            refine XS.bipush X0.here hx rfl (hb hby own_d2_91) ?_
                            show Steps p.tables e below (s₁.setTop (mkF m 93 #[.val (.int p0)] [(.int (44 : Int32)), (.int p0)])) _
                            exact k
                          by_cases hc69 : p0 = (44 : Int32)
                          · refine Go.st (V' := s₁.setTop (mkF m 113 #[.val (.int p0)] [(.int (1 : Int32))])) (fun t k => ?_) ?_
                            · refine XS.icmpYes X0.here hx rfl (pc0 := 93) (pc' := 108) rfl (hb hby own_d2_93) rfl (teq hc69).1 (by decide) (by decide) ?_
                              show Steps p.tables e below (s₁.setTop (mkF m 108 #[.val (.int p0)] [])) _
                              refine XS.iconst X0.here hx rfl (hb hby own_d2_108) ?_
                              show Steps p.tables e below (s₁.setTop (mkF m 109 #[.val (.int p0)] [(.int (1 : Int32))])) _
                              refine XS.goto X0.here hx rfl (pc0 := 109) (pc' := 113) rfl (hb hby own_d2_109) (by decide) (by decide) ?_
                              show Steps p.tables e below (s₁.setTop (mkF m 113 #[.val (.int p0)] [(.int (1 : Int32))])) _
                              exact k
                            obtain ⟨fs, hr, hrun, hended, hW, hsame⟩ := X0.leave (v := some (.int (1 : Int32))) (fun h => by rw [Bd.returns] at h; cases h)
                            refine Go.mk' ⟨_, _, retN X0 hx (t := .boolean) Bd.returns (by simp) (hb hby own_d2_113) hr, hrun, hended, _, _, rfl, ?_, ⟨_, rfl⟩, hW, hsame.mono (by decide) (by decide)⟩
                            show Q2 Z p0 h0 n0 _ s₁.heap _
                            rw [e0]
                            exact ⟨(by rw [f2, if_neg hc7, if_pos hc58, if_pos hc59, if_pos hc60, if_neg hc61, if_neg hc62, if_neg hc63, if_neg hc64, if_neg hc65, if_neg hc66, if_neg hc67, if_neg hc68, if_pos hc69]), N0, rfl⟩
                          · refine Go.st (V' := s₁.setTop (mkF m 99 #[.val (.int p0)] [(.int (39 : Int32)), (.int p0)])) (fun t k => ?_) ?_
                            · refine XS.icmpNo X0.here hx rfl (hb hby own_d2_93) rfl (feq hc69).1 ?_
                              show Steps p.tables e below (s₁.setTop (mkF m 96 #[.val (.int p0)] [])) _
                              refine XS.iloadN X0.here hx rfl (hb hby own_d2_96) rfl  ?_
                              show Steps p.tables e below (s₁.setTop (mkF m 97 #[.val (.int p0)] [(.int p0)])) _
                              refine XS.bipush X0.here hx rfl (hb hby own_d2_97) ?_
                              show Steps p.tables e below (s₁.setTop (mkF m 99 #[.val (.int p0)] [(.int (39 : Int32)), (.int p0)])) _
                              exact k
                            by_cases hc70 : p0 = (39 : Int32)
                            · refine Go.st (V' := s₁.setTop (mkF m 113 #[.val (.int p0)] [(.int (1 : Int32))])) (fun t k => ?_) ?_
                              · refine XS.icmpYes X0.here hx rfl (pc0 := 99) (pc' := 108) rfl (hb hby own_d2_99) rfl (teq hc70).1 (by decide) (by decide) ?_
                                show Steps p.tables e below (s₁.setTop (mkF m 108 #[.val (.int p0)] [])) _
                                refine XS.iconst X0.here hx rfl (hb hby own_d2_108) ?_
                                show Steps p.tables e below (s₁.setTop (mkF m 109 #[.val (.int p0)] [(.int (1 : Int32))])) _
                                refine XS.goto X0.here hx rfl (pc0 := 109) (pc' := 113) rfl (hb hby own_d2_109) (by decide) (by decide) ?_
                                show Steps p.tables e below (s₁.setTop (mkF m 113 #[.val (.int p0)] [(.int (1 : Int32))])) _
                                exact k
                              obtain ⟨fs, hr, hrun, hended, hW, hsame⟩ := X0.leave (v := some (.int (1 : Int32))) (fun h => by rw [Bd.returns] at h; cases h)
                              refine Go.mk' ⟨_, _, retN X0 hx (t := .boolean) Bd.returns (by simp) (hb hby own_d2_113) hr, hrun, hended, _, _, rfl, ?_, ⟨_, rfl⟩, hW, hsame.mono (by decide) (by decide)⟩
                              show Q2 Z p0 h0 n0 _ s₁.heap _
                              rw [e0]
                              exact ⟨(by rw [f2, if_neg hc7, if_pos hc58, if_pos hc59, if_pos hc60, if_neg hc61, if_neg hc62, if_neg hc63, if_neg hc64, if_neg hc65, if_neg hc66, if_neg hc67, if_neg hc68, if_neg hc69, if_pos hc70]), N0, rfl⟩
                            · refine Go.st (V' := s₁.setTop (mkF m 105 #[.val (.int p0)] [(.int (43 : Int32)), (.int p0)])) (fun t k => ?_) ?_
                              · refine XS.icmpNo X0.here hx rfl (hb hby own_d2_99) rfl (feq hc70).1 ?_
                                show Steps p.tables e below (s₁.setTop (mkF m 102 #[.val (.int p0)] [])) _
                                refine XS.iloadN X0.here hx rfl (hb hby own_d2_102) rfl  ?_
                                show Steps p.tables e below (s₁.setTop (mkF m 103 #[.val (.int p0)] [(.int p0)])) _
                                refine XS.bipush X0.here hx rfl (hb hby own_d2_103) ?_
                                show Steps p.tables e below (s₁.setTop (mkF m 105 #[.val (.int p0)] [(.int (43 : Int32)), (.int p0)])) _
                                exact k
                              by_cases hc71 : p0 = (43 : Int32)
                              · refine Go.st (V' := s₁.setTop (mkF m 113 #[.val (.int p0)] [(.int (1 : Int32))])) (fun t k => ?_) ?_
                                · refine XS.icmpNo X0.here hx rfl (hb hby own_d2_105) rfl (teq hc71).2 ?_
                                  show Steps p.tables e below (s₁.setTop (mkF m 108 #[.val (.int p0)] [])) _
                                  refine XS.iconst X0.here hx rfl (hb hby own_d2_108) ?_
                                  show Steps p.tables e below (s₁.setTop (mkF m 109 #[.val (.int p0)] [(.int (1 : Int32))])) _
                                  refine XS.goto X0.here hx rfl (pc0 := 109) (pc' := 113) rfl (hb hby own_d2_109) (by decide) (by decide) ?_
                                  show Steps p.tables e below (s₁.setTop (mkF m 113 #[.val (.int p0)] [(.int (1 : Int32))])) _
                                  exact k
                                obtain ⟨fs, hr, hrun, hended, hW, hsame⟩ := X0.leave (v := some (.int (1 : Int32))) (fun h => by rw [Bd.returns] at h; cases h)
                                refine Go.mk' ⟨_, _, retN X0 hx (t := .boolean) Bd.returns (by simp) (hb hby own_d2_113) hr, hrun, hended, _, _, rfl, ?_, ⟨_, rfl⟩, hW, hsame.mono (by decide) (by decide)⟩
                                show Q2 Z p0 h0 n0 _ s₁.heap _
                                rw [e0]
                                exact ⟨(by rw [f2, if_neg hc7, if_pos hc58, if_pos hc59, if_pos hc60, if_neg hc61, if_neg hc62, if_neg hc63, if_neg hc64, if_neg hc65, if_neg hc66, if_neg hc67, if_neg hc68, if_neg hc69, if_neg hc70, if_pos hc71]), N0, rfl⟩
                              · refine Go.st (V' := s₁.setTop (mkF m 113 #[.val (.int p0)] [(.int (0 : Int32))])) (fun t k => ?_) ?_
                                · refine XS.icmpYes X0.here hx rfl (pc0 := 105) (pc' := 112) rfl (hb hby own_d2_105) rfl (feq hc71).2 (by decide) (by decide) ?_
                                  show Steps p.tables e below (s₁.setTop (mkF m 112 #[.val (.int p0)] [])) _
                                  refine XS.iconst X0.here hx rfl (hb hby own_d2_112) ?_
                                  show Steps p.tables e below (s₁.setTop (mkF m 113 #[.val (.int p0)] [(.int (0 : Int32))])) _
                                  exact k
                                obtain ⟨fs, hr, hrun, hended, hW, hsame⟩ := X0.leave (v := some (.int (0 : Int32))) (fun h => by rw [Bd.returns] at h; cases h)
                                refine Go.mk' ⟨_, _, retN X0 hx (t := .boolean) Bd.returns (by simp) (hb hby own_d2_113) hr, hrun, hended, _, _, rfl, ?_, ⟨_, rfl⟩, hW, hsame.mono (by decide) (by decide)⟩
                                show Q2 Z p0 h0 n0 _ s₁.heap _
                                rw [e0]
                                exact ⟨(by rw [f2, if_neg hc7, if_pos hc58, if_pos hc59, if_pos hc60, if_neg hc61, if_neg hc62, if_neg hc63, if_neg hc64, if_neg hc65, if_neg hc66, if_neg hc67, if_neg hc68, if_neg hc69, if_neg hc70, if_neg hc71]), N0, rfl⟩
        · refine Go.st (V' := s₁.setTop (mkF m 37 #[.val (.int p0)] [(.int (57 : Int32)), (.int p0)])) (fun t k => ?_) ?_
          · refine XS.icmpNo X0.here hx rfl (hb hby own_d2_31) rfl (flt hc60).1 ?_
            show Steps p.tables e below (s₁.setTop (mkF m 34 #[.val (.int p0)] [])) _
            refine XS.iloadN X0.here hx rfl (hb hby own_d2_34) rfl  ?_
            show Steps p.tables e below (s₁.setTop (mkF m 35 #[.val (.int p0)] [(.int p0)])) _
            refine XS.bipush X0.here hx rfl (hb hby own_d2_35) ?_
            show Steps p.tables e below (s₁.setTop (mkF m 37 #[.val (.int p0)] [(.int (57 : Int32)), (.int p0)])) _
            exact k
          by_cases hc72 : (57 : Int32) < p0
          · refine Go.st (V' := s₁.setTop (mkF m 45 #[.val (.int p0)] [(.int (32 : Int32)), (.int p0)])) (fun t k => ?_) ?_
            · refine XS.icmpYes X0.here hx rfl (pc0 := 37) (pc' := 42) rfl (hb hby own_d2_37) rfl (tlt hc72).2.2.1 (by decide) (by decide) ?_
              show Steps p.tables e below (s₁.setTop (mkF m 42 #[.val (.int p0)] [])) _
              refine XS.iloadN X0.here hx rfl (hb hby own_d2_42) rfl  ?_
              show Steps p.tables e below (s₁.setTop (mkF m 43 #[.val (.int p0)] [(.int p0)])) _
              refine XS.bipush X0.here hx rfl (hb hby own_d2_43) ?_
              show Steps p.tables e below (s₁.setTop (mkF m 45 #[.val (.int p0)] [(.int (32 : Int32)), (.int p0)])) _
              exact k
            by_cases hc73 : p0 = (32 : Int32)
            · refine Go.st (V' := s₁.setTop (mkF m 113 #[.val (.int p0)] [(.int (1 : Int32))])) (fun t k => ?_) ?_
              · refine XS.icmpYes X0.here hx rfl (pc0 := 45) (pc' := 108) rfl (hb hby own_d2_45) rfl (teq hc73).1 (by decide) (by decide) ?_
                show Steps p.tables e below (s₁.setTop (mkF m 108 #[.val (.int p0)] [])) _
                refine XS.iconst X0.here hx rfl (hb hby own_d2_108) ?_
                show Steps p.tables e below (s₁.setTop (mkF m 109 #[.val (.int p0)] [(.int (1 : Int32))])) _
                refine XS.goto X0.here hx rfl (pc0 := 109) (pc' := 113) rfl (hb hby own_d2_109) (by decide) (by decide) ?_
                show Steps p.tables e below (s₁.setTop (mkF m 113 #[.val (.int p0)] [(.int (1 : Int32))])) _
                exact k
              obtain ⟨fs, hr, hrun, hended, hW, hsame⟩ := X0.leave (v := some (.int (1 : Int32))) (fun h => by rw [Bd.returns] at h; cases h)
              refine Go.mk' ⟨_, _, retN X0 hx (t := .boolean) Bd.returns (by simp) (hb hby own_d2_113) hr, hrun, hended, _, _, rfl, ?_, ⟨_, rfl⟩, hW, hsame.mono (by decide) (by decide)⟩
              show Q2 Z p0 h0 n0 _ s₁.heap _
              rw [e0]
              exact ⟨(by rw [f2, if_neg hc7, if_pos hc58, if_pos hc59, if_neg hc60, if_pos hc72, if_pos hc73]), N0, rfl⟩
            · refine Go.st (V' := s₁.setTop (mkF m 51 #[.val (.int p0)] [(.int (47 : Int32)), (.int p0)])) (fun t k => ?_) ?_
              · refine XS.icmpNo X0.here hx rfl (hb hby own_d2_45) rfl (feq hc73).1 ?_
                show Steps p.tables e below (s₁.setTop (mkF m 48 #[.val (.int p0)] [])) _
                refine XS.iloadN X0.here hx rfl (hb hby own_d2_48) rfl  ?_
                show Steps p.tables e below (s₁.setTop (mkF m 49 #[.val (.int p0)] [(.int p0)])) _
                refine XS.bipush X0.here hx rfl (hb hby own_d2_49) ?_
                show Steps p.tables e below (s₁.setTop (mkF m 51 #[.val (.int p0)] [(.int (47 : Int32)), (.int p0)])) _
                exact k
              by_cases hc74 : p0 = (47 : Int32)
              · refine Go.st (V' := s₁.setTop (mkF m 113 #[.val (.int p0)] [(.int (1 : Int32))])) (fun t k => ?_) ?_
                · refine XS.icmpYes X0.here hx rfl (pc0 := 51) (pc' := 108) rfl (hb hby own_d2_51) rfl (teq hc74).1 (by decide) (by decide) ?_
                  show Steps p.tables e below (s₁.setTop (mkF m 108 #[.val (.int p0)] [])) _
                  refine XS.iconst X0.here hx rfl (hb hby own_d2_108) ?_
                  show Steps p.tables e below (s₁.setTop (mkF m 109 #[.val (.int p0)] [(.int (1 : Int32))])) _
                  refine XS.goto X0.here hx rfl (pc0 := 109) (pc' := 113) rfl (hb hby own_d2_109) (by decide) (by decide) ?_
                  show Steps p.tables e below (s₁.setTop (mkF m 113 #[.val (.int p0)] [(.int (1 : Int32))])) _
                  exact k
                obtain ⟨fs, hr, hrun, hended, hW, hsame⟩ := X0.leave (v := some (.int (1 : Int32))) (fun h => by rw [Bd.returns] at h; cases h)
                refine Go.mk' ⟨_, _, retN X0 hx (t := .boolean) Bd.returns (by simp) (hb hby own_d2_113) hr, hrun, hended, _, _, rfl, ?_, ⟨_, rfl⟩, hW, hsame.mono (by decide) (by decide)⟩
                show Q2 Z p0 h0 n0 _ s₁.heap _
                rw [e0]
                exact ⟨(by rw [f2, if_neg hc7, if_pos hc58, if_pos hc59, if_neg hc60, if_pos hc72, if_neg hc73, if_pos hc74]), N0, rfl⟩
              · refine Go.st (V' := s₁.setTop (mkF m 57 #[.val (.int p0)] [(.int (45 : Int32)), (.int p0)])) (fun t k => ?_) ?_
                · refine XS.icmpNo X0.here hx rfl (hb hby own_d2_51) rfl (feq hc74).1 ?_
                  show Steps p.tables e below (s₁.setTop (mkF m 54 #[.val (.int p0)] [])) _
                  refine XS.iloadN X0.here hx rfl (hb hby own_d2_54) rfl  ?_
                  show Steps p.tables e below (s₁.setTop (mkF m 55 #[.val (.int p0)] [(.int p0)])) _
                  refine XS.bipush X0.here hx rfl (hb hby own_d2_55) ?_
                  show Steps p.tables e below (s₁.setTop (mkF m 57 #[.val (.int p0)] [(.int (45 : Int32)), (.int p0)])) _
                  exact k
                by_cases hc75 : p0 = (45 : Int32)
                · refine Go.st (V' := s₁.setTop (mkF m 113 #[.val (.int p0)] [(.int (1 : Int32))])) (fun t k => ?_) ?_
                  · refine XS.icmpYes X0.here hx rfl (pc0 := 57) (pc' := 108) rfl (hb hby own_d2_57) rfl (teq hc75).1 (by decide) (by decide) ?_
                    show Steps p.tables e below (s₁.setTop (mkF m 108 #[.val (.int p0)] [])) _
                    refine XS.iconst X0.here hx rfl (hb hby own_d2_108) ?_
                    show Steps p.tables e below (s₁.setTop (mkF m 109 #[.val (.int p0)] [(.int (1 : Int32))])) _
                    refine XS.goto X0.here hx rfl (pc0 := 109) (pc' := 113) rfl (hb hby own_d2_109) (by decide) (by decide) ?_
                    show Steps p.tables e below (s₁.setTop (mkF m 113 #[.val (.int p0)] [(.int (1 : Int32))])) _
                    exact k
                  obtain ⟨fs, hr, hrun, hended, hW, hsame⟩ := X0.leave (v := some (.int (1 : Int32))) (fun h => by rw [Bd.returns] at h; cases h)
                  refine Go.mk' ⟨_, _, retN X0 hx (t := .boolean) Bd.returns (by simp) (hb hby own_d2_113) hr, hrun, hended, _, _, rfl, ?_, ⟨_, rfl⟩, hW, hsame.mono (by decide) (by decide)⟩
                  show Q2 Z p0 h0 n0 _ s₁.heap _
                  rw [e0]
                  exact ⟨(by rw [f2, if_neg hc7, if_pos hc58, if_pos hc59, if_neg hc60, if_pos hc72, if_neg hc73, if_neg hc74, if_pos hc75]), N0, rfl⟩
                · refine Go.st (V' := s₁.setTop (mkF m 63 #[.val (.int p0)] [(.int (63 : Int32)), (.int p0)])) (fun t k => ?_) ?_
                  · refine XS.icmpNo X0.here hx rfl (hb hby own_d2_57) rfl (feq hc75).1 ?_
                    show Steps p.tables e below (s₁.setTop (mkF m 60 #[.val (.int p0)] [])) _
                    refine XS.iloadN X0.here hx rfl (hb hby own_d2_60) rfl  ?_
                    show Steps p.tables e below (s₁.setTop (mkF m 61 #[.val (.int p0)] [(.int p0)])) _
                    refine XS.bipush X0.here hx rfl (hb hby own_d2_61) ?_
                    show Steps p.tables e below (s₁.setTop (mkF m 63 #[.val (.int p0)] [(.int (63 : Int32)), (.int p0)])) _
                    exact k
                  by_cases hc76 : p0 = (63 : Int32)
                  · refine Go.st (V' := s₁.setTop (mkF m 113 #[.val (.int p0)] [(.int (1 : Int32))])) (fun t k => ?_) ?_
                    · refine XS.icmpYes X0.here hx rfl (pc0 := 63) (pc' := 108) rfl (hb hby own_d2_63) rfl (teq hc76).1 (by decide) (by decide) ?_
                      show Steps p.tables e below (s₁.setTop (mkF m 108 #[.val (.int p0)] [])) _
                      refine XS.iconst X0.here hx rfl (hb hby own_d2_108) ?_
                      show Steps p.tables e below (s₁.setTop (mkF m 109 #[.val (.int p0)] [(.int (1 : Int32))])) _
                      refine XS.goto X0.here hx rfl (pc0 := 109) (pc' := 113) rfl (hb hby own_d2_109) (by decide) (by decide) ?_
                      show Steps p.tables e below (s₁.setTop (mkF m 113 #[.val (.int p0)] [(.int (1 : Int32))])) _
                      exact k
                    obtain ⟨fs, hr, hrun, hended, hW, hsame⟩ := X0.leave (v := some (.int (1 : Int32))) (fun h => by rw [Bd.returns] at h; cases h)
                    refine Go.mk' ⟨_, _, retN X0 hx (t := .boolean) Bd.returns (by simp) (hb hby own_d2_113) hr, hrun, hended, _, _, rfl, ?_, ⟨_, rfl⟩, hW, hsame.mono (by decide) (by decide)⟩
                    show Q2 Z p0 h0 n0 _ s₁.heap _
                    rw [e0]
                    exact ⟨(by rw [f2, if_neg hc7, if_pos hc58, if_pos hc59, if_neg hc60, if_pos hc72, if_neg hc73, if_neg hc74, if_neg hc75, if_pos hc76]), N0, rfl⟩
                  · refine Go.st (V' := s₁.setTop (mkF m 69 #[.val (.int p0)] [(.int (58 : Int32)), (.int p0)])) (fun t k => ?_) ?_
                    · refine XS.icmpNo X0.here hx rfl (hb hby own_d2_63) rfl (feq hc76).1 ?_
                      show Steps p.tables e below (s₁.setTop (mkF m 66 #[.val (.int p0)] [])) _
                      refine XS.iloadN X0.here hx rfl (hb hby own_d2_66) rfl  ?_
                      show Steps p.tables e below (s₁.setTop (mkF m 67 #[.val (.int p0)] [(.int p0)])) _
                      refine XS.bipush X0.here hx rfl (hb hby own_d2_67) ?_
                      show Steps p.tables e below (s₁.setTop (mkF m 69 #[.val (.int p0)] [(.int (58 : Int32)), (.int p0)])) _
                      exact k
                    by_cases hc77 : p0 = (58 : Int32)
                    · refine Go.st (V' := s₁.setTop (mkF m 113 #[.val (.int p0)] [(.int (1 : Int32))])) (fun t k => ?_) ?_
                      · refine XS.icmpYes X0.here hx rfl (pc0 := 69) (pc' := 108) rfl (hb hby own_d2_69) rfl (teq hc77).1 (by decide) (by decide) ?_
                        show Steps p.tables e below (s₁.setTop (mkF m 108 #[.val (.int p0)] [])) _
                        refine XS.iconst X0.here hx rfl (hb hby own_d2_108) ?_
                        show Steps p.tables e below (s₁.setTop (mkF m 109 #[.val (.int p0)] [(.int (1 : Int32))])) _
                        refine XS.goto X0.here hx rfl (pc0 := 109) (pc' := 113) rfl (hb hby own_d2_109) (by decide) (by decide) ?_
                        show Steps p.tables e below (s₁.setTop (mkF m 113 #[.val (.int p0)] [(.int (1 : Int32))])) _
                        exact k
                      obtain ⟨fs, hr, hrun, hended, hW, hsame⟩ := X0.leave (v := some (.int (1 : Int32))) (fun h => by rw [Bd.returns] at h; cases h)
                      refine Go.mk' ⟨_, _, retN X0 hx (t := .boolean) Bd.returns (by simp) (hb hby own_d2_113) hr, hrun, hended, _, _, rfl, ?_, ⟨_, rfl⟩, hW, hsame.mono (by decide) (by decide)⟩
                      show Q2 Z p0 h0 n0 _ s₁.heap _
                      rw [e0]
                      exact ⟨(by rw [f2, if_neg hc7, if_pos hc58, if_pos hc59, if_neg hc60, if_pos hc72, if_neg hc73, if_neg hc74, if_neg hc75, if_neg hc76, if_pos hc77]), N0, rfl⟩
                    · refine Go.st (V' := s₁.setTop (mkF m 75 #[.val (.int p0)] [(.int (40 : Int32)), (.int p0)])) (fun t k => ?_) ?_
                      · refine XS.icmpNo X0.here hx rfl (hb hby own_d2_69) rfl (feq hc77).1 ?_
                        show Steps p.tables e below (s₁.setTop (mkF m 72 #[.val (.int p0)] [])) _
                        refine XS.iloadN X0.here hx rfl (hb hby own_d2_72) rfl  ?_
                        show Steps p.tables e below (s₁.setTop (mkF m 73 #[.val (.int p0)] [(.int p0)])) _
                        refine XS.bipush X0.here hx rfl (hb hby own_d2_73) ?_
                        show Steps p.tables e below (s₁.setTop (mkF m 75 #[.val (.int p0)] [(.int (40 : Int32)), (.int p0)])) _
                        exact k
                      by_cases hc78 : p0 = (40 : Int32)
                      · refine Go.st (V' := s₁.setTop (mkF m 113 #[.val (.int p0)] [(.int (1 : Int32))])) (fun t k => ?_) ?_
                        · refine XS.icmpYes X0.here hx rfl (pc0 := 75) (pc' := 108) rfl (hb hby own_d2_75) rfl (teq hc78).1 (by decide) (by decide) ?_
                          show Steps p.tables e below (s₁.setTop (mkF m 108 #[.val (.int p0)] [])) _
                          refine XS.iconst X0.here hx rfl (hb hby own_d2_108) ?_
                          show Steps p.tables e below (s₁.setTop (mkF m 109 #[.val (.int p0)] [(.int (1 : Int32))])) _
                          refine XS.goto X0.here hx rfl (pc0 := 109) (pc' := 113) rfl (hb hby own_d2_109) (by decide) (by decide) ?_
                          show Steps p.tables e below (s₁.setTop (mkF m 113 #[.val (.int p0)] [(.int (1 : Int32))])) _
                          exact k
                        obtain ⟨fs, hr, hrun, hended, hW, hsame⟩ := X0.leave (v := some (.int (1 : Int32))) (fun h => by rw [Bd.returns] at h; cases h)
                        refine Go.mk' ⟨_, _, retN X0 hx (t := .boolean) Bd.returns (by simp) (hb hby own_d2_113) hr, hrun, hended, _, _, rfl, ?_, ⟨_, rfl⟩, hW, hsame.mono (by decide) (by decide)⟩
                        show Q2 Z p0 h0 n0 _ s₁.heap _
                        rw [e0]
                        exact ⟨(by rw [f2, if_neg hc7, if_pos hc58, if_pos hc59, if_neg hc60, if_pos hc72, if_neg hc73, if_neg hc74, if_neg hc75, if_neg hc76, if_neg hc77, if_pos hc78]), N0, rfl⟩
                      · refine Go.st (V' := s₁.setTop (mkF m 81 #[.val (.int p0)] [(.int (41 : Int32)), (.int p0)])) (fun t k => ?_) ?_
                        · refine XS.icmpNo X0.here hx rfl (hb hby own_d2_75) rfl (feq hc78).1 ?_
                          show Steps p.tables e below (s₁.setTop (mkF m 78 #[.val (.int p0)] [])) _
                          refine XS.iloadN X0.here hx rfl (hb hby own_d2_78) rfl  ?_
                          show Steps p.tables e below (s₁.setTop (mkF m 79 #[.val (.int p0)] [(.int p0)])) _
                          refine XS.bipush X0.here hx rfl (hb hby own_d2_79) ?_
                          show Steps p.tables e below (s₁.setTop (mkF m 81 #[.val (.int p0)] [(.int (41 : Int32)), (.int p0)])) _
                          exact k
                        by_cases hc79 : p0 = (41 : Int32)
                        · refine Go.st (V' := s₁.setTop (mkF m 113 #[.val (.int p0)] [(.int (1 : Int32))])) (fun t k => ?_) ?_
                          · refine XS.icmpYes X0.here hx rfl (pc0 := 81) (pc' := 108) rfl (hb hby own_d2_81) rfl (teq hc79).1 (by decide) (by decide) ?_
                            show Steps p.tables e below (s₁.setTop (mkF m 108 #[.val (.int p0)] [])) _
                            refine XS.iconst X0.here hx rfl (hb hby own_d2_108) ?_
                            show Steps p.tables e below (s₁.setTop (mkF m 109 #[.val (.int p0)] [(.int (1 : Int32))])) _
                            refine XS.goto X0.here hx rfl (pc0 := 109) (pc' := 113) rfl (hb hby own_d2_109) (by decide) (by decide) ?_
                            show Steps p.tables e below (s₁.setTop (mkF m 113 #[.val (.int p0)] [(.int (1 : Int32))])) _
                            exact k
                          obtain ⟨fs, hr, hrun, hended, hW, hsame⟩ := X0.leave (v := some (.int (1 : Int32))) (fun h => by rw [Bd.returns] at h; cases h)
                          refine Go.mk' ⟨_, _, retN X0 hx (t := .boolean) Bd.returns (by simp) (hb hby own_d2_113) hr, hrun, hended, _, _, rfl, ?_, ⟨_, rfl⟩, hW, hsame.mono (by decide) (by decide)⟩
                          show Q2 Z p0 h0 n0 _ s₁.heap _
                          rw [e0]
                          exact ⟨(by rw [f2, if_neg hc7, if_pos hc58, if_pos hc59, if_neg hc60, if_pos hc72, if_neg hc73, if_neg hc74, if_neg hc75, if_neg hc76, if_neg hc77, if_neg hc78, if_pos hc79]), N0, rfl⟩
                        · refine Go.st (V' := s₁.setTop (mkF m 87 #[.val (.int p0)] [(.int (46 : Int32)), (.int p0)])) (fun t k => ?_) ?_
                          · refine XS.icmpNo X0.here hx rfl (hb hby own_d2_81) rfl (feq hc79).1 ?_
                            show Steps p.tables e below (s₁.setTop (mkF m 84 #[.val (.int p0)] [])) _
                            refine XS.iloadN X0.here hx rfl (hb hby own_d2_84) rfl  ?_
                            show Steps p.tables e below (s₁.setTop (mkF m 85 #[.val (.int p0)] [(.int p0)])) _
                            refine XS.bipush X0.here hx rfl (hb hby own_d2_85) ?_
                            show Steps p.tables e below (s₁.setTop (mkF m 87 #[.val (.int p0)] [(.int (46 : Int32)), (.int p0)])) _
                            exact k
                          by_cases hc80 : p0 = (46 : Int32)
                          · refine Go.st (V' := s₁.setTop (mkF m 113 #[.val (.int p0)] [(.int (1 : Int32))])) (fun t k => ?_) ?_
                            · refine XS.icmpYes X0.here hx rfl (pc0 := 87) (pc' := 108) rfl (hb hby own_d2_87) rfl (teq hc80).1 (by decide) (by decide) ?_
                              show Steps p.tables e below (s₁.setTop (mkF m 108 #[.val (.int p0)] [])) _
                              refine XS.iconst X0.here hx rfl (hb hby own_d2_108) ?_
                              show Steps p.tables e below (s₁.setTop (mkF m 109 #[.val (.int p0)] [(.int (1 : Int32))])) _
                              refine XS.goto X0.here hx rfl (pc0 := 109) (pc' := 113) rfl (hb hby own_d2_109) (by decide) (by decide) ?_
                              show Steps p.tables e below (s₁.setTop (mkF m 113 #[.val (.int p0)] [(.int (1 : Int32))])) _
                              exact k
                            obtain ⟨fs, hr, hrun, hended, hW, hsame⟩ := X0.leave (v := some (.int (1 : Int32))) (fun h => by rw [Bd.returns] at h; cases h)
                            refine Go.mk' ⟨_, _, retN X0 hx (t := .boolean) Bd.returns (by simp) (hb hby own_d2_113) hr, hrun, hended, _, _, rfl, ?_, ⟨_, rfl⟩, hW, hsame.mono (by decide) (by decide)⟩
                            show Q2 Z p0 h0 n0 _ s₁.heap _
                            rw [e0]
                            exact ⟨(by rw [f2, if_neg hc7, if_pos hc58, if_pos hc59, if_neg hc60, if_pos hc72, if_neg hc73, if_neg hc74, if_neg hc75, if_neg hc76, if_neg hc77, if_neg hc78, if_neg hc79, if_pos hc80]), N0, rfl⟩
                          · refine Go.st (V' := s₁.setTop (mkF m 93 #[.val (.int p0)] [(.int (44 : Int32)), (.int p0)])) (fun t k => ?_) ?_
                            · refine XS.icmpNo X0.here hx rfl (hb hby own_d2_87) rfl (feq hc80).1 ?_
                              show Steps p.tables e below (s₁.setTop (mkF m 90 #[.val (.int p0)] [])) _
                              refine XS.iloadN X0.here hx rfl (hb hby own_d2_90) rfl  ?_
                              show Steps p.tables e below (s₁.setTop (mkF m 91 #[.val (.int p0)] [(.int p0)])) _
                              refine XS.bipush X0.here hx rfl (hb hby own_d2_91) ?_
                              show Steps p.tables e below (s₁.setTop (mkF m 93 #[.val (.int p0)] [(.int (44 : Int32)), (.int p0)])) _
                              exact k
                            by_cases hc81 : p0 = (44 : Int32)
                            · refine Go.st (V' := s₁.setTop (mkF m 113 #[.val (.int p0)] [(.int (1 : Int32))])) (fun t k => ?_) ?_
                              · refine XS.icmpYes X0.here hx rfl (pc0 := 93) (pc' := 108) rfl (hb hby own_d2_93) rfl (teq hc81).1 (by decide) (by decide) ?_
                                show Steps p.tables e below (s₁.setTop (mkF m 108 #[.val (.int p0)] [])) _
                                refine XS.iconst X0.here hx rfl (hb hby own_d2_108) ?_
                                show Steps p.tables e below (s₁.setTop (mkF m 109 #[.val (.int p0)] [(.int (1 : Int32))])) _
                                refine XS.goto X0.here hx rfl (pc0 := 109) (pc' := 113) rfl (hb hby own_d2_109) (by decide) (by decide) ?_
                                show Steps p.tables e below (s₁.setTop (mkF m 113 #[.val (.int p0)] [(.int (1 : Int32))])) _
                                exact k
                              obtain ⟨fs, hr, hrun, hended, hW, hsame⟩ := X0.leave (v := some (.int (1 : Int32))) (fun h => by rw [Bd.returns] at h; cases h)
                              refine Go.mk' ⟨_, _, retN X0 hx (t := .boolean) Bd.returns (by simp) (hb hby own_d2_113) hr, hrun, hended, _, _, rfl, ?_, ⟨_, rfl⟩, hW, hsame.mono (by decide) (by decide)⟩
                              show Q2 Z p0 h0 n0 _ s₁.heap _
                              rw [e0]
                              exact ⟨(by rw [f2, if_neg hc7, if_pos hc58, if_pos hc59, if_neg hc60, if_pos hc72, if_neg hc73, if_neg hc74, if_neg hc75, if_neg hc76, if_neg hc77, if_neg hc78, if_neg hc79, if_neg hc80, if_pos hc81]), N0, rfl⟩
                            · refine Go.st (V' := s₁.setTop (mkF m 99 #[.val (.int p0)] [(.int (39 : Int32)), (.int p0)])) (fun t k => ?_) ?_
                              · refine XS.icmpNo X0.here hx rfl (hb hby own_d2_93) rfl (feq hc81).1 ?_
                                show Steps p.tables e below (s₁.setTop (mkF m 96 #[.val (.int p0)] [])) _
                                refine XS.iloadN X0.here hx rfl (hb hby own_d2_96) rfl  ?_
                                show Steps p.tables e below (s₁.setTop (mkF m 97 #[.val (.int p0)] [(.int p0)])) _
                                refine XS.bipush X0.here hx rfl (hb hby own_d2_97) ?_
                                show Steps p.tables e below (s₁.setTop (mkF m 99 #[.val (.int p0)] [(.int (39 : Int32)), (.int p0)])) _
                                exact k
                              by_cases hc82 : p0 = (39 : Int32)
                              · refine Go.st (V' := s₁.setTop (mkF m 113 #[.val (.int p0)] [(.int (1 : Int32))])) (fun t k => ?_) ?_
                                · refine XS.icmpYes X0.here hx rfl (pc0 := 99) (pc' := 108) rfl (hb hby own_d2_99) rfl (teq hc82).1 (by decide) (by decide) ?_
                                  show Steps p.tables e below (s₁.setTop (mkF m 108 #[.val (.int p0)] [])) _
                                  refine XS.iconst X0.here hx rfl (hb hby own_d2_108) ?_
                                  show Steps p.tables e below (s₁.setTop (mkF m 109 #[.val (.int p0)] [(.int (1 : Int32))])) _
                                  refine XS.goto X0.here hx rfl (pc0 := 109) (pc' := 113) rfl (hb hby own_d2_109) (by decide) (by decide) ?_
                                  show Steps p.tables e below (s₁.setTop (mkF m 113 #[.val (.int p0)] [(.int (1 : Int32))])) _
                                  exact k
                                obtain ⟨fs, hr, hrun, hended, hW, hsame⟩ := X0.leave (v := some (.int (1 : Int32))) (fun h => by rw [Bd.returns] at h; cases h)
                                refine Go.mk' ⟨_, _, retN X0 hx (t := .boolean) Bd.returns (by simp) (hb hby own_d2_113) hr, hrun, hended, _, _, rfl, ?_, ⟨_, rfl⟩, hW, hsame.mono (by decide) (by decide)⟩
                                show Q2 Z p0 h0 n0 _ s₁.heap _
                                rw [e0]
                                exact ⟨(by rw [f2, if_neg hc7, if_pos hc58, if_pos hc59, if_neg hc60, if_pos hc72, if_neg hc73, if_neg hc74, if_neg hc75, if_neg hc76, if_neg hc77, if_neg hc78, if_neg hc79, if_neg hc80, if_neg hc81, if_pos hc82]), N0, rfl⟩
                              · refine Go.st (V' := s₁.setTop (mkF m 105 #[.val (.int p0)] [(.int (43 : Int32)), (.int p0)])) (fun t k => ?_) ?_
                                · refine XS.icmpNo X0.here hx rfl (hb hby own_d2_99) rfl (feq hc82).1 ?_
                                  show Steps p.tables e below (s₁.setTop (mkF m 102 #[.val (.int p0)] [])) _
                                  refine XS.iloadN X0.here hx rfl (hb hby own_d2_102) rfl  ?_
                                  show Steps p.tables e below (s₁.setTop (mkF m 103 #[.val (.int p0)] [(.int p0)])) _
                                  refine XS.bipush X0.here hx rfl (hb hby own_d2_103) ?_
                                  show Steps p.tables e below (s₁.setTop (mkF m 105 #[.val (.int p0)] [(.int (43 : Int32)), (.int p0)])) _
                                  exact k
                                by_cases hc83 : p0 = (43 : Int32)
                                · refine Go.st (V' := s₁.setTop (mkF m 113 #[.val (.int p0)] [(.int (1 : Int32))])) (fun t k => ?_) ?_
                                  · refine XS.icmpNo X0.here hx rfl (hb hby own_d2_105) rfl (teq hc83).2 ?_
                                    show Steps p.tables e below (s₁.setTop (mkF m 108 #[.val (.int p0)] [])) _
                                    refine XS.iconst X0.here hx rfl (hb hby own_d2_108) ?_
                                    show Steps p.tables e below (s₁.setTop (mkF m 109 #[.val (.int p0)] [(.int (1 : Int32))])) _
                                    refine XS.goto X0.here hx rfl (pc0 := 109) (pc' := 113) rfl (hb hby own_d2_109) (by decide) (by decide) ?_
                                    show Steps p.tables e below (s₁.setTop (mkF m 113 #[.val (.int p0)] [(.int (1 : Int32))])) _
                                    exact k
                                  obtain ⟨fs, hr, hrun, hended, hW, hsame⟩ := X0.leave (v := some (.int (1 : Int32))) (fun h => by rw [Bd.returns] at h; cases h)
                                  refine Go.mk' ⟨_, _, retN X0 hx (t := .boolean) Bd.returns (by simp) (hb hby own_d2_113) hr, hrun, hended, _, _, rfl, ?_, ⟨_, rfl⟩, hW, hsame.mono (by decide) (by decide)⟩
                                  show Q2 Z p0 h0 n0 _ s₁.heap _
                                  rw [e0]
                                  exact ⟨(by rw [f2, if_neg hc7, if_pos hc58, if_pos hc59, if_neg hc60, if_pos hc72, if_neg hc73, if_neg hc74, if_neg hc75, if_neg hc76, if_neg hc77, if_neg hc78, if_neg hc79, if_neg hc80, if_neg hc81, if_neg hc82, if_pos hc83]), N0, rfl⟩
                                · refine Go.st (V' := s₁.setTop (mkF m 113 #[.val (.int p0)] [(.int (0 : Int32))])) (fun t k => ?_) ?_
                                  · refine XS.icmpYes X0.here hx rfl (pc0 := 105) (pc' := 112) rfl (hb hby own_d2_105) rfl (feq hc83).2 (by decide) (by decide) ?_
                                    show Steps p.tables e below (s₁.setTop (mkF m 112 #[.val (.int p0)] [])) _
                                    refine XS.iconst X0.here hx rfl (hb hby own_d2_112) ?_
                                    show Steps p.tables e below (s₁.setTop (mkF m 113 #[.val (.int p0)] [(.int (0 : Int32))])) _
                                    exact k
                                  obtain ⟨fs, hr, hrun, hended, hW, hsame⟩ := X0.leave (v := some (.int (0 : Int32))) (fun h => by rw [Bd.returns] at h; cases h)
                                  refine Go.mk' ⟨_, _, retN X0 hx (t := .boolean) Bd.returns (by simp) (hb hby own_d2_113) hr, hrun, hended, _, _, rfl, ?_, ⟨_, rfl⟩, hW, hsame.mono (by decide) (by decide)⟩
                                  show Q2 Z p0 h0 n0 _ s₁.heap _
                                  rw [e0]
                                  exact ⟨(by rw [f2, if_neg hc7, if_pos hc58, if_pos hc59, if_neg hc60, if_pos hc72, if_neg hc73, if_neg hc74, if_neg hc75, if_neg hc76, if_neg hc77, if_neg hc78, if_neg hc79, if_neg hc80, if_neg hc81, if_neg hc82, if_neg hc83]), N0, rfl⟩
          · refine Go.st (V' := s₁.setTop (mkF m 41 #[.val (.int p0)] [(.int (1 : Int32))])) (fun t k => ?_) ?_
            · refine XS.icmpNo X0.here hx rfl (hb hby own_d2_37) rfl (flt hc72).2.2.1 ?_
              show Steps p.tables e below (s₁.setTop (mkF m 40 #[.val (.int p0)] [])) _
              refine XS.iconst X0.here hx rfl (hb hby own_d2_40) ?_
              show Steps p.tables e below (s₁.setTop (mkF m 41 #[.val (.int p0)] [(.int (1 : Int32))])) _
              exact k
            obtain ⟨fs, hr, hrun, hended, hW, hsame⟩ := X0.leave (v := some (.int (1 : Int32))) (fun h => by rw [Bd.returns] at h; cases h)
            refine Go.mk' ⟨_, _, retN X0 hx (t := .boolean) Bd.returns (by simp) (hb hby own_d2_41) hr, hrun, hended, _, _, rfl, ?_, ⟨_, rfl⟩, hW, hsame.mono (by decide) (by decide)⟩
            show Q2 Z p0 h0 n0 _ s₁.heap _
            rw [e0]
            exact ⟨(by rw [f2, if_neg hc7, if_pos hc58, if_pos hc59, if_neg hc60, if_neg hc72]), N0, rfl⟩
      · refine Go.st (V' := s₁.setTop (mkF m 23 #[.val (.int p0)] [(.int (122 : Int32)), (.int p0)])) (fun t k => ?_) ?_
        · refine XS.icmpNo X0.here hx rfl (hb hby own_d2_17) rfl (flt hc59).1 ?_
          show Steps p.tables e below (s₁.setTop (mkF m 20 #[.val (.int p0)] [])) _
          refine XS.iloadN X0.here hx rfl (hb hby own_d2_20) rfl  ?_
          show Steps p.tables e below (s₁.setTop (mkF m 21 #[.val (.int p0)] [(.int p0)])) _
          refine XS.bipush X0.here hx rfl (hb hby own_d2_21) ?_
          show Steps p.tables e below (s₁.setTop (mkF m 23 #[.val (.int p0)] [(.int (122 : Int32)), (.int p0)])) _
          exact k
        by_cases hc84 : (122 : Int32) < p0
        · refine Go.st (V' := s₁.setTop (mkF m 31 #[.val (.int p0)] [(.int (48 : Int32)), (.int p0)])) (fun t k => ?_) ?_
          · refine XS.icmpYes X0.here hx rfl (pc0 := 23) (pc' := 28) rfl (hb hby own_d2_23) rfl (tlt hc84).2.2.1 (by decide) (by decide) ?_
            show Steps p.tables e below (s₁.setTop (mkF m 28 #[.val (.int p0)] [])) _
            refine XS.iloadN X0.here hx rfl (hb hby own_d2_28) rfl  ?_
            show Steps p.tables e below (s₁.setTop (mkF m 29 #[.val (.int p0)] [(.int p0)])) _
            refine XS.bipush X0.here hx rfl (hb hby own_d2_29) ?_
            show Steps p.tables e below (s₁.setTop (mkF m 31 #[.val (.int p0)] [(.int (48 : Int32)), (.int p0)])) _
            exact k
          by_cases hc85 : p0 < (48 : Int32)
          · refine Go.st (V' := s₁.setTop (mkF m 45 #[.val (.int p0)] [(.int (32 : Int32)), (.int p0)])) (fun t k => ?_) ?_
            · refine XS.icmpYes X0.here hx rfl (pc0 := 31) (pc' := 42) rfl (hb hby own_d2_31) rfl (tlt hc85).1 (by decide) (by decide) ?_
              show Steps p.tables e below (s₁.setTop (mkF m 42 #[.val (.int p0)] [])) _
              refine XS.iloadN X0.here hx rfl (hb hby own_d2_42) rfl  ?_
              show Steps p.tables e below (s₁.setTop (mkF m 43 #[.val (.int p0)] [(.int p0)])) _
              refine XS.bipush X0.here hx rfl (hb hby own_d2_43) ?_
              show Steps p.tables e below (s₁.setTop (mkF m 45 #[.val (.int p0)] [(.int (32 : Int32)), (.int p0)])) _
              exact k
            by_cases hc86 : p0 = (32 : Int32)
            · refine Go.st (V' := s₁.setTop (mkF m 113 #[.val (.int p0)] [(.int (1 : Int32))])) (fun t k => ?_) ?_
              · refine XS.icmpYes X0.here hx rfl (pc0 := 45) (pc' := 108) rfl (hb hby own_d2_45) rfl (teq hc86).1 (by decide) (by decide) ?_
                show Steps p.tables e below (s₁.setTop (mkF m 108 #[.val (.int p0)] [])) _
                refine XS.iconst X0.here hx rfl (hb hby own_d2_108) ?_
                show Steps p.tables e below (s₁.setTop (mkF m 109 #[.val (.int p0)] [(.int (1 : Int32))])) _
                refine XS.goto X0.here hx rfl (pc0 := 109) (pc' := 113) rfl (hb hby own_d2_109) (by decide) (by decide) ?_
                show Steps p.tables e below (s₁.setTop (mkF m 113 #[.val (.int p0)] [(.int (1 : Int32))])) _
                exact k
              obtain ⟨fs, hr, hrun, hended, hW, hsame⟩ := X0.leave (v := some (.int (1 : Int32))) (fun h => by rw [Bd.returns] at h; cases h)
              refine Go.mk' ⟨_, _, retN X0 hx (t := .boolean) Bd.returns (by simp) (hb hby own_d2_113) hr, hrun, hended, _, _, rfl, ?_, ⟨_, rfl⟩, hW, hsame.mono (by decide) (by decide)⟩
              show Q2 Z p0 h0 n0 _ s₁.heap _
              rw [e0]
              exact ⟨(by rw [f2, if_neg hc7, if_pos hc58, if_neg hc59, if_pos hc84, if_pos hc85, if_pos hc86]), N0, rfl⟩
            · refine Go.st (V' := s₁.setTop (mkF m 51 #[.val (.int p0)] [(.int (47 : Int32)), (.int p0)])) (fun t k => ?_) ?_
              · refine XS.icmpNo X0.here hx rfl (hb hby own_d2_45) rfl (feq hc86).1 ?_
                show Steps p.tables e below (s₁.setTop (mkF m 48 #[.val (.int p0)] [])) _
                refine XS.iloadN X0.here hx rfl (hb hby own_d2_48) rfl  ?_
                show Steps p.tables e below (s₁.setTop (mkF m 49 #[.val (.int p0)] [(.int p0)])) _
                refine XS.bipush X0.here hx rfl (hb hby own_d2_49) ?_
                show Steps p.tables e below (s₁.setTop (mkF m 51 #[.val (.int p0)] [(.int (47 : Int32)), (.int p0)])) _
                exact k
              by_cases hc87 : p0 = (47 : Int32)
              · refine Go.st (V' := s₁.setTop (mkF m 113 #[.val (.int p0)] [(.int (1 : Int32))])) (fun t k => ?_) ?_
                · refine XS.icmpYes X0.here hx rfl (pc0 := 51) (pc' := 108) rfl (hb hby own_d2_51) rfl (teq hc87).1 (by decide) (by decide) ?_
                  show Steps p.tables e below (s₁.setTop (mkF m 108 #[.val (.int p0)] [])) _
                  refine XS.iconst X0.here hx rfl (hb hby own_d2_108) ?_
                  show Steps p.tables e below (s₁.setTop (mkF m 109 #[.val (.int p0)] [(.int (1 : Int32))])) _
                  refine XS.goto X0.here hx rfl (pc0 := 109) (pc' := 113) rfl (hb hby own_d2_109) (by decide) (by decide) ?_
                  show Steps p.tables e below (s₁.setTop (mkF m 113 #[.val (.int p0)] [(.int (1 : Int32))])) _
                  exact k
                obtain ⟨fs, hr, hrun, hended, hW, hsame⟩ := X0.leave (v := some (.int (1 : Int32))) (fun h => by rw [Bd.returns] at h; cases h)
                refine Go.mk' ⟨_, _, retN X0 hx (t := .boolean) Bd.returns (by simp) (hb hby own_d2_113) hr, hrun, hended, _, _, rfl, ?_, ⟨_, rfl⟩, hW, hsame.mono (by decide) (by decide)⟩
                show Q2 Z p0 h0 n0 _ s₁.heap _
                rw [e0]
                exact ⟨(by rw [f2, if_neg hc7, if_pos hc58, if_neg hc59, if_pos hc84, if_pos hc85, if_neg hc86, if_pos hc87]), N0, rfl⟩
              · refine Go.st (V' := s₁.setTop (mkF m 57 #[.val (.int p0)] [(.int (45 : Int32)), (.int p0)])) (fun t k => ?_) ?_
                · refine XS.icmpNo X0.here hx rfl (hb hby own_d2_51) rfl (feq hc87).1 ?_
                  show Steps p.tables e below (s₁.setTop (mkF m 54 #[.val (.int p0)] [])) _
                  refine XS.iloadN X0.here hx rfl (hb hby own_d2_54) rfl  ?_
                  show Steps p.tables e below (s₁.setTop (mkF m 55 #[.val (.int p0)] [(.int p0)])) _
                  refine XS.bipush X0.here hx rfl (hb hby own_d2_55) ?_
                  show Steps p.tables e below (s₁.setTop (mkF m 57 #[.val (.int p0)] [(.int (45 : Int32)), (.int p0)])) _
                  exact k
                by_cases hc88 : p0 = (45 : Int32)
                · refine Go.st (V' := s₁.setTop (mkF m 113 #[.val (.int p0)] [(.int (1 : Int32))])) (fun t k => ?_) ?_
                  · refine XS.icmpYes X0.here hx rfl (pc0 := 57) (pc' := 108) rfl (hb hby own_d2_57) rfl (teq hc88).1 (by decide) (by decide) ?_
                    show Steps p.tables e below (s₁.setTop (mkF m 108 #[.val (.int p0)] [])) _
                    refine XS.iconst X0.here hx rfl (hb hby own_d2_108) ?_
                    show Steps p.tables e below (s₁.setTop (mkF m 109 #[.val (.int p0)] [(.int (1 : Int32))])) _
                    refine XS.goto X0.here hx rfl (pc0 := 109) (pc' := 113) rfl (hb hby own_d2_109) (by decide) (by decide) ?_
                    show Steps p.tables e below (s₁.setTop (mkF m 113 #[.val (.int p0)] [(.int (1 : Int32))])) _
                    exact k
                  obtain ⟨fs, hr, hrun, hended, hW, hsame⟩ := X0.leave (v := some (.int (1 : Int32))) (fun h => by rw [Bd.returns] at h; cases h)
                  refine Go.mk' ⟨_, _, retN X0 hx (t := .boolean) Bd.returns (by simp) (hb hby own_d2_113) hr, hrun, hended, _, _, rfl, ?_, ⟨_, rfl⟩, hW, hsame.mono (by decide) (by decide)⟩
                  show Q2 Z p0 h0 n0 _ s₁.heap _
                  rw [e0]
                  exact ⟨(by rw [f2, if_neg hc7, if_pos hc58, if_neg hc59, if_pos hc84, if_pos hc85, if_neg hc86, if_neg hc87, if_pos hc88]), N0, rfl⟩
                · refine Go.st (V' := s₁.setTop (mkF m 63 #[.val (.int p0)] [(.int (63 : Int32)), (.int p0)])) (fun t k => ?_) ?_
                  · refine XS.icmpNo X0.here hx rfl (hb hby own_d2_57) rfl (feq hc88).1 ?_
                    show Steps p.tables e below (s₁.setTop (mkF m 60 #[.val (.int p0)] [])) _
                    refine XS.iloadN X0.here hx rfl (hb hby own_d2_60) rfl  ?_
                    show Steps p.tables e below (s₁.setTop (mkF m 61 #[.val (.int p0)] [(.int p0)])) _
                    refine XS.bipush X0.here hx rfl (hb hby own_d2_61) ?_
                    show Steps p.tables e below (s₁.setTop (mkF m 63 #[.val (.int p0)] [(.int (63 : Int32)), (.int p0)])) _
                    exact k
                  by_cases hc89 : p0 = (63 : Int32)
                  · refine Go.st (V' := s₁.setTop (mkF m 113 #[.val (.int p0)] [(.int (1 : Int32))])) (fun t k => ?_) ?_
                    · refine XS.icmpYes X0.here hx rfl (pc0 := 63) (pc' := 108) rfl (hb hby own_d2_63) rfl (teq hc89).1 (by decide) (by decide) ?_
                      show Steps p.tables e below (s₁.setTop (mkF m 108 #[.val (.int p0)] [])) _
                      refine XS.iconst X0.here hx rfl (hb hby own_d2_108) ?_
                      show Steps p.tables e below (s₁.setTop (mkF m 109 #[.val (.int p0)] [(.int (1 : Int32))])) _
                      refine XS.goto X0.here hx rfl (pc0 := 109) (pc' := 113) rfl (hb hby own_d2_109) (by decide) (by decide) ?_
                      show Steps p.tables e below (s₁.setTop (mkF m 113 #[.val (.int p0)] [(.int (1 : Int32))])) _
                      exact k
                    obtain ⟨fs, hr, hrun, hended, hW, hsame⟩ := X0.leave (v := some (.int (1 : Int32))) (fun h => by rw [Bd.returns] at h; cases h)
                    refine Go.mk' ⟨_, _, retN X0 hx (t := .boolean) Bd.returns (by simp) (hb hby own_d2_113) hr, hrun, hended, _, _, rfl, ?_, ⟨_, rfl⟩, hW, hsame.mono (by decide) (by decide)⟩
                    show Q2 Z p0 h0 n0 _ s₁.heap _
                    rw [e0]
                    exact ⟨(by rw [f2, if_neg hc7, if_pos hc58, if_neg hc59, if_pos hc84, if_pos hc85, if_neg hc86, if_neg hc87, if_neg hc88, if_pos hc89]), N0, rfl⟩
                  · refine Go.st (V' := s₁.setTop (mkF m 69 #[.val (.int p0)] [(.int (58 : Int32)), (.int p0)])) (fun t k => ?_) ?_
                    · refine XS.icmpNo X0.here hx rfl (hb hby own_d2_63) rfl (feq hc89).1 ?_
                      show Steps p.tables e below (s₁.setTop (mkF m 66 #[.val (.int p0)] [])) _
                      refine XS.iloadN X0.here hx rfl (hb hby own_d2_66) rfl  ?_
                      show Steps p.tables e below (s₁.setTop (mkF m 67 #[.val (.int p0)] [(.int p0)])) _
                      refine XS.bipush X0.here hx rfl (hb hby own_d2_67) ?_
                      show Steps p.tables e below (s₁.setTop (mkF m 69 #[.val (.int p0)] [(.int (58 : Int32)), (.int p0)])) _
                      exact k
                    by_cases hc90 : p0 = (58 : Int32)
                    · refine Go.st (V' := s₁.setTop (mkF m 113 #[.val (.int p0)] [(.int (1 : Int32))])) (fun t k => ?_) ?_
                      · refine XS.icmpYes X0.here hx rfl (pc0 := 69) (pc' := 108) rfl (hb hby own_d2_69) rfl (teq hc90).1 (by decide) (by decide) ?_
                        show Steps p.tables e below (s₁.setTop (mkF m 108 #[.val (.int p0)] [])) _
                        refine XS.iconst X0.here hx rfl (hb hby own_d2_108) ?_
                        show Steps p.tables e below (s₁.setTop (mkF m 109 #[.val (.int p0)] [(.int (1 : Int32))])) _
                        refine XS.goto X0.here hx rfl (pc0 := 109) (pc' := 113) rfl (hb hby own_d2_109) (by decide) (by decide) ?_
                        show Steps p.tables e below (s₁.setTop (mkF m 113 #[.val (.int p0)] [(.int (1 : Int32))])) _
                        exact k
                      obtain ⟨fs, hr, hrun, hended, hW, hsame⟩ := X0.leave (v := some (.int (1 : Int32))) (fun h => by rw [Bd.returns] at h; cases h)
                      refine Go.mk' ⟨_, _, retN X0 hx (t := .boolean) Bd.returns (by simp) (hb hby own_d2_113) hr, hrun, hended, _, _, rfl, ?_, ⟨_, rfl⟩, hW, hsame.mono (by decide) (by decide)⟩
                      show Q2 Z p0 h0 n0 _ s₁.heap _
                      rw [e0]
                      exact ⟨(by rw [f2, if_neg hc7, if_pos hc58, if_neg hc59, if_pos hc84, if_pos hc85, if_neg hc86, if_neg hc87, if_neg hc88, if_neg hc89, if_pos hc90]), N0, rfl⟩
                    · refine Go.st (V' := s₁.setTop (mkF m 75 #[.val (.int p0)] [(.int (40 : Int32)), (.int p0)])) (fun t k => ?_) ?_
                      · refine XS.icmpNo X0.here hx rfl (hb hby own_d2_69) rfl (feq hc90).1 ?_
                        show Steps p.tables e below (s₁.setTop (mkF m 72 #[.val (.int p0)] [])) _
                        refine XS.iloadN X0.here hx rfl (hb hby own_d2_72) rfl  ?_
                        show Steps p.tables e below (s₁.setTop (mkF m 73 #[.val (.int p0)] [(.int p0)])) _
                        refine XS.bipush X0.here hx rfl (hb hby own_d2_73) ?_
                        show Steps p.tables e below (s₁.setTop (mkF m 75 #[.val (.int p0)] [(.int (40 : Int32)), (.int p0)])) _
                        exact k
                      by_cases hc91 : p0 = (40 : Int32)
                      · refine Go.st (V' := s₁.setTop (mkF m 113 #[.val (.int p0)] [(.int (1 : Int32))])) (fun t k => ?_) ?_
                        · refine XS.icmpYes X0.here hx rfl (pc0 := 75) (pc' := 108) rfl (hb hby own_d2_75) rfl (teq hc91).1 (by decide) (by decide) ?_
                          show Steps p.tables e below (s₁.setTop (mkF m 108 #[.val (.int p0)] [])) _
                          refine XS.iconst X0.here hx rfl (hb hby own_d2_108) ?_
                          show Steps p.tables e below (s₁.setTop (mkF m 109 #[.val (.int p0)] [(.int (1 : Int32))])) _
                          refine XS.goto X0.here hx rfl (pc0 := 109) (pc' := 113) rfl (hb hby own_d2_109) (by decide) (by decide) ?_
                          show Steps p.tables e below (s₁.setTop (mkF m 113 #[.val (.int p0)] [(.int (1 : Int32))])) _
                          exact k
                        obtain ⟨fs, hr, hrun, hended, hW, hsame⟩ := X0.leave (v := some (.int (1 : Int32))) (fun h => by rw [Bd.returns] at h; cases h)
                        refine Go.mk' ⟨_, _, retN X0 hx (t := .boolean) Bd.returns (by simp) (hb hby own_d2_113) hr, hrun, hended, _, _, rfl, ?_, ⟨_, rfl⟩, hW, hsame.mono (by decide) (by decide)⟩
                        show Q2 Z p0 h0 n0 _ s₁.heap _
                        rw [e0]
                        exact ⟨(by rw [f2, if_neg hc7, if_pos hc58, if_neg hc59, if_pos hc84, if_pos hc85, if_neg hc86, if_neg hc87, if_neg hc88, if_neg hc89, if_neg hc90, if_pos hc91]), N0, rfl⟩
                      · refine Go.st (V' := s₁.setTop (mkF m 81 #[.val (.int p0)] [(.int (41 : Int32)), (.int p0)])) (fun t k => ?_) ?_
                        · refine XS.icmpNo X0.here hx rfl (hb hby own_d2_75) rfl (feq hc91).1 ?_
                          show Steps p.tables e below (s₁.setTop (mkF m 78 #[.val (.int p0)] [])) _
                          refine XS.iloadN X0.here hx rfl (hb hby own_d2_78) rfl  ?_
                          show Steps p.tables e below (s₁.setTop (mkF m 79 #[.val (.int p0)] [(.int p0)])) _
                          refine XS.bipush X0.here hx rfl (hb hby own_d2_79) ?_
                          show Steps p.tables e below (s₁.setTop (mkF m 81 #[.val (.int p0)] [(.int (41 : Int32)), (.int p0)])) _
                          exact k
                        by_cases hc92 : p0 = (41 : Int32)
                        · refine Go.st (V' := s₁.setTop (mkF m 113 #[.val (.int p0)] [(.int (1 : Int32))])) (fun t k => ?_) ?_
                          · refine XS.icmpYes X0.here hx rfl (pc0 := 81) (pc' := 108) rfl (hb hby own_d2_81) rfl (teq hc92).1 (by decide) (by decide) ?_
                            show Steps p.tables e below (s₁.setTop (mkF m 108 #[.val (.int p0)] [])) _
                            refine XS.iconst X0.here hx rfl (hb hby own_d2_108) ?_
                            show Steps p.tables e below (s₁.setTop (mkF m 109 #[.val (.int p0)] [(.int (1 : Int32))])) _
                            refine XS.goto X0.here hx rfl (pc0 := 109) (pc' := 113) rfl (hb hby own_d2_109) (by decide) (by decide) ?_
                            show Steps p.tables e below (s₁.setTop (mkF m 113 #[.val (.int p0)] [(.int (1 : Int32))])) _
                            exact k
                          obtain ⟨fs, hr, hrun, hended, hW, hsame⟩ := X0.leave (v := some (.int (1 : Int32))) (fun h => by rw [Bd.returns] at h; cases h)
                          refine Go.mk' ⟨_, _, retN X0 hx (t := .boolean) Bd.returns (by simp) (hb hby own_d2_113) hr, hrun, hended, _, _, rfl, ?_, ⟨_, rfl⟩, hW, hsame.mono (by decide) (by decide)⟩
                          show Q2 Z p0 h0 n0 _ s₁.heap _
                          rw [e0]
                          exact ⟨(by rw [f2, if_neg hc7, if_pos hc58, if_neg hc59, if_pos hc84, if_pos hc85, if_neg hc86, if_neg hc87, if_neg hc88, if_neg hc89, if_neg hc90, if_neg hc91, if_pos hc92]), N0, rfl⟩
                        · refine Go.st (V' := s₁.setTop (mkF m 87 #[.val (.int p0)] [(.int (46 : Int32)), (.int p0)])) (fun t k => ?_) ?_
                          · refine XS.icmpNo X0.here hx rfl (hb hby own_d2_81) rfl (feq hc92).1 ?_
                            show Steps p.tables e below (s₁.setTop (mkF m 84 #[.val (.int p0)] [])) _
                            refine XS.iloadN X0.here hx rfl (hb hby own_d2_84) rfl  ?_
                            show Steps p.tables e below (s₁.setTop (mkF m 85 #[.val (.int p0)] [(.int p0)])) _
                            refine XS.bipush X0.here hx rfl (hb hby own_d2_85) ?_
                            show Steps p.tables e below (s₁.setTop (mkF m 87 #[.val (.int p0)] [(.int (46 : Int32)), (.int p0)])) _
                            exact k
                          by_cases hc93 : p0 = (46 : Int32)
                          · refine Go.st (V' := s₁.setTop (mkF m 113 #[.val (.int p0)] [(.int (1 : Int32))])) (fun t k => ?_) ?_
                            · refine XS.icmpYes X0.here hx rfl (pc0 := 87) (pc' := 108) rfl (hb hby own_d2_87) rfl (teq hc93).1 (by decide) (by decide) ?_
                              show Steps p.tables e below (s₁.setTop (mkF m 108 #[.val (.int p0)] [])) _
                              refine XS.iconst X0.here hx rfl (hb hby own_d2_108) ?_
                              show Steps p.tables e below (s₁.setTop (mkF m 109 #[.val (.int p0)] [(.int (1 : Int32))])) _
                              refine XS.goto X0.here hx rfl (pc0 := 109) (pc' := 113) rfl (hb hby own_d2_109) (by decide) (by decide) ?_
                              show Steps p.tables e below (s₁.setTop (mkF m 113 #[.val (.int p0)] [(.int (1 : Int32))])) _
                              exact k
                            obtain ⟨fs, hr, hrun, hended, hW, hsame⟩ := X0.leave (v := some (.int (1 : Int32))) (fun h => by rw [Bd.returns] at h; cases h)
                            refine Go.mk' ⟨_, _, retN X0 hx (t := .boolean) Bd.returns (by simp) (hb hby own_d2_113) hr, hrun, hended, _, _, rfl, ?_, ⟨_, rfl⟩, hW, hsame.mono (by decide) (by decide)⟩
                            show Q2 Z p0 h0 n0 _ s₁.heap _
                            rw [e0]
                            exact ⟨(by rw [f2, if_neg hc7, if_pos hc58, if_neg hc59, if_pos hc84, if_pos hc85, if_neg hc86, if_neg hc87, if_neg hc88, if_neg hc89, if_neg hc90, if_neg hc91, if_neg hc92, if_pos hc93]), N0, rfl⟩
                          · refine Go.st (V' := s₁.setTop (mkF m 93 #[.val (.int p0)] [(.int (44 : Int32)), (.int p0)])) (fun t k => ?_) ?_
                            · refine XS.icmpNo X0.here hx rfl (hb hby own_d2_87) rfl (feq hc93).1 ?_
                              show Steps p.tables e below (s₁.setTop (mkF m 90 #[.val (.int p0)] [])) _
                              refine XS.iloadN X0.here hx rfl (hb hby own_d2_90) rfl  ?_
                              show Steps p.tables e below (s₁.setTop (mkF m 91 #[.val (.int p0)] [(.int p0)])) _
                              refine XS.bipush X0.here hx rfl (hb hby own_d2_91) ?_
                              show Steps p.tables e below (s₁.setTop (mkF m 93 #[.val (.int p0)] [(.int (44 : Int32)), (.int p0)])) _
                              exact k
                            by_cases hc94 : p0 = (44 : Int32)
                            · refine Go.st (V' := s₁.setTop (mkF m 113 #[.val (.int p0)] [(.int (1 : Int32))])) (fun t k => ?_) ?_
                              · refine XS.icmpYes X0.here hx rfl (pc0 := 93) (pc' := 108) rfl (hb hby own_d2_93) rfl (teq hc94).1 (by decide) (by decide) ?_
                                show Steps p.tables e below (s₁.setTop (mkF m 108 #[.val (.int p0)] [])) _
                                refine XS.iconst X0.here hx rfl (hb hby own_d2_108) ?_
                                show Steps p.tables e below (s₁.setTop (mkF m 109 #[.val (.int p0)] [(.int (1 : Int32))])) _
                                refine XS.goto X0.here hx rfl (pc0 := 109) (pc' := 113) rfl (hb hby own_d2_109) (by decide) (by decide) ?_
                                show Steps p.tables e below (s₁.setTop (mkF m 113 #[.val (.int p0)] [(.int (1 : Int32))])) _
                                exact k
                              obtain ⟨fs, hr, hrun, hended, hW, hsame⟩ := X0.leave (v := some (.int (1 : Int32))) (fun h => by rw [Bd.returns] at h; cases h)
                              refine Go.mk' ⟨_, _, retN X0 hx (t := .boolean) Bd.returns (by simp) (hb hby own_d2_113) hr, hrun, hended, _, _, rfl, ?_, ⟨_, rfl⟩, hW, hsame.mono (by decide) (by decide)⟩
                              show Q2 Z p0 h0 n0 _ s₁.heap _
                              rw [e0]
                              exact ⟨(by rw [f2, if_neg hc7, if_pos hc58, if_neg hc59, if_pos hc84, if_pos hc85, if_neg hc86, if_neg hc87, if_neg hc88, if_neg hc89, if_neg hc90, if_neg hc91, if_neg hc92, if_neg hc93, if_pos hc94]), N0, rfl⟩
                            · refine Go.st (V' := s₁.setTop (mkF m 99 #[.val (.int p0)] [(.int (39 : Int32)), (.int p0)])) (fun t k => ?_) ?_
                              · refine XS.icmpNo X0.here hx rfl (hb hby own_d2_93) rfl (feq hc94).1 ?_
                                show Steps p.tables e below (s₁.setTop (mkF m 96 #[.val (.int p0)] [])) _
                                refine XS.iloadN X0.here hx rfl (hb hby own_d2_96) rfl  ?_
                                show Steps p.tables e below (s₁.setTop (mkF m 97 #[.val (.int p0)] [(.int p0)])) _
                                refine XS.bipush X0.here hx rfl (hb hby own_d2_97) ?_
                                show Steps p.tables e below (s₁.setTop (mkF m 99 #[.val (.int p0)] [(.int (39 : Int32)), (.int p0)])) _
                                exact k
                              by_cases hc95 : p0 = (39 : Int32)
                              · refine Go.st (V' := s₁.setTop (mkF m 113 #[.val (.int p0)] [(.int (1 : Int32))])) (fun t k => ?_) ?_
                                · refine XS.icmpYes X0.here hx rfl (pc0 := 99) (pc' := 108) rfl (hb hby own_d2_99) rfl (teq hc95).1 (by decide) (by decide) ?_
                                  show Steps p.tables e below (s₁.setTop (mkF m 108 #[.val (.int p0)] [])) _
                                  refine XS.iconst X0.here hx rfl (hb hby own_d2_108) ?_
                                  show Steps p.tables e below (s₁.setTop (mkF m 109 #[.val (.int p0)] [(.int (1 : Int32))])) _
                                  refine XS.goto X0.here hx rfl (pc0 := 109) (pc' := 113) rfl (hb hby own_d2_109) (by decide) (by decide) ?_
                                  show Steps p.tables e below (s₁.setTop (mkF m 113 #[.val (.int p0)] [(.int (1 : Int32))])) _
                                  exact k
                                obtain ⟨fs, hr, hrun, hended, hW, hsame⟩ := X0.leave (v := some (.int (1 : Int32))) (fun h => by rw [Bd.returns] at h; cases h)
                                refine Go.mk' ⟨_, _, retN X0 hx (t := .boolean) Bd.returns (by simp) (hb hby own_d2_113) hr, hrun, hended, _, _, rfl, ?_, ⟨_, rfl⟩, hW, hsame.mono (by decide) (by decide)⟩
                                show Q2 Z p0 h0 n0 _ s₁.heap _
                                rw [e0]
                                exact ⟨(by rw [f2, if_neg hc7, if_pos hc58, if_neg hc59, if_pos hc84, if_pos hc85, if_neg hc86, if_neg hc87, if_neg hc88, if_neg hc89, if_neg hc90, if_neg hc91, if_neg hc92, if_neg hc93, if_neg hc94, if_pos hc95]), N0, rfl⟩
                              · refine Go.st (V' := s₁.setTop (mkF m 105 #[.val (.int p0)] [(.int (43 : Int32)), (.int p0)])) (fun t k => ?_) ?_
                                · refine XS.icmpNo X0.here hx rfl (hb hby own_d2_99) rfl (feq hc95).1 ?_
                                  show Steps p.tables e below (s₁.setTop (mkF m 102 #[.val (.int p0)] [])) _
                                  refine XS.iloadN X0.here hx rfl (hb hby own_d2_102) rfl  ?_
                                  show Steps p.tables e below (s₁.setTop (mkF m 103 #[.val (.int p0)] [(.int p0)])) _
                                  refine XS.bipush X0.here hx rfl (hb hby own_d2_103) ?_
                                  show Steps p.tables e below (s₁.setTop (mkF m 105 #[.val (.int p0)] [(.int (43 : Int32)), (.int p0)])) _
                                  exact k
                                by_cases hc96 : p0 = (43 : Int32)
                                · refine Go.st (V' := s₁.setTop (mkF m 113 #[.val (.int p0)] [(.int (1 : Int32))])) (fun t k => ?_) ?_
                                  · refine XS.icmpNo X0.here hx rfl (hb hby own_d2_105) rfl (teq hc96).2 ?_
                                    show Steps p.tables e below (s₁.setTop (mkF m 108 #[.val (.int p0)] [])) _
                                    refine XS.iconst X0.here hx rfl (hb hby own_d2_108) ?_
                                    show Steps p.tables e below (s₁.setTop (mkF m 109 #[.val (.int p0)] [(.int (1 : Int32))])) _
                                    refine XS.goto X0.here hx rfl (pc0 := 109) (pc' := 113) rfl (hb hby own_d2_109) (by decide) (by decide) ?_
                                    show Steps p.tables e below (s₁.setTop (mkF m 113 #[.val (.int p0)] [(.int (1 : Int32))])) _
                                    exact k
                                  obtain ⟨fs, hr, hrun, hended, hW, hsame⟩ := X0.leave (v := some (.int (1 : Int32))) (fun h => by rw [Bd.returns] at h; cases h)
                                  refine Go.mk' ⟨_, _, retN X0 hx (t := .boolean) Bd.returns (by simp) (hb hby own_d2_113) hr, hrun, hended, _, _, rfl, ?_, ⟨_, rfl⟩, hW, hsame.mono (by decide) (by decide)⟩
                                  show Q2 Z p0 h0 n0 _ s₁.heap _
                                  rw [e0]
                                  exact ⟨(by rw [f2, if_neg hc7, if_pos hc58, if_neg hc59, if_pos hc84, if_pos hc85, if_neg hc86, if_neg hc87, if_neg hc88, if_neg hc89, if_neg hc90, if_neg hc91, if_neg hc92, if_neg hc93, if_neg hc94, if_neg hc95, if_pos hc96]), N0, rfl⟩
                                · refine Go.st (V' := s₁.setTop (mkF m 113 #[.val (.int p0)] [(.int (0 : Int32))])) (fun t k => ?_) ?_
                                  · refine XS.icmpYes X0.here hx rfl (pc0 := 105) (pc' := 112) rfl (hb hby own_d2_105) rfl (feq hc96).2 (by decide) (by decide) ?_
                                    show Steps p.tables e below (s₁.setTop (mkF m 112 #[.val (.int p0)] [])) _
                                    refine XS.iconst X0.here hx rfl (hb hby own_d2_112) ?_
                                    show Steps p.tables e below (s₁.setTop (mkF m 113 #[.val (.int p0)] [(.int (0 : Int32))])) _
                                    exact k
                                  obtain ⟨fs, hr, hrun, hended, hW, hsame⟩ := X0.leave (v := some (.int (0 : Int32))) (fun h => by rw [Bd.returns] at h; cases h)
                                  refine Go.mk' ⟨_, _, retN X0 hx (t := .boolean) Bd.returns (by simp) (hb hby own_d2_113) hr, hrun, hended, _, _, rfl, ?_, ⟨_, rfl⟩, hW, hsame.mono (by decide) (by decide)⟩
                                  show Q2 Z p0 h0 n0 _ s₁.heap _
                                  rw [e0]
                                  exact ⟨(by rw [f2, if_neg hc7, if_pos hc58, if_neg hc59, if_pos hc84, if_pos hc85, if_neg hc86, if_neg hc87, if_neg hc88, if_neg hc89, if_neg hc90, if_neg hc91, if_neg hc92, if_neg hc93, if_neg hc94, if_neg hc95, if_neg hc96]), N0, rfl⟩
          · refine Go.st (V' := s₁.setTop (mkF m 37 #[.val (.int p0)] [(.int (57 : Int32)), (.int p0)])) (fun t k => ?_) ?_
            · refine XS.icmpNo X0.here hx rfl (hb hby own_d2_31) rfl (flt hc85).1 ?_
              show Steps p.tables e below (s₁.setTop (mkF m 34 #[.val (.int p0)] [])) _
              refine XS.iloadN X0.here hx rfl (hb hby own_d2_34) rfl  ?_
              show Steps p.tables e below (s₁.setTop (mkF m 35 #[.val (.int p0)] [(.int p0)])) _
              refine XS.bipush X0.here hx rfl (hb hby own_d2_35) ?_
              show Steps p.tables e below (s₁.setTop (mkF m 37 #[.val (.int p0)] [(.int (57 : Int32)), (.int p0)])) _
              exact k
            by_cases hc97 : (57 : Int32) < p0
            · refine Go.st (V' := s₁.setTop (mkF m 45 #[.val (.int p0)] [(.int (32 : Int32)), (.int p0)])) (fun t k => ?_) ?_
              · refine XS.icmpYes X0.here hx rfl (pc0 := 37) (pc' := 42) rfl (hb hby own_d2_37) rfl (tlt hc97).2.2.1 (by decide) (by decide) ?_
                show Steps p.tables e below (s₁.setTop (mkF m 42 #[.val (.int p0)] [])) _
                refine XS.iloadN X0.here hx rfl (hb hby own_d2_42) rfl  ?_
                show Steps p.tables e below (s₁.setTop (mkF m 43 #[.val (.int p0)] [(.int p0)])) _
                refine XS.bipush X0.here hx rfl (hb hby own_d2_43) ?_
                show Steps p.tables e below (s₁.setTop (mkF m 45 #[.val (.int p0)] [(.int (32 : Int32)), (.int p0)])) _
                exact k
              by_cases hc98 : p0 = (32 : Int32)
              · refine Go.st (V' := s₁.setTop (mkF m 113 #[.val (.int p0)] [(.int (1 : Int32))])) (fun t k => ?_) ?_
                · refine XS.icmpYes X0.here hx rfl (pc0 := 45) (pc' := 108) rfl (hb hby own_d2_45) rfl (teq hc98).1 (by decide) (by decide) ?_
                  show Steps p.tables e below (s₁.setTop (mkF m 108 #[.val (.int p0)] [])) _
                  refine XS.iconst X0.here hx rfl (hb hby own_d2_108) ?_
                  show Steps p.tables e below (s₁.setTop (mkF m 109 #[.val (.int p0)] [(.int (1 : Int32))])) _
                  refine XS.goto X0.here hx rfl (pc0 := 109) (pc' := 113) rfl (hb hby own_d2_109) (by decide) (by decide) ?_
                  show Steps p.tables e below (s₁.setTop (mkF m 113 #[.val (.int p0)] [(.int (1 : Int32))])) _
                  exact k
                obtain ⟨fs, hr, hrun, hended, hW, hsame⟩ := X0.leave (v := some (.int (1 : Int32))) (fun h => by rw [Bd.returns] at h; cases h)
                refine Go.mk' ⟨_, _, retN X0 hx (t := .boolean) Bd.returns (by simp) (hb hby own_d2_113) hr, hrun, hended, _, _, rfl, ?_, ⟨_, rfl⟩, hW, hsame.mono (by decide) (by decide)⟩
                show Q2 Z p0 h0 n0 _ s₁.heap _
                rw [e0]
                exact ⟨(by rw [f2, if_neg hc7, if_pos hc58, if_neg hc59, if_pos hc84, if_neg hc85, if_pos hc97, if_pos hc98]), N0, rfl⟩
              · refine Go.st (V' := s₁.setTop (mkF m 51 #[.val (.int p0)] [(.int (47 : Int32)), (.int p0)])) (fun t k => ?_) ?_
                · refine XS.icmpNo X0.here hx rfl (hb hby own_d2_45) rfl (feq hc98).1 ?_
                  show Steps p.tables e below (s₁.setTop (mkF m 48 #[.val (.int p0)] [])) _
                  refine XS.iloadN X0.here hx rfl (hb hby own_d2_48) rfl  ?_
                  show Steps p.tables e below (s₁.setTop (mkF m 49 #[.val (.int p0)] [(.int p0)])) _
                  refine XS.bipush X0.here hx rfl (hb hby own_d2_49) ?_
                  show Steps p.tables e below (s₁.setTop (mkF m 51 #[.val (.int p0)] [(.int (47 : Int32)), (.int p0)])) _
                  exact k
                by_cases hc99 : p0 = (47 : Int32)
                · refine Go.st (V' := s₁.setTop (mkF m 113 #[.val (.int p0)] [(.int (1 : Int32))])) (fun t k => ?_) ?_
                  · refine XS.icmpYes X0.here hx rfl (pc0 := 51) (pc' := 108) rfl (hb hby own_d2_51) rfl (teq hc99).1 (by decide) (by decide) ?_
                    show Steps p.tables e below (s₁.setTop (mkF m 108 #[.val (.int p0)] [])) _
                    refine XS.iconst X0.here hx rfl (hb hby own_d2_108) ?_
                    show Steps p.tables e below (s₁.setTop (mkF m 109 #[.val (.int p0)] [(.int (1 : Int32))])) _
                    refine XS.goto X0.here hx rfl (pc0 := 109) (pc' := 113) rfl (hb hby own_d2_109) (by decide) (by decide) ?_
                    show Steps p.tables e below (s₁.setTop (mkF m 113 #[.val (.int p0)] [(.int (1 : Int32))])) _
                    exact k
                  obtain ⟨fs, hr, hrun, hended, hW, hsame⟩ := X0.leave (v := some (.int (1 : Int32))) (fun h => by rw [Bd.returns] at h; cases h)
                  refine Go.mk' ⟨_, _, retN X0 hx (t := .boolean) Bd.returns (by simp) (hb hby own_d2_113) hr, hrun, hended, _, _, rfl, ?_, ⟨_, rfl⟩, hW, hsame.mono (by decide) (by decide)⟩
                  show Q2 Z p0 h0 n0 _ s₁.heap _
                  rw [e0]
                  exact ⟨(by rw [f2, if_neg hc7, if_pos hc58, if_neg hc59, if_pos hc84, if_neg hc85, if_pos hc97, if_neg hc98, if_pos hc99]), N0, rfl⟩
                · refine Go.st (V' := s₁.setTop (mkF m 57 #[.val (.int p0)] [(.int (45 : Int32)), (.int p0)])) (fun t k => ?_) ?_
                  · refine XS.icmpNo X0.here hx rfl (hb hby own_d2_51) rfl (feq hc99).1 ?_
                    show Steps p.tables e below (s₁.setTop (mkF m 54 #[.val (.int p0)] [])) _
                    refine XS.iloadN X0.here hx rfl (hb hby own_d2_54) rfl  ?_
                    show Steps p.tables e below (s₁.setTop (mkF m 55 #[.val (.int p0)] [(.int p0)])) _
                    refine XS.bipush X0.here hx rfl (hb hby own_d2_55) ?_
                    show Steps p.tables e below (s₁.setTop (mkF m 57 #[.val (.int p0)] [(.int (45 : Int32)), (.int p0)])) _
                    exact k
                  by_cases hc100 : p0 = (45 : Int32)
                  · refine Go.st (V' := s₁.setTop (mkF m 113 #[.val (.int p0)] [(.int (1 : Int32))])) (fun t k => ?_) ?_
                    · refine XS.icmpYes X0.here hx rfl (pc0 := 57) (pc' := 108) rfl (hb hby own_d2_57) rfl (teq hc100).1 (by decide) (by decide) ?_
                      show Steps p.tables e below (s₁.setTop (mkF m 108 #[.val (.int p0)] [])) _
                      refine XS.iconst X0.here hx rfl (hb hby own_d2_108) ?_
                      show Steps p.tables e below (s₁.setTop (mkF m 109 #[.val (.int p0)] [(.int (1 : Int32))])) _
                      refine XS.goto X0.here hx rfl (pc0 := 109) (pc' := 113) rfl (hb hby own_d2_109) (by decide) (by decide) ?_
                      show Steps p.tables e below (s₁.setTop (mkF m 113 #[.val (.int p0)] [(.int (1 : Int32))])) _
                      exact k
                    obtain ⟨fs, hr, hrun, hended, hW, hsame⟩ := X0.leave (v := some (.int (1 : Int32))) (fun h => by rw [Bd.returns] at h; cases h)
                    refine Go.mk' ⟨_, _, retN X0 hx (t := .boolean) Bd.returns (by simp) (hb hby own_d2_113) hr, hrun, hended, _, _, rfl, ?_, ⟨_, rfl⟩, hW, hsame.mono (by decide) (by decide)⟩
                    show Q2 Z p0 h0 n0 _ s₁.heap _
                    rw [e0]
                    exact ⟨(by rw [f2, if_neg hc7, if_pos hc58, if_neg hc59, if_pos hc84, if_neg hc85, if_pos hc97, if_neg hc98, if_neg hc99, if_pos hc100]), N0, rfl⟩
                  · refine Go.st (V' := s₁.setTop (mkF m 63 #[.val (.int p0)] [(.int (63 : Int32)), (.int p0)])) (fun t k => ?_) ?_
                    · refine XS.icmpNo X0.here hx rfl (hb hby own_d2_57) rfl (feq hc100).1 ?_
                      show Steps p.tables e below (s₁.setTop (mkF m 60 #[.val (.int p0)] [])) _
                      refine XS.iloadN X0.here hx rfl (hb hby own_d2_60) rfl  ?_
                      show Steps p.tables e below (s₁.setTop (mkF m 61 #[.val (.int p0)] [(.int p0)])) _
                      refine XS.bipush X0.here hx rfl (hb hby own_d2_61) ?_
                      show Steps p.tables e below (s₁.setTop (mkF m 63 #[.val (.int p0)] [(.int (63 : Int32)), (.int p0)])) _
                      exact k
                    by_cases hc101 : p0 = (63 : Int32)
                    · refine Go.st (V' := s₁.setTop (mkF m 113 #[.val (.int p0)] [(.int (1 : Int32))])) (fun t k => ?_) ?_
                      · refine XS.icmpYes X0.here hx rfl (pc0 := 63) (pc' := 108) rfl (hb hby own_d2_63) rfl (teq hc101).1 (by decide) (by decide) ?_
                        show Steps p.tables e below (s₁.setTop (mkF m 108 #[.val (.int p0)] [])) _
                        refine XS.iconst X0.here hx rfl (hb hby own_d2_108) ?_
                        show Steps p.tables e below (s₁.setTop (mkF m 109 #[.val (.int p0)] [(.int (1 : Int32))])) _
                        refine XS.goto X0.here hx rfl (pc0 := 109) (pc' := 113) rfl (hb hby own_d2_109) (by decide) (by decide) ?_
                        show Steps p.tables e below (s₁.setTop (mkF m 113 #[.val (.int p0)] [(.int (1 : Int32))])) _
                        exact k
                      obtain ⟨fs, hr, hrun, hended, hW, hsame⟩ := X0.leave (v := some (.int (1 : Int32))) (fun h => by rw [Bd.returns] at h; cases h)
                      refine Go.mk' ⟨_, _, retN X0 hx (t := .boolean) Bd.returns (by simp) (hb hby own_d2_113) hr, hrun, hended, _, _, rfl, ?_, ⟨_, rfl⟩, hW, hsame.mono (by decide) (by decide)⟩
                      show Q2 Z p0 h0 n0 _ s₁.heap _
                      rw [e0]
                      exact ⟨(by rw [f2, if_neg hc7, if_pos hc58, if_neg hc59, if_pos hc84, if_neg hc85, if_pos hc97, if_neg hc98, if_neg hc99, if_neg hc100, if_pos hc101]), N0, rfl⟩
                    · refine Go.st (V' := s₁.setTop (mkF m 69 #[.val (.int p0)] [(.int (58 : Int32)), (.int p0)])) (fun t k => ?_) ?_
                      · refine XS.icmpNo X0.here hx rfl (hb hby own_d2_63) rfl (feq hc101).1 ?_
                        show Steps p.tables e below (s₁.setTop (mkF m 66 #[.val (.int p0)] [])) _
                        refine XS.iloadN X0.here hx rfl (hb hby own_d2_66) rfl  ?_
                        show Steps p.tables e below (s₁.setTop (mkF m 67 #[.val (.int p0)] [(.int p0)])) _
                        refine XS.bipush X0.here hx rfl (hb hby own_d2_67) ?_
                        show Steps p.tables e below (s₁.setTop (mkF m 69 #[.val (.int p0)] [(.int (58 : Int32)), (.int p0)])) _
                        exact k
                      by_cases hc102 : p0 = (58 : Int32)
                      · refine Go.st (V' := s₁.setTop (mkF m 113 #[.val (.int p0)] [(.int (1 : Int32))])) (fun t k => ?_) ?_
                        · refine XS.icmpYes X0.here hx rfl (pc0 := 69) (pc' := 108) rfl (hb hby own_d2_69) rfl (teq hc102).1 (by decide) (by decide) ?_
                          show Steps p.tables e below (s₁.setTop (mkF m 108 #[.val (.int p0)] [])) _
                          refine XS.iconst X0.here hx rfl (hb hby own_d2_108) ?_
                          show Steps p.tables e below (s₁.setTop (mkF m 109 #[.val (.int p0)] [(.int (1 : Int32))])) _
                          refine XS.goto X0.here hx rfl (pc0 := 109) (pc' := 113) rfl (hb hby own_d2_109) (by decide) (by decide) ?_
                          show Steps p.tables e below (s₁.setTop (mkF m 113 #[.val (.int p0)] [(.int (1 : Int32))])) _
                          exact k
                        obtain ⟨fs, hr, hrun, hended, hW, hsame⟩ := X0.leave (v := some (.int (1 : Int32))) (fun h => by rw [Bd.returns] at h; cases h)
                        refine Go.mk' ⟨_, _, retN X0 hx (t := .boolean) Bd.returns (by simp) (hb hby own_d2_113) hr, hrun, hended, _, _, rfl, ?_, ⟨_, rfl⟩, hW, hsame.mono (by decide) (by decide)⟩
                        show Q2 Z p0 h0 n0 _ s₁.heap _
                        rw [e0]
                        exact ⟨(by rw [f2, if_neg hc7, if_pos hc58, if_neg hc59, if_pos hc84, if_neg hc85, if_pos hc97, if_neg hc98, if_neg hc99, if_neg hc100, if_neg hc101, if_pos hc102]), N0, rfl⟩
                      · refine Go.st (V' := s₁.setTop (mkF m 75 #[.val (.int p0)] [(.int (40 : Int32)), (.int p0)])) (fun t k => ?_) ?_
                        · refine XS.icmpNo X0.here hx rfl (hb hby own_d2_69) rfl (feq hc102).1 ?_
                          show Steps p.tables e below (s₁.setTop (mkF m 72 #[.val (.int p0)] [])) _
                          refine XS.iloadN X0.here hx rfl (hb hby own_d2_72) rfl  ?_
                          show Steps p.tables e below (s₁.setTop (mkF m 73 #[.val (.int p0)] [(.int p0)])) _
                          refine XS.bipush X0.here hx rfl (hb hby own_d2_73) ?_
                          show Steps p.tables e below (s₁.setTop (mkF m 75 #[.val (.int p0)] [(.int (40 : Int32)), (.int p0)])) _
                          exact k
                        by_cases hc103 : p0 = (40 : Int32)
                        · refine Go.st (V' := s₁.setTop (mkF m 113 #[.val (.int p0)] [(.int (1 : Int32))])) (fun t k => ?_) ?_
                          · refine XS.icmpYes X0.here hx rfl (pc0 := 75) (pc' := 108) rfl (hb hby own_d2_75) rfl (teq hc103).1 (by decide) (by decide) ?_
                            show Steps p.tables e below (s₁.setTop (mkF m 108 #[.val (.int p0)] [])) _
                            refine XS.iconst X0.here hx rfl (hb hby own_d2_108) ?_
                            show Steps p.tables e below (s₁.setTop (mkF m 109 #[.val (.int p0)] [(.int (1 : Int32))])) _
                            refine XS.goto X0.here hx rfl (pc0 := 109) (pc' := 113) rfl (hb hby own_d2_109) (by decide) (by decide) ?_
                            show Steps p.tables e below (s₁.setTop (mkF m 113 #[.val (.int p0)] [(.int (1 : Int32))])) _
                            exact k
                          obtain ⟨fs, hr, hrun, hended, hW, hsame⟩ := X0.leave (v := some (.int (1 : Int32))) (fun h => by rw [Bd.returns] at h; cases h)
                          refine Go.mk' ⟨_, _, retN X0 hx (t := .boolean) Bd.returns (by simp) (hb hby own_d2_113) hr, hrun, hended, _, _, rfl, ?_, ⟨_, rfl⟩, hW, hsame.mono (by decide) (by decide)⟩
                          show Q2 Z p0 h0 n0 _ s₁.heap _
                          rw [e0]
                          exact ⟨(by rw [f2, if_neg hc7, if_pos hc58, if_neg hc59, if_pos hc84, if_neg hc85, if_pos hc97, if_neg hc98, if_neg hc99, if_neg hc100, if_neg hc101, if_neg hc102, if_pos hc103]), N0, rfl⟩
                        · refine Go.st (V' := s₁.setTop (mkF m 81 #[.val (.int p0)] [(.int (41 : Int32)), (.int p0)])) (fun t k => ?_) ?_
                          · refine XS.icmpNo X0.here hx rfl (hb hby own_d2_75) rfl (feq hc103).1 ?_
                            show Steps p.tables e below (s₁.setTop (mkF m 78 #[.val (.int p0)] [])) _
                            refine XS.iloadN X0.here hx rfl (hb hby own_d2_78) rfl  ?_
                            show Steps p.tables e below (s₁.setTop (mkF m 79 #[.val (.int p0)] [(.int p0)])) _
                            refine XS.bipush X0.here hx rfl (hb hby own_d2_79) ?_
                            show Steps p.tables e below (s₁.setTop (mkF m 81 #[.val (.int p0)] [(.int (41 : Int32)), (.int p0)])) _
                            exact k
                          by_cases hc104 : p0 = (41 : Int32)
                          · refine Go.st (V' := s₁.setTop (mkF m 113 #[.val (.int p0)] [(.int (1 : Int32))])) (fun t k => ?_) ?_
                            · refine XS.icmpYes X0.here hx rfl (pc0 := 81) (pc' := 108) rfl (hb hby own_d2_81) rfl (teq hc104).1 (by decide) (by decide) ?_
                              show Steps p.tables e below (s₁.setTop (mkF m 108 #[.val (.int p0)] [])) _
                              refine XS.iconst X0.here hx rfl (hb hby own_d2_108) ?_
                              show Steps p.tables e below (s₁.setTop (mkF m 109 #[.val (.int p0)] [(.int (1 : Int32))])) _
                              refine XS.goto X0.here hx rfl (pc0 := 109) (pc' := 113) rfl (hb hby own_d2_109) (by decide) (by decide) ?_
                              show Steps p.tables e below (s₁.setTop (mkF m 113 #[.val (.int p0)] [(.int (1 : Int32))])) _
                              exact k
                            obtain ⟨fs, hr, hrun, hended, hW, hsame⟩ := X0.leave (v := some (.int (1 : Int32))) (fun h => by rw [Bd.returns] at h; cases h)
                            refine Go.mk' ⟨_, _, retN X0 hx (t := .boolean) Bd.returns (by simp) (hb hby own_d2_113) hr, hrun, hended, _, _, rfl, ?_, ⟨_, rfl⟩, hW, hsame.mono (by decide) (by decide)⟩
                            show Q2 Z p0 h0 n0 _ s₁.heap _
                            rw [e0]
                            exact ⟨(by rw [f2, if_neg hc7, if_pos hc58, if_neg hc59, if_pos hc84, if_neg hc85, if_pos hc97, if_neg hc98, if_neg hc99, if_neg hc100, if_neg hc101, if_neg hc102, if_neg hc103, if_pos hc104]), N0, rfl⟩
                          · refine Go.st (V' := s₁.setTop (mkF m 87 #[.val (.int p0)] [(.int (46 : Int32)), (.int p0)])) (fun t k => ?_) ?_
                            · refine XS.icmpNo X0.here hx rfl (hb hby own_d2_81) rfl (feq hc104).1 ?_
                              show Steps p.tables e below (s₁.setTop (mkF m 84 #[.val (.int p0)] [])) _
                              refine XS.iloadN X0.here hx rfl (hb hby own_d2_84) rfl  ?_
                              show Steps p.tables e below (s₁.setTop (mkF m 85 #[.val (.int p0)] [(.int p0)])) _
                              refine XS.bipush X0.here hx rfl (hb hby own_d2_85) ?_
                              show Steps p.tables e below (s₁.setTop (mkF m 87 #[.val (.int p0)] [(.int (46 : Int32)), (.int p0)])) _
                              exact k
                            by_cases hc105 : p0 = (46 : Int32)
                            · refine Go.st (V' := s₁.setTop (mkF m 113 #[.val (.int p0)] [(.int (1 : Int32))])) (fun t k => ?_) ?_
                              · refine XS.icmpYes X0.here hx rfl (pc0 := 87) (pc' := 108) rfl (hb hby own_d2_87) rfl (teq hc105).1 (by decide) (by decide) ?_
                                show Steps p.tables e below (s₁.setTop (mkF m 108 #[.val (.int p0)] [])) _
                                refine XS.iconst X0.here hx rfl (hb hby own_d2_108) ?_
                                show Steps p.tables e below (s₁.setTop (mkF m 109 #[.val (.int p0)] [(.int (1 : Int32))])) _
                                refine XS.goto X0.here hx rfl (pc0 := 109) (pc' := 113) rfl (hb hby own_d2_109) (by decide) (by decide) ?_
                                show Steps p.tables e below (s₁.setTop (mkF m 113 #[.val (.int p0)] [(.int (1 : Int32))])) _
                                exact k
                              obtain ⟨fs, hr, hrun, hended, hW, hsame⟩ := X0.leave (v := some (.int (1 : Int32))) (fun h => by rw [Bd.returns] at h; cases h)
                              refine Go.mk' ⟨_, _, retN X0 hx (t := .boolean) Bd.returns (by simp) (hb hby own_d2_113) hr, hrun, hended, _, _, rfl, ?_, ⟨_, rfl⟩, hW, hsame.mono (by decide) (by decide)⟩
                              show Q2 Z p0 h0 n0 _ s₁.heap _
                              rw [e0]
                              exact ⟨(by rw [f2, if_neg hc7, if_pos hc58, if_neg hc59, if_pos hc84, if_neg hc85, if_pos hc97, if_neg hc98, if_neg hc99, if_neg hc100, if_neg hc101, if_neg hc102, if_neg hc103, if_neg hc104, if_pos hc105]), N0, rfl⟩
                            · refine Go.st (V' := s₁.setTop (mkF m 93 #[.val (.int p0)] [(.int (44 : Int32)), (.int p0)])) (fun t k => ?_) ?_
                              · refine XS.icmpNo X0.here hx rfl (hb hby own_d2_87) rfl (feq hc105).1 ?_
                                show Steps p.tables e below (s₁.setTop (mkF m 90 #[.val (.int p0)] [])) _
                                refine XS.iloadN X0.here hx rfl (hb hby own_d2_90) rfl  ?_
                                show Steps p.tables e below (s₁.setTop (mkF m 91 #[.val (.int p0)] [(.int p0)])) _
                                refine XS.bipush X0.here hx rfl (hb hby own_d2_91) ?_
                                show Steps p.tables e below (s₁.setTop (mkF m 93 #[.val (.int p0)] [(.int (44 : Int32)), (.int p0)])) _
                                exact k
                              by_cases hc106 : p0 = (44 : Int32)
                              · refine Go.st (V' := s₁.setTop (mkF m 113 #[.val (.int p0)] [(.int (1 : Int32))])) (fun t k => ?_) ?_
                                · refine XS.icmpYes X0.here hx rfl (pc0 := 93) (pc' := 108) rfl (hb hby own_d2_93) rfl (teq hc106).1 (by decide) (by decide) ?_
                                  show Steps p.tables e below (s₁.setTop (mkF m 108 #[.val (.int p0)] [])) _
                                  refine XS.iconst X0.here hx rfl (hb hby own_d2_108) ?_
                                  show Steps p.tables e below (s₁.setTop (mkF m 109 #[.val (.int p0)] [(.int (1 : Int32))])) _
                                  refine XS.goto X0.here hx rfl (pc0 := 109) (pc' := 113) rfl (hb hby own_d2_109) (by decide) (by decide) ?_
                                  show Steps p.tables e below (s₁.setTop (mkF m 113 #[.val (.int p0)] [(.int (1 : Int32))])) _
                                  exact k
                                obtain ⟨fs, hr, hrun, hended, hW, hsame⟩ := X0.leave (v := some (.int (1 : Int32))) (fun h => by rw [Bd.returns] at h; cases h)
                                refine Go.mk' ⟨_, _, retN X0 hx (t := .boolean) Bd.returns (by simp) (hb hby own_d2_113) hr, hrun, hended, _, _, rfl, ?_, ⟨_, rfl⟩, hW, hsame.mono (by decide) (by decide)⟩
                                show Q2 Z p0 h0 n0 _ s₁.heap _
                                rw [e0]
                                exact ⟨(by rw [f2, if_neg hc7, if_pos hc58, if_neg hc59, if_pos hc84, if_neg hc85, if_pos hc97, if_neg hc98, if_neg hc99, if_neg hc100, if_neg hc101, if_neg hc102, if_neg hc103, if_neg hc104, if_neg hc105, if_pos hc106]), N0, rfl⟩
                              · refine Go.st (V' := s₁.setTop (mkF m 99 #[.val (.int p0)] [(.int (39 : Int32)), (.int p0)])) (fun t k => ?_) ?_
                                · refine XS.icmpNo X0.here hx rfl (hb hby own_d2_93) rfl (feq hc106).1 ?_
                                  show Steps p.tables e below (s₁.setTop (mkF m 96 #[.val (.int p0)] [])) _
                                  refine XS.iloadN X0.here hx rfl (hb hby own_d2_96) rfl  ?_
                                  show Steps p.tables e below (s₁.setTop (mkF m 97 #[.val (.int p0)] [(.int p0)])) _
                                  refine XS.bipush X0.here hx rfl (hb hby own_d2_97) ?_
                                  show Steps p.tables e below (s₁.setTop (mkF m 99 #[.val (.int p0)] [(.int (39 : Int32)), (.int p0)])) _
                                  exact k
                                by_cases hc107 : p0 = (39 : Int32)
                                · refine Go.st (V' := s₁.setTop (mkF m 113 #[.val (.int p0)] [(.int (1 : Int32))])) (fun t k => ?_) ?_
                                  · refine XS.icmpYes X0.here hx rfl (pc0 := 99) (pc' := 108) rfl (hb hby own_d2_99) rfl (teq hc107).1 (by decide) (by decide) ?_
                                    show Steps p.tables e below (s₁.setTop (mkF m 108 #[.val (.int p0)] [])) _
                                    refine XS.iconst X0.here hx rfl (hb hby own_d2_108) ?_
                                    show Steps p.tables e below (s₁.setTop (mkF m 109 #[.val (.int p0)] [(.int (1 : Int32))])) _
                                    refine XS.goto X0.here hx rfl (pc0 := 109) (pc' := 113) rfl (hb hby own_d2_109) (by decide) (by decide) ?_
                                    show Steps p.tables e below (s₁.setTop (mkF m 113 #[.val (.int p0)] [(.int (1 : Int32))])) _
                                    exact k
                                  obtain ⟨fs, hr, hrun, hended, hW, hsame⟩ := X0.leave (v := some (.int (1 : Int32))) (fun h => by rw [Bd.returns] at h; cases h)
                                  refine Go.mk' ⟨_, _, retN X0 hx (t := .boolean) Bd.returns (by simp) (hb hby own_d2_113) hr, hrun, hended, _, _, rfl, ?_, ⟨_, rfl⟩, hW, hsame.mono (by decide) (by decide)⟩
                                  show Q2 Z p0 h0 n0 _ s₁.heap _
                                  rw [e0]
                                  exact ⟨(by rw [f2, if_neg hc7, if_pos hc58, if_neg hc59, if_pos hc84, if_neg hc85, if_pos hc97, if_neg hc98, if_neg hc99, if_neg hc100, if_neg hc101, if_neg hc102, if_neg hc103, if_neg hc104, if_neg hc105, if_neg hc106, if_pos hc107]), N0, rfl⟩
                                · refine Go.st (V' := s₁.setTop (mkF m 105 #[.val (.int p0)] [(.int (43 : Int32)), (.int p0)])) (fun t k => ?_) ?_
                                  · refine XS.icmpNo X0.here hx rfl (hb hby own_d2_99) rfl (feq hc107).1 ?_
                                    show Steps p.tables e below (s₁.setTop (mkF m 102 #[.val (.int p0)] [])) _
                                    refine XS.iloadN X0.here hx rfl (hb hby own_d2_102) rfl  ?_
                                    show Steps p.tables e below (s₁.setTop (mkF m 103 #[.val (.int p0)] [(.int p0)])) _
                                    refine XS.bipush X0.here hx rfl (hb hby own_d2_103) ?_
                                    show Steps p.tables e below (s₁.setTop (mkF m 105 #[.val (.int p0)] [(.int (43 : Int32)), (.int p0)])) _
                                    exact k
                                  by_cases hc108 : p0 = (43 : Int32)
                                  · refine Go.st (V' := s₁.setTop (mkF m 113 #[.val (.int p0)] [(.int (1 : Int32))])) (fun t k => ?_) ?_
                                    · refine XS.icmpNo X0.here hx rfl (hb hby own_d2_105) rfl (teq hc108).2 ?_
                                      show Steps p.tables e below (s₁.setTop (mkF m 108 #[.val (.int p0)] [])) _
                                      refine XS.iconst X0.here hx rfl (hb hby own_d2_108) ?_
                                      show Steps p.tables e below (s₁.setTop (mkF m 109 #[.val (.int p0)] [(.int (1 : Int32))])) _
                                      refine XS.goto X0.here hx rfl (pc0 := 109) (pc' := 113) rfl (hb hby own_d2_109) (by decide) (by decide) ?_
                                      show Steps p.tables e below (s₁.setTop (mkF m 113 #[.val (.int p0)] [(.int (1 : Int32))])) _
                                      exact k
                                    obtain ⟨fs, hr, hrun, hended, hW, hsame⟩ := X0.leave (v := some (.int (1 : Int32))) (fun h => by rw [Bd.returns] at h; cases h)
                                    refine Go.mk' ⟨_, _, retN X0 hx (t := .boolean) Bd.returns (by simp) (hb hby own_d2_113) hr, hrun, hended, _, _, rfl, ?_, ⟨_, rfl⟩, hW, hsame.mono (by decide) (by decide)⟩
                                    show Q2 Z p0 h0 n0 _ s₁.heap _
                                    rw [e0]
                                    exact ⟨(by rw [f2, if_neg hc7, if_pos hc58, if_neg hc59, if_pos hc84, if_neg hc85, if_pos hc97, if_neg hc98, if_neg hc99, if_neg hc100, if_neg hc101, if_neg hc102, if_neg hc103, if_neg hc104, if_neg hc105, if_neg hc106, if_neg hc107, if_pos hc108]), N0, rfl⟩
                                  · refine Go.st (V' := s₁.setTop (mkF m 113 #[.val (.int p0)] [(.int (0 : Int32))])) (fun t k => ?_) ?_
                                    · refine XS.icmpYes X0.here hx rfl (pc0 := 105) (pc' := 112) rfl (hb hby own_d2_105) rfl (feq hc108).2 (by decide) (by decide) ?_
                                      show Steps p.tables e below (s₁.setTop (mkF m 112 #[.val (.int p0)] [])) _
                                      refine XS.iconst X0.here hx rfl (hb hby own_d2_112) ?_
                                      show Steps p.tables e below (s₁.setTop (mkF m 113 #[.val (.int p0)] [(.int (0 : Int32))])) _
                                      exact k
                                    obtain ⟨fs, hr, hrun, hended, hW, hsame⟩ := X0.leave (v := some (.int (0 : Int32))) (fun h => by rw [Bd.returns] at h; cases h)
                                    refine Go.mk' ⟨_, _, retN X0 hx (t := .boolean) Bd.returns (by simp) (hb hby own_d2_113) hr, hrun, hended, _, _, rfl, ?_, ⟨_, rfl⟩, hW, hsame.mono (by decide) (by decide)⟩
                                    show Q2 Z p0 h0 n0 _ s₁.heap _
                                    rw [e0]
                                    exact ⟨(by rw [f2, if_neg hc7, if_pos hc58, if_neg hc59, if_pos hc84, if_neg hc85, if_pos hc97, if_neg hc98, if_neg hc99, if_neg hc100, if_neg hc101, if_neg hc102, if_neg hc103, if_neg hc104, if_neg hc105, if_neg hc106, if_neg hc107, if_neg hc108]), N0, rfl⟩
            · refine Go.st (V' := s₁.setTop (mkF m 41 #[.val (.int p0)] [(.int (1 : Int32))])) (fun t k => ?_) ?_
              · refine XS.icmpNo X0.here hx rfl (hb hby own_d2_37) rfl (flt hc97).2.2.1 ?_
                show Steps p.tables e below (s₁.setTop (mkF m 40 #[.val (.int p0)] [])) _
                refine XS.iconst X0.here hx rfl (hb hby own_d2_40) ?_
                show Steps p.tables e below (s₁.setTop (mkF m 41 #[.val (.int p0)] [(.int (1 : Int32))])) _
                exact k
              obtain ⟨fs, hr, hrun, hended, hW, hsame⟩ := X0.leave (v := some (.int (1 : Int32))) (fun h => by rw [Bd.returns] at h; cases h)
              refine Go.mk' ⟨_, _, retN X0 hx (t := .boolean) Bd.returns (by simp) (hb hby own_d2_41) hr, hrun, hended, _, _, rfl, ?_, ⟨_, rfl⟩, hW, hsame.mono (by decide) (by decide)⟩
              show Q2 Z p0 h0 n0 _ s₁.heap _
              rw [e0]
              exact ⟨(by rw [f2, if_neg hc7, if_pos hc58, if_neg hc59, if_pos hc84, if_neg hc85, if_neg hc97]), N0, rfl⟩
        · refine Go.st (V' := s₁.setTop (mkF m 27 #[.val (.int p0)] [(.int (1 : Int32))])) (fun t k => ?_) ?_
          · refine XS.icmpNo X0.here hx rfl (hb hby own_d2_23) rfl (flt hc84).2.2.1 ?_
            show Steps p.tables e below (s₁.setTop (mkF m 26 #[.val (.int p0)] [])) _
            refine XS.iconst X0.here hx rfl (hb hby own_d2_26) ?_
            show Steps p.tables e below (s₁.setTop (mkF m 27 #[.val (.int p0)] [(.int (1 : Int32))])) _
            exact k
          obtain ⟨fs, hr, hrun, hended, hW, hsame⟩ := X0.leave (v := some (.int (1 : Int32))) (fun h => by rw [Bd.returns] at h; cases h)
          refine Go.mk' ⟨_, _, retN X0 hx (t := .boolean) Bd.returns (by simp) (hb hby own_d2_27) hr, hrun, hended, _, _, rfl, ?_, ⟨_, rfl⟩, hW, hsame.mono (by decide) (by decide)⟩
          show Q2 Z p0 h0 n0 _ s₁.heap _
          rw [e0]
          exact ⟨(by rw [f2, if_neg hc7, if_pos hc58, if_neg hc59, if_neg hc84]), N0, rfl⟩
    · refine Go.st (V' := s₁.setTop (mkF m 13 #[.val (.int p0)] [(.int (1 : Int32))])) (fun t k => ?_) ?_
      · refine XS.icmpNo X0.here hx rfl (hb hby own_d2_9) rfl (flt hc58).2.2.1 ?_
        show Steps p.tables e below (s₁.setTop (mkF m 12 #[.val (.int p0)] [])) _
        refine XS.iconst X0.here hx rfl (hb hby own_d2_12) ?_
        show Steps p.tables e below (s₁.setTop (mkF m 13 #[.val (.int p0)] [(.int (1 : Int32))])) _
        exact k
      obtain ⟨fs, hr, hrun, hended, hW, hsame⟩ := X0.leave (v := some (.int (1 : Int32))) (fun h => by rw [Bd.returns] at h; cases h)
      refine Go.mk' ⟨_, _, retN X0 hx (t := .boolean) Bd.returns (by simp) (hb hby own_d2_13) hr, hrun, hended, _, _, rfl, ?_, ⟨_, rfl⟩, hW, hsame.mono (by decide) (by decide)⟩
      show Q2 Z p0 h0 n0 _ s₁.heap _
      rw [e0]
      exact ⟨(by rw [f2, if_neg hc7, if_neg hc58]), N0, rfl⟩
theorem own_ite01 {c : Prop} [Decidable c] {a b : Int32} (ha : a = 0 ∨ a = 1) (hb : b = 0 ∨ b = 1) : (if c then a else b) = 0 ∨ (if c then a else b) = 1 := by
  split <;> assumption
theorem own_01 (p : Int32) : f2 p = 0 ∨ f2 p = 1 := by
  unfold f2
  repeat' (first | exact Or.inl rfl | exact Or.inr rfl | apply own_ite01)
theorem own_fg : ∀ n : Nat, n < 256 → own_g (Int32.ofNat n) = f2 (Int32.ofNat n) := by decide +kernel
theorem own_big {p0 : Int32} (h : ¬ p0 < (256 : Int32)) : f2 p0 = 0 := by
  have lb : (256 : Int32).toInt = 256 := by decide
  rw [Int32.lt_iff_toInt_lt, lb] at h
  have l0 : (65 : Int32).toInt = 65 := by decide
  have c0 : ¬ (p0 < (65 : Int32)) := by rw [Int32.lt_iff_toInt_lt, l0]; omega
  have l1 : (97 : Int32).toInt = 97 := by decide
  have c1 : ¬ (p0 < (97 : Int32)) := by rw [Int32.lt_iff_toInt_lt, l1]; omega
  have l2 : (48 : Int32).toInt = 48 := by decide
  have c2 : ¬ (p0 < (48 : Int32)) := by rw [Int32.lt_iff_toInt_lt, l2]; omega
  have l3 : (32 : Int32).toInt = 32 := by decide
  have c3 : ¬ (p0 = (32 : Int32)) := by
    intro q
    rw [← Int32.toInt_inj, l3] at q
    omega
  have l4 : (47 : Int32).toInt = 47 := by decide
  have c4 : ¬ (p0 = (47 : Int32)) := by
    intro q
    rw [← Int32.toInt_inj, l4] at q
    omega
  have l5 : (45 : Int32).toInt = 45 := by decide
  have c5 : ¬ (p0 = (45 : Int32)) := by
    intro q
    rw [← Int32.toInt_inj, l5] at q
    omega
  have l6 : (63 : Int32).toInt = 63 := by decide
  have c6 : ¬ (p0 = (63 : Int32)) := by
    intro q
    rw [← Int32.toInt_inj, l6] at q
    omega
  have l7 : (58 : Int32).toInt = 58 := by decide
  have c7 : ¬ (p0 = (58 : Int32)) := by
    intro q
    rw [← Int32.toInt_inj, l7] at q
    omega
  have l8 : (40 : Int32).toInt = 40 := by decide
  have c8 : ¬ (p0 = (40 : Int32)) := by
    intro q
    rw [← Int32.toInt_inj, l8] at q
    omega
  have l9 : (41 : Int32).toInt = 41 := by decide
  have c9 : ¬ (p0 = (41 : Int32)) := by
    intro q
    rw [← Int32.toInt_inj, l9] at q
    omega
  have l10 : (46 : Int32).toInt = 46 := by decide
  have c10 : ¬ (p0 = (46 : Int32)) := by
    intro q
    rw [← Int32.toInt_inj, l10] at q
    omega
  have l11 : (44 : Int32).toInt = 44 := by decide
  have c11 : ¬ (p0 = (44 : Int32)) := by
    intro q
    rw [← Int32.toInt_inj, l11] at q
    omega
  have l12 : (39 : Int32).toInt = 39 := by decide
  have c12 : ¬ (p0 = (39 : Int32)) := by
    intro q
    rw [← Int32.toInt_inj, l12] at q
    omega
  have l13 : (43 : Int32).toInt = 43 := by decide
  have c13 : ¬ (p0 = (43 : Int32)) := by
    intro q
    rw [← Int32.toInt_inj, l13] at q
    omega
  have l14 : (57 : Int32).toInt = 57 := by decide
  have c14 : (57 : Int32) < p0 := by rw [Int32.lt_iff_toInt_lt, l14]; omega
  have l15 : (122 : Int32).toInt = 122 := by decide
  have c15 : (122 : Int32) < p0 := by rw [Int32.lt_iff_toInt_lt, l15]; omega
  have l16 : (90 : Int32).toInt = 90 := by decide
  have c16 : (90 : Int32) < p0 := by rw [Int32.lt_iff_toInt_lt, l16]; omega
  simp only [f2, if_neg c0, if_neg c1, if_neg c2, if_neg c3, if_neg c4, if_neg c5, if_neg c6, if_neg c7, if_neg c8, if_neg c9, if_neg c10, if_neg c11, if_neg c12, if_neg c13, if_pos c14, if_pos c15, if_pos c16]
theorem own_same (cl_tab : Cell) (hG : ∀ j : Int32, ¬ j < 0 → j < (256 : Int32) → atv cl_tab j = own_g j) (p : Int32) (h0 : ¬ p < (0 : Int32)) : f1 cl_tab p = f2 p := by
  by_cases h : p < (256 : Int32)
  · have e := hG p h0 h
    have l0 : (0 : Int32).toInt = 0 := by decide
    have l1 : (256 : Int32).toInt = 256 := by decide
    have h0' := h0
    have h' := h
    rw [Int32.lt_iff_toInt_lt] at h0' h'
    have q : p = Int32.ofNat p.toInt.toNat := by
      apply Int32.toInt_inj.mp
      rw [Int32.toInt_ofNat_small (by omega)]
      omega
    have z := own_fg p.toInt.toNat (by omega)
    rw [← q] at z
    rw [f1, if_pos h, e, z]
    rcases own_01 p with y | y <;> rw [y] <;> decide
  · rw [f1, if_neg h, own_big h]
theorem own_pd73 : parseMethodDescriptor "(C)Z" = some ⟨[.char], some .boolean⟩ := by decide +kernel
theorem ef0 (m : MethodId) (p0 : Int32) : entryFrame m #[(.int p0)] maxLocals = mkF m 0 #[.val (.int p0), .unset] [] := by first | (simp [entryFrame, mkF, argsToLocals, Value.category, maxLocals]; done) | rfl
def Q0 (Z : State) (p0 : Int32) (h0 : Heap) (n0 : Nat) (v : Option Value) (h : Heap) (L : List Loc) : Prop := v = some (.int 1) ∧ Fr n0 L
set_option maxRecDepth 65536 in
set_option maxHeartbeats 40000000 in
theorem rm0 (l : Launch) (Z : State) (a0 : Array Value) (hw : ∀ d ∈ tables_1, d.before a0 Z = true) (ws : List Jvm.Cond) (s_tab : Addr) (cl_tab : Cell) (HW : W0 Z s_tab cl_tab) (p0 : Int32) (h0 : Heap) (n0 : Nat) (O0 : Old Z n0 h0) :
    MetFree l x (head1 (Jvm.Cond.code x code maxLocals ret :: ws) room_1) (fun a U => a = #[(.int p0)] ∧ Z.Warmed39 U.vm ∧ U.heap = h0) (fun _ _ _ _ _ => True) (fun _ U o U' => ∃ v L, o = .returned v ∧ Q0 Z p0 h0 n0 v U'.heap L ∧ FrameEnd U o U' L room_1.cells room_1.slots) := by
  refine MetFree.of_bodySF (plainFor_of_name own_pn1) hisR ?_
  intro p e s m args below meth c s₁ Bd hml0 hP hK
  obtain ⟨rfl, hZ, hh⟩ := hP
  obtain ⟨T_tab, S_tab, G_tab⟩ := id HW
  have hx := Bd.exec
  have hby := Bd.bytes
  have hml : c.maxLocals = 2 := hml0
  have hown : s.vm.findClass "com/example/settlewire/settlewire/fin/FinIsSetXPinLaw" = some m.cls := findClass_of_methodNamed Bd.named
  have hnm := (name_of_methodNamed Bd.named Bd.method).1
  have X0 : Stand p l e room_1 s m #[(.int p0)] below meth c s₁ [] 0 0 := Stand.of_body Bd
  have e0 : s₁.heap = h0 := by rw [← hh, Bd.state]; rfl
  have N0 := Fr.nil n0
  refine Go.out ?_
  refine Go.st (V' := s₁.setTop (mkF m 0 #[.val (.int p0), .unset] [])) (fun t k => castTop (ef0 m p0) k) ?_
  refine Go.st (V' := s₁.setTop (mkF m 7 #[.val (.int p0), .val (.int ((p0 &&& (65535 : Int32)).toUInt32.toUInt16.toUInt32.toInt32))] [(.int ((p0 &&& (65535 : Int32)).toUInt32.toUInt16.toUInt32.toInt32))])) (fun t k => ?_) ?_
  · refine XS.iloadN X0.here hx rfl (hb hby at_0) rfl  ?_
    show Steps p.tables e below (s₁.setTop (mkF m 1 #[.val (.int p0), .unset] [(.int p0)])) _
    refine X0.ldcInt hx hown (mvT hZ (hw _ (List.mem_of_getElem? (i := 0) rfl))) (g := (mkF m 1 #[.val (.int p0), .unset] [(.int p0)])) rfl (hb hby at_1) _ ?_
    show Steps p.tables e below (s₁.setTop (mkF m 3 #[.val (.int p0), .unset] [(.int (65535 : Int32)), (.int p0)])) _
    refine XS.iand X0.here hx rfl (hb hby at_3) rfl ?_
    show Steps p.tables e below (s₁.setTop (mkF m 4 #[.val (.int p0), .unset] [(.int (p0 &&& (65535 : Int32)))])) _
    refine XS.i2c X0.here hx rfl (hb hby at_4) rfl ?_
    show Steps p.tables e below (s₁.setTop (mkF m 5 #[.val (.int p0), .unset] [(.int ((p0 &&& (65535 : Int32)).toUInt32.toUInt16.toUInt32.toInt32))])) _
    refine XS.istoreN X0.here hx rfl (hb hby at_5) rfl (l' := #[.val (.int p0), .val (.int ((p0 &&& (65535 : Int32)).toUInt32.toUInt16.toUInt32.toInt32))]) rfl ?_
    show Steps p.tables e below (s₁.setTop (mkF m 6 #[.val (.int p0), .val (.int ((p0 &&& (65535 : Int32)).toUInt32.toUInt16.toUInt32.toInt32))] [])) _
    refine XS.iloadN X0.here hx rfl (hb hby at_6) rfl  ?_
    show Steps p.tables e below (s₁.setTop (mkF m 7 #[.val (.int p0), .val (.int ((p0 &&& (65535 : Int32)).toUInt32.toUInt16.toUInt32.toInt32))] [(.int ((p0 &&& (65535 : Int32)).toUInt32.toUInt16.toUInt32.toInt32))])) _
    exact k
  obtain ⟨_, _, ⟨T109, L109, k109, n109⟩, -, X109, ⟨Lc109, hQ109, l109, y109, z109⟩, st109⟩ := Jvm.LawKit.callS X0 hx (y := (⟨"com/example/settlewire/settlewire/fin/Fin", "isSetX", "(C)Z"⟩ : MethodName)) hown (mvT hZ (hw _ (List.mem_of_getElem? (i := 1) rfl))) (mvT hZ (hw _ (List.mem_of_getElem? (i := 2) rfl))) (mvT hZ (hw _ (List.mem_of_getElem? (i := 3) rfl))) (mvT hZ (hw _ (List.mem_of_getElem? (i := 4) rfl))) (by decide) (backOf (W := 0) (rm1 l Z a0 hw [] s_tab cl_tab HW ((p0 &&& (65535 : Int32)).toUInt32.toUInt16.toUInt32.toInt32) h0 n0 O0 (own_ch _)) hZ (hw _ (List.mem_of_getElem? (i := 4) rfl)) (hw _ (List.mem_of_getElem? (i := 3) rfl)) (by decide) (by decide)) (g := (mkF m 7 #[.val (.int p0), .val (.int ((p0 &&& (65535 : Int32)).toUInt32.toUInt16.toUInt32.toInt32))] [(.int ((p0 &&& (65535 : Int32)).toUInt32.toUInt16.toUInt32.toInt32))])) rfl (by rw [hml]; rfl) (argsL := [(.int ((p0 &&& (65535 : Int32)).toUInt32.toUInt16.toUInt32.toInt32))]) (rest := []) (lenOf own_pd73 rfl) rfl (by show 2 * 0 + _ ≤ _; exact Nat.le_of_eq rfl) (hb hby at_7) (fun _ _ => ⟨rfl, e0, (by decide : 0 + 0 ≤ _), (by decide : 0 + 0 ≤ _)⟩)
  dsimp only [Pt.U, Pt.locs, Pt.cells, Pt.slots] at X109 l109 y109 z109 st109 hQ109
  subst l109 y109 z109
  obtain ⟨rfl, N109q, e109⟩ := hQ109
  have N109 := Fr.app N0 N109q
  refine Go.st (V' := T109.setTop (mkF m 10 #[.val (.int p0), .val (.int ((p0 &&& (65535 : Int32)).toUInt32.toUInt16.toUInt32.toInt32))] [(.int (f1 cl_tab ((p0 &&& (65535 : Int32)).toUInt32.toUInt16.toUInt32.toInt32)))])) (fun t k => st109 t k) ?_
  refine Go.st (V' := T109.setTop (mkF m 11 #[.val (.int p0), .val (.int ((p0 &&& (65535 : Int32)).toUInt32.toUInt16.toUInt32.toInt32))] [(.int ((p0 &&& (65535 : Int32)).toUInt32.toUInt16.toUInt32.toInt32)), (.int (f1 cl_tab ((p0 &&& (65535 : Int32)).toUInt32.toUInt16.toUInt32.toInt32)))])) (fun t k => ?_) ?_
  · refine XS.iloadN X109.here hx rfl (hb hby at_10) rfl  ?_
    show Steps p.tables e below (T109.setTop (mkF m 11 #[.val (.int p0), .val (.int ((p0 &&& (65535 : Int32)).toUInt32.toUInt16.toUInt32.toInt32))] [(.int ((p0 &&& (65535 : Int32)).toUInt32.toUInt16.toUInt32.toInt32)), (.int (f1 cl_tab ((p0 &&& (65535 : Int32)).toUInt32.toUInt16.toUInt32.toInt32)))])) _
    exact k
  obtain ⟨_, _, ⟨T110, L110, k110, n110⟩, -, X110, ⟨Lc110, hQ110, l110, y110, z110⟩, st110⟩ := Jvm.LawKit.callS X109 hx (y := (⟨"com/example/settlewire/settlewire/fin/FinIsSetXPinLaw", "expected", "(C)Z"⟩ : MethodName)) hown (mvT hZ (hw _ (List.mem_of_getElem? (i := 7) rfl))) (mvT hZ (hw _ (List.mem_of_getElem? (i := 8) rfl))) (mvT hZ (hw _ (List.mem_of_getElem? (i := 9) rfl))) (mvT hZ (hw _ (List.mem_of_getElem? (i := 10) rfl))) (by decide) (backOf (W := 1) (rm2 l Z a0 hw [] s_tab cl_tab HW ((p0 &&& (65535 : Int32)).toUInt32.toUInt16.toUInt32.toInt32) h0 n0 O0) hZ (hw _ (List.mem_of_getElem? (i := 10) rfl)) (hw _ (List.mem_of_getElem? (i := 9) rfl)) (by decide) (by decide)) (g := (mkF m 11 #[.val (.int p0), .val (.int ((p0 &&& (65535 : Int32)).toUInt32.toUInt16.toUInt32.toInt32))] [(.int ((p0 &&& (65535 : Int32)).toUInt32.toUInt16.toUInt32.toInt32)), (.int (f1 cl_tab ((p0 &&& (65535 : Int32)).toUInt32.toUInt16.toUInt32.toInt32)))])) rfl (by rw [hml]; rfl) (argsL := [(.int ((p0 &&& (65535 : Int32)).toUInt32.toUInt16.toUInt32.toInt32))]) (rest := [(.int (f1 cl_tab ((p0 &&& (65535 : Int32)).toUInt32.toUInt16.toUInt32.toInt32)))]) (lenOf own_pd73 rfl) rfl (by show 2 * 0 + _ ≤ _; exact Nat.le_of_eq rfl) (hb hby at_11) (fun _ _ => ⟨rfl, e109, (by decide : 0 + 0 ≤ _), (by decide : 0 + 0 ≤ _)⟩)
  dsimp only [Pt.U, Pt.locs, Pt.cells, Pt.slots] at X110 l110 y110 z110 st110 hQ110
  subst l110 y110 z110
  obtain ⟨rfl, N110q, e110⟩ := hQ110
  have N110 := Fr.app N109 N110q
  refine Go.st (V' := T110.setTop (mkF m 14 #[.val (.int p0), .val (.int ((p0 &&& (65535 : Int32)).toUInt32.toUInt16.toUInt32.toInt32))] [(.int (f2 ((p0 &&& (65535 : Int32)).toUInt32.toUInt16.toUInt32.toInt32))), (.int (f1 cl_tab ((p0 &&& (65535 : Int32)).toUInt32.toUInt16.toUInt32.toInt32)))])) (fun t k => st110 t k) ?_
  refine Go.st (V' := T110.setTop (mkF m 22 #[.val (.int p0), .val (.int ((p0 &&& (65535 : Int32)).toUInt32.toUInt16.toUInt32.toInt32))] [(.int (1 : Int32))])) (fun t k => ?_) ?_
  · refine XS.icmpNo X110.here hx rfl (hb hby at_14) rfl (teq (own_same cl_tab G_tab _ (own_ch _))).2 ?_
    show Steps p.tables e below (T110.setTop (mkF m 17 #[.val (.int p0), .val (.int ((p0 &&& (65535 : Int32)).toUInt32.toUInt16.toUInt32.toInt32))] [])) _
    refine XS.iconst X110.here hx rfl (hb hby at_17) ?_
    show Steps p.tables e below (T110.setTop (mkF m 18 #[.val (.int p0), .val (.int ((p0 &&& (65535 : Int32)).toUInt32.toUInt16.toUInt32.toInt32))] [(.int (1 : Int32))])) _
    refine XS.goto X110.here hx rfl (pc0 := 18) (pc' := 22) rfl (hb hby at_18) (by decide) (by decide) ?_
    show Steps p.tables e below (T110.setTop (mkF m 22 #[.val (.int p0), .val (.int ((p0 &&& (65535 : Int32)).toUInt32.toUInt16.toUInt32.toInt32))] [(.int (1 : Int32))])) _
    exact k
  obtain ⟨fs, hr, hrun, hended, hW, hsame⟩ := X110.leave (v := some (.int (1 : Int32))) (fun h => by rw [Bd.returns] at h; cases h)
  refine Go.mk' ⟨_, _, retN X110 hx (t := .boolean) Bd.returns (by simp) (hb hby at_22) hr, hrun, hended, _, _, rfl, ?_, ⟨_, rfl⟩, hW, hsame.mono (by decide) (by decide)⟩
  show Q0 Z p0 h0 n0 _ T110.heap _
  rw [e110]
  exact ⟨rfl, N110⟩
set_option maxRecDepth 65536 in
set_option maxHeartbeats 40000000 in
theorem comes_1 {Post : Tables → Env → Array Value → State → Outcome → State → Prop} (hpost : ∀ tb e args s v u, (limb_1_1.after args s (.returned v) u = true ∧ limb_1_2.after args s (.returned v) u = true ∧ True) → FrameEnd s (.returned v) u (Jvm.fieldLocs frame_1_writes args s ++ Jvm.arrayLocs frame_1_arrays args s ++ Jvm.staticLocs frame_1_statics s) 0 0 → Post tb e args s (.returned v) u) :
    ArmFor flags0 classFile x code maxLocals ret World_1 tables_1 room_1 Calls_1 rest_1 Pre_1 Post := by
  intro l hfl _ _ p e ha hc hk s m args below hf hA hF happ hP
  obtain ⟨hcalls, hrest, hpre⟩ := hP
  obtain ⟨-, -, -, hnamed, -, -, -, hat⟩ := (Spec.applies_iff hf).mp happ
  obtain ⟨hg, hn⟩ := and_e (Cond.before_iff.mp (show (Jvm.Cond.and given_1 narrow_1).before args s = true from hpre))
  obtain ⟨gg0, hg⟩ := and_e hg
  have gg1 := hg
  obtain ⟨w0, rfl⟩ : ∃ w0 : Value, args = #[w0] := by
    have hs : args.size = 1 := by simpa [Cond.value, given_1] using gg0
    obtain ⟨L⟩ := args
    match L, hs with
    | [w0], _ => exact ⟨w0, rfl⟩
  have hw := fun d (hd : d ∈ tables_1) => atoms_spec (ws := Jvm.Cond.code x code maxLocals ret :: tables_1) hat d (List.mem_cons_of_mem _ hd)
  have hfit : Fit s := fun {y c} hc i hi => by
    obtain ⟨ha, rfl⟩ := Array.getElem?_eq_some_iff.mp hc
    have q := List.all_eq_true.mp ((Array.all_eq_true_iff_forall_mem.mp hF) _ (Array.getElem_mem ha)) i (List.mem_range.mpr hi)
    simpa [Array.getElem?_eq_getElem hi] using q
  obtain ⟨i0, ei0⟩ := is_v gg1
  obtain rfl : w0 = (.int i0) := Option.some.inj ei0
  obtain ⟨c0, hn⟩ := and_e hn
  obtain ⟨c1, hn⟩ := and_e hn
  obtain ⟨c2, hn⟩ := and_e hn
  obtain ⟨c3, hn⟩ := and_e hn
  obtain ⟨c4, hn⟩ := and_e hn
  obtain ⟨c5, hn⟩ := and_e hn
  obtain ⟨c6, hn⟩ := and_e hn
  obtain ⟨c7, hn⟩ := and_e hn
  obtain ⟨c8, hn⟩ := and_e hn
  obtain ⟨c9, hn⟩ := and_e hn
  obtain ⟨c10, hn⟩ := and_e hn
  obtain ⟨c11, hn⟩ := and_e hn
  obtain ⟨c12, hn⟩ := and_e hn
  obtain ⟨c13, hn⟩ := and_e hn
  obtain ⟨c14, hn⟩ := and_e hn
  obtain ⟨c15, hn⟩ := and_e hn
  have c16 := hn
  obtain ⟨s_tab, ev_tab⟩ := arr_v c0
  obtain ⟨cl_tab, A_tab⟩ := Arr.start ev_tab c0
  obtain ⟨sz_tab, ln_tab⟩ := own_len ev_tab A_tab c1
  have T_tab : Tab s s.heap s_tab cl_tab .boolean (256 : Int32) := Tab.start hfit A_tab (Or.inr (Or.inl rfl)) sz_tab ln_tab (by decide)
  have S_tab := Sta.start ev_tab (Or.inr ⟨(hw _ (List.mem_of_getElem? (i := 3) rfl)), (hw _ (List.mem_of_getElem? (i := 6) rfl))⟩)
  have r2 : ∀ j : Int32, ¬ j < 0 → j < (256 : Int32) → ((32 : Int32) ≤ j ∨ atv cl_tab j = (0 : Int32)) := fun j h0 h1 => or_e2 (Cond.le_ints (Term.int_eval _) (idx_at h0)) (Cond.eq_ints (own_idx ev_tab T_tab h0 h1) (Term.int_eval _)) (own_all ev_tab T_tab c2 h0 h1)
  have r3 : ∀ j : Int32, ¬ j < 0 → j < (256 : Int32) → (¬ j = (32 : Int32) ∨ atv cl_tab j = (1 : Int32)) := fun j _ _ => one_at (atv_of (elem_in (eqv_i (Term.int_eval _) c3) ev_tab (Term.int_eval _) A_tab.1).2) j
  have r4 : ∀ j : Int32, ¬ j < 0 → j < (256 : Int32) → (j < (33 : Int32) ∨ ¬ j < (39 : Int32) ∨ atv cl_tab j = (0 : Int32)) := fun j h0 h1 => or3 (own_all ev_tab T_tab c4 h0 h1) (Cond.lt_ints (idx_at h0) (Term.int_eval _)) (Cond.le_ints (Term.int_eval _) (idx_at h0)) (Cond.eq_ints (own_idx ev_tab T_tab h0 h1) (Term.int_eval _))
  have r5 : ∀ j : Int32, ¬ j < 0 → j < (256 : Int32) → (¬ j = (39 : Int32) ∨ atv cl_tab j = (1 : Int32)) := fun j _ _ => one_at (atv_of (elem_in (eqv_i (Term.int_eval _) c5) ev_tab (Term.int_eval _) A_tab.1).2) j
  have r6 : ∀ j : Int32, ¬ j < 0 → j < (256 : Int32) → (¬ j = (40 : Int32) ∨ atv cl_tab j = (1 : Int32)) := fun j _ _ => one_at (atv_of (elem_in (eqv_i (Term.int_eval _) c6) ev_tab (Term.int_eval _) A_tab.1).2) j
  have r7 : ∀ j : Int32, ¬ j < 0 → j < (256 : Int32) → (¬ j = (41 : Int32) ∨ atv cl_tab j = (1 : Int32)) := fun j _ _ => one_at (atv_of (elem_in (eqv_i (Term.int_eval _) c7) ev_tab (Term.int_eval _) A_tab.1).2) j
  have r8 : ∀ j : Int32, ¬ j < 0 → j < (256 : Int32) → (¬ j = (42 : Int32) ∨ atv cl_tab j = (0 : Int32)) := fun j _ _ => one_at (atv_of (elem_in (eqv_i (Term.int_eval _) c8) ev_tab (Term.int_eval _) A_tab.1).2) j
  have r9 : ∀ j : Int32, ¬ j < 0 → j < (256 : Int32) → (j < (43 : Int32) ∨ ¬ j < (59 : Int32) ∨ atv cl_tab j = (1 : Int32)) := fun j h0 h1 => or3 (own_all ev_tab T_tab c9 h0 h1) (Cond.lt_ints (idx_at h0) (Term.int_eval _)) (Cond.le_ints (Term.int_eval _) (idx_at h0)) (Cond.eq_ints (own_idx ev_tab T_tab h0 h1) (Term.int_eval _))
  have r10 : ∀ j : Int32, ¬ j < 0 → j < (256 : Int32) → (j < (59 : Int32) ∨ ¬ j < (63 : Int32) ∨ atv cl_tab j = (0 : Int32)) := fun j h0 h1 => or3 (own_all ev_tab T_tab c10 h0 h1) (Cond.lt_ints (idx_at h0) (Term.int_eval _)) (Cond.le_ints (Term.int_eval _) (idx_at h0)) (Cond.eq_ints (own_idx ev_tab T_tab h0 h1) (Term.int_eval _))
  have r11 : ∀ j : Int32, ¬ j < 0 → j < (256 : Int32) → (¬ j = (63 : Int32) ∨ atv cl_tab j = (1 : Int32)) := fun j _ _ => one_at (atv_of (elem_in (eqv_i (Term.int_eval _) c11) ev_tab (Term.int_eval _) A_tab.1).2) j
  have r12 : ∀ j : Int32, ¬ j < 0 → j < (256 : Int32) → (¬ j = (64 : Int32) ∨ atv cl_tab j = (0 : Int32)) := fun j _ _ => one_at (atv_of (elem_in (eqv_i (Term.int_eval _) c12) ev_tab (Term.int_eval _) A_tab.1).2) j
  have r13 : ∀ j : Int32, ¬ j < 0 → j < (256 : Int32) → (j < (65 : Int32) ∨ ¬ j < (91 : Int32) ∨ atv cl_tab j = (1 : Int32)) := fun j h0 h1 => or3 (own_all ev_tab T_tab c13 h0 h1) (Cond.lt_ints (idx_at h0) (Term.int_eval _)) (Cond.le_ints (Term.int_eval _) (idx_at h0)) (Cond.eq_ints (own_idx ev_tab T_tab h0 h1) (Term.int_eval _))
  have r14 : ∀ j : Int32, ¬ j < 0 → j < (256 : Int32) → (j < (91 : Int32) ∨ ¬ j < (97 : Int32) ∨ atv cl_tab j = (0 : Int32)) := fun j h0 h1 => or3 (own_all ev_tab T_tab c14 h0 h1) (Cond.lt_ints (idx_at h0) (Term.int_eval _)) (Cond.le_ints (Term.int_eval _) (idx_at h0)) (Cond.eq_ints (own_idx ev_tab T_tab h0 h1) (Term.int_eval _))
  have r15 : ∀ j : Int32, ¬ j < 0 → j < (256 : Int32) → (j < (97 : Int32) ∨ ¬ j < (123 : Int32) ∨ atv cl_tab j = (1 : Int32)) := fun j h0 h1 => or3 (own_all ev_tab T_tab c15 h0 h1) (Cond.lt_ints (idx_at h0) (Term.int_eval _)) (Cond.le_ints (Term.int_eval _) (idx_at h0)) (Cond.eq_ints (own_idx ev_tab T_tab h0 h1) (Term.int_eval _))
  have r16 : ∀ j : Int32, ¬ j < 0 → j < (256 : Int32) → (j < (123 : Int32) ∨ atv cl_tab j = (0 : Int32)) := fun j h0 h1 => or_e2 (Cond.lt_ints (idx_at h0) (Term.int_eval _)) (Cond.eq_ints (own_idx ev_tab T_tab h0 h1) (Term.int_eval _)) (own_all ev_tab T_tab c16 h0 h1)
  have G_tab := own_gall r2 r3 r4 r5 r6 r7 r8 r9 r10 r11 r12 r13 r14 r15 r16
  obtain ⟨n, o, h1, h2, h3, _, L, rfl, ⟨rfl, N⟩, hq⟩ := rm0 l s _ hw tables_1 s_tab cl_tab (show W0 s s_tab cl_tab from ⟨T_tab, S_tab, G_tab⟩) i0 s.heap s.heap.size (Old.start s) p e ha hc hk s m _ below hf ((Spec.applies_iff_loose hf).mp happ).1 ⟨rfl, State.Warmed39.refl s, rfl⟩ trivial
  refine ⟨n, _, h1, h2, h3, hpost _ _ _ _ _ _ ⟨Cond.after_iff.mpr rfl, Cond.after_iff.mpr (eq_i res_at (Term.int_eval (1)) rfl), trivial⟩ ⟨hq.1, hq.2.1, (hq.2.2.sift fun y hy => Or.inr (N y hy)).mono (by decide) (by decide)⟩⟩
theorem main_1_1 : Claimed_1_1 := comes_1 fun _ _ _ _ _ _ h hF => ⟨h.1, hF⟩
theorem main_1_2 : Claimed_1_2 := comes_1 fun _ _ _ _ _ _ h hF => ⟨h.2.1, hF⟩
end Jvm.Pilot.@@N@@
namespace Jvm.Pilot.@@N@@
open Jvm Jvm.ClassFile Sem Op Lib Jvm.Free Jvm.Stand Jvm.Pilot.@@N@@.Jvm.D
/-! MADE BY PROGRAM (witnessworld.py) out of the Statement's table words and the real class files: 11 classes; the members and pool entries that the words name. The judged class is class 1, her method 2. -/
namespace start1
open Jvm.ClassFile
def u (s : String) : CpInfo := .utf8 (stringToUtf16 s)
/-- a pool by its gaps: so many unusable entries, then the entry; so many at the end -/
def gap : Nat → List CpInfo → List CpInfo
  | 0, r => r
  | n + 1, r => .unusable :: gap n r
def poolList (es : List (Nat × CpInfo)) (last : Nat) : List CpInfo := es.foldr (fun e r => gap e.1 (e.2 :: r)) (gap last [])
def pool (es : List (Nat × CpInfo)) (last : Nat) : Array CpInfo := ⟨poolList es last⟩
def fileOf (pool : Array CpInfo) (this : Nat) (attrs : Array Attribute := #[]) (ms : Array MethodInfo := #[]) (fl : Nat := 33) (sup : Nat := 0) (ifs : Array Nat := #[]) (fds : Array FieldInfo := #[]) : ClassFile where
  minorVersion := 0
  majorVersion := 65
  constantPool := pool
  accessFlags := fl
  thisClass := this
  superClass := sup
  interfaces := ifs
  fields := fds
  methods := ms
  attributes := attrs
def plain (name : String) (sup : Option ClassId) : Class where
  name := name
  kind := .ordinary
  loader := none
  accessFlags := 33
  super := sup
  interfaces := #[]
  cf := none
  fields := #[]
  methods := #[]
  instanceTypes := #[]
  staticTypes := #[]
  resolved := #[]
  callSites := []
  init := .initialized
  statics := none
  mirror := none

def pool0 : Array CpInfo := pool [(5, u "<init>"), (0, u "()V"), (1, .class_ 10), (1, u "java/lang/Object")] 113

def k0m0 : Method := { name := "<init>", desc := "()V", sig := { parameters := [], returnType := none }, accessFlags := 1, code := none }
/-- java/lang/Object -/
def k0 : Class := { plain "java/lang/Object" none with
  accessFlags := 33
  interfaces := #[]
  cf := some (fileOf pool0 8 #[] #[{ accessFlags := 1, nameIndex := 5, descriptorIndex := 6, attributes := #[] }] 33 0 #[] #[])
  fields := #[]
  methods := #[k0m0]
  instanceTypes := #[]
  staticTypes := #[]
  resolved := Array.replicate 124 none
  statics := none }

def pool1 : Array CpInfo := pool [(2, .class_ 4), (1, u "java/lang/Object"), (0, u "<init>"), (0, u "()V"), (0, .integer 65535), (0, .methodref 9 10), (0, .class_ 11), (0, .nameAndType 12 13), (0, u "com/example/settlewire/settlewire/fin/Fin"), (0, u "isSetX"), (0, u "(C)Z"), (0, .methodref 15 16), (0, .class_ 17), (0, .nameAndType 18 13), (0, u "com/example/settlewire/settlewire/fin/FinIsSetXPinLaw"), (0, u "expected"), (3, u "law"), (0, u "(I)Z")] 2

def k1m0 : Method := { name := "<init>", desc := "()V", sig := { parameters := [], returnType := none }, accessFlags := 2, code := none }
def k1c1 : Code := { maxStack := 2, maxLocals := 1, code := method_2_code, exceptionTable := #[], attributes := #[] }
def k1m1 : Method := { name := "expected", desc := "(C)Z", sig := { parameters := [.char], returnType := some .boolean }, accessFlags := 10, code := some k1c1 }
def k1c2 : Code := { maxStack := 2, maxLocals := 2, code := code, exceptionTable := #[], attributes := #[] }
def k1m2 : Method := { name := "law", desc := "(I)Z", sig := { parameters := [.int], returnType := some .boolean }, accessFlags := 9, code := some k1c2 }
/-- com/example/settlewire/settlewire/fin/FinIsSetXPinLaw -/
def k1 : Class := { plain "com/example/settlewire/settlewire/fin/FinIsSetXPinLaw" (some 0) with
  accessFlags := 49
  interfaces := #[]
  cf := some (fileOf pool1 15 #[] #[{ accessFlags := 2, nameIndex := 5, descriptorIndex := 6, attributes := #[] }, { accessFlags := 10, nameIndex := 18, descriptorIndex := 13, attributes := #[] }, { accessFlags := 9, nameIndex := 22, descriptorIndex := 23, attributes := #[] }] 49 2 #[] #[])
  fields := #[]
  methods := #[k1m0, k1m1, k1m2]
  instanceTypes := #[]
  staticTypes := #[]
  resolved := Array.replicate 26 none
  statics := none }

def pool2 : Array CpInfo := pool [(3, .class_ 4), (0, u "com/example/settlewire/settlewire/fin/Fin"), (13, .class_ 20), (1, u "java/lang/Object"), (0, u "<init>"), (0, u "()V"), (2, u "BIC"), (0, u "Lcom/example/settlewire/settlewire/fin/LineFormat;"), (17, u "FORINTS"), (0, u "Ljava/util/regex/Pattern;"), (42, u "isSetX"), (0, u "(C)Z"), (0, .fieldref 3 91), (0, .nameAndType 92 93), (0, u "IN_SET_X"), (0, u "[Z"), (27, u "PRIORITY"), (7, u "DATE_TIME"), (0, u "Ljava/time/format/DateTimeFormatter;"), (37, u "Ljava/nio/charset/Charset;"), (2, u "CHARSET"), (20, u "DATE"), (4, u "TIME"), (10, u "LONGEST_REFERENCE"), (0, u "Ljava/lang/String;"), (9, u "UTC_OFFSET"), (3, u "CRLF"), (2, u "TEXT_END"), (2, u "MAX_TEXT"), (0, u "I"), (1, u "MAX_AMOUNT"), (1, u "AMOUNT_FORMAT"), (2, u "SERVICE_CODE"), (2, u "MAX_REFERENCE"), (1, u "REFERENCE_FORMAT"), (2, u "SET_X"), (0, u "REFERENCE_RULE"), (2, u "BIC_FORMAT"), (0, u "TERMINAL"), (0, u "C")] 43

def k2m0 : Method := { name := "<init>", desc := "()V", sig := { parameters := [], returnType := none }, accessFlags := 2, code := none }
def k2c1 : Code := { maxStack := 2, maxLocals := 1, code := prog_46_method_9_code, exceptionTable := #[], attributes := #[] }
def k2m1 : Method := { name := "isSetX", desc := "(C)Z", sig := { parameters := [.char], returnType := some .boolean }, accessFlags := 8, code := some k2c1 }
/-- com/example/settlewire/settlewire/fin/Fin -/
def k2 : Class := { plain "com/example/settlewire/settlewire/fin/Fin" (some 0) with
  accessFlags := 49
  interfaces := #[]
  cf := some (fileOf pool2 3 #[] #[{ accessFlags := 2, nameIndex := 21, descriptorIndex := 22, attributes := #[] }, { accessFlags := 8, nameIndex := 88, descriptorIndex := 89, attributes := #[] }] 49 18 #[] #[{ accessFlags := 25, nameIndex := 171, descriptorIndex := 168, attributes := #[] }, { accessFlags := 25, nameIndex := 192, descriptorIndex := 130, attributes := #[] }, { accessFlags := 24, nameIndex := 197, descriptorIndex := 130, attributes := #[] }, { accessFlags := 24, nameIndex := 129, descriptorIndex := 130, attributes := #[] }, { accessFlags := 26, nameIndex := 219, descriptorIndex := 209, attributes := #[] }, { accessFlags := 24, nameIndex := 223, descriptorIndex := 209, attributes := #[] }, { accessFlags := 25, nameIndex := 226, descriptorIndex := 209, attributes := #[] }, { accessFlags := 24, nameIndex := 229, descriptorIndex := 230, attributes := #[] }, { accessFlags := 24, nameIndex := 232, descriptorIndex := 230, attributes := #[] }, { accessFlags := 24, nameIndex := 234, descriptorIndex := 209, attributes := #[] }, { accessFlags := 26, nameIndex := 44, descriptorIndex := 45, attributes := #[] }, { accessFlags := 26, nameIndex := 121, descriptorIndex := 45, attributes := #[] }, { accessFlags := 25, nameIndex := 237, descriptorIndex := 209, attributes := #[] }, { accessFlags := 26, nameIndex := 240, descriptorIndex := 230, attributes := #[] }, { accessFlags := 24, nameIndex := 242, descriptorIndex := 209, attributes := #[] }, { accessFlags := 24, nameIndex := 208, descriptorIndex := 209, attributes := #[] }, { accessFlags := 24, nameIndex := 245, descriptorIndex := 209, attributes := #[] }, { accessFlags := 26, nameIndex := 92, descriptorIndex := 93, attributes := #[] }, { accessFlags := 25, nameIndex := 246, descriptorIndex := 209, attributes := #[] }, { accessFlags := 24, nameIndex := 249, descriptorIndex := 209, attributes := #[] }, { accessFlags := 26, nameIndex := 25, descriptorIndex := 26, attributes := #[] }, { accessFlags := 26, nameIndex := 250, descriptorIndex := 251, attributes := #[] }])
  fields := #[{ name := "CHARSET", type := (.object "java/nio/charset/Charset"), accessFlags := 25, slot := 0, constantValue := 0 }, { name := "DATE", type := (.object "java/time/format/DateTimeFormatter"), accessFlags := 25, slot := 1, constantValue := 0 }, { name := "TIME", type := (.object "java/time/format/DateTimeFormatter"), accessFlags := 24, slot := 2, constantValue := 0 }, { name := "DATE_TIME", type := (.object "java/time/format/DateTimeFormatter"), accessFlags := 24, slot := 3, constantValue := 0 }, { name := "UTC_OFFSET", type := (.object "java/lang/String"), accessFlags := 26, slot := 4, constantValue := 0 }, { name := "CRLF", type := (.object "java/lang/String"), accessFlags := 24, slot := 5, constantValue := 0 }, { name := "TEXT_END", type := (.object "java/lang/String"), accessFlags := 25, slot := 6, constantValue := 0 }, { name := "MAX_TEXT", type := .int, accessFlags := 24, slot := 7, constantValue := 0 }, { name := "MAX_AMOUNT", type := .int, accessFlags := 24, slot := 8, constantValue := 0 }, { name := "AMOUNT_FORMAT", type := (.object "java/lang/String"), accessFlags := 24, slot := 9, constantValue := 0 }, { name := "FORINTS", type := (.object "java/util/regex/Pattern"), accessFlags := 26, slot := 10, constantValue := 0 }, { name := "PRIORITY", type := (.object "java/util/regex/Pattern"), accessFlags := 26, slot := 11, constantValue := 0 }, { name := "SERVICE_CODE", type := (.object "java/lang/String"), accessFlags := 25, slot := 12, constantValue := 0 }, { name := "MAX_REFERENCE", type := .int, accessFlags := 26, slot := 13, constantValue := 0 }, { name := "REFERENCE_FORMAT", type := (.object "java/lang/String"), accessFlags := 24, slot := 14, constantValue := 0 }, { name := "LONGEST_REFERENCE", type := (.object "java/lang/String"), accessFlags := 24, slot := 15, constantValue := 0 }, { name := "SET_X", type := (.object "java/lang/String"), accessFlags := 24, slot := 16, constantValue := 0 }, { name := "IN_SET_X", type := (.array .boolean), accessFlags := 26, slot := 17, constantValue := 0 }, { name := "REFERENCE_RULE", type := (.object "java/lang/String"), accessFlags := 25, slot := 18, constantValue := 0 }, { name := "BIC_FORMAT", type := (.object "java/lang/String"), accessFlags := 24, slot := 19, constantValue := 0 }, { name := "BIC", type := (.object "com/example/settlewire/settlewire/fin/LineFormat"), accessFlags := 26, slot := 20, constantValue := 0 }, { name := "TERMINAL", type := .char, accessFlags := 26, slot := 21, constantValue := 0 }]
  methods := #[k2m0, k2m1]
  instanceTypes := #[]
  staticTypes := #[(.object "java/nio/charset/Charset"), (.object "java/time/format/DateTimeFormatter"), (.object "java/time/format/DateTimeFormatter"), (.object "java/time/format/DateTimeFormatter"), (.object "java/lang/String"), (.object "java/lang/String"), (.object "java/lang/String"), .int, .int, (.object "java/lang/String"), (.object "java/util/regex/Pattern"), (.object "java/util/regex/Pattern"), (.object "java/lang/String"), .int, (.object "java/lang/String"), (.object "java/lang/String"), (.object "java/lang/String"), (.array .boolean), (.object "java/lang/String"), (.object "java/lang/String"), (.object "com/example/settlewire/settlewire/fin/LineFormat"), .char]
  resolved := Array.replicate 295 none
  statics := some 0 }

def pool3 : Array CpInfo := pool [(1, u "java/lang/Cloneable"), (0, .class_ 1), (0, u "java/lang/Object"), (0, .class_ 3)] 3

/-- java/lang/Cloneable -/
def k3 : Class := { plain "java/lang/Cloneable" (some 0) with
  accessFlags := 1537
  interfaces := #[]
  cf := some (fileOf pool3 2 #[] #[] 1537 4 #[] #[])
  fields := #[]
  methods := #[]
  instanceTypes := #[]
  staticTypes := #[]
  resolved := Array.replicate 8 none
  statics := none }

def pool4 : Array CpInfo := pool [(1, u "java/io/Serializable"), (0, .class_ 1), (0, u "java/lang/Object"), (0, .class_ 3)] 3

/-- java/io/Serializable -/
def k4 : Class := { plain "java/io/Serializable" (some 0) with
  accessFlags := 1537
  interfaces := #[]
  cf := some (fileOf pool4 2 #[] #[] 1537 4 #[] #[])
  fields := #[]
  methods := #[]
  instanceTypes := #[]
  staticTypes := #[]
  resolved := Array.replicate 8 none
  statics := none }

/-- the primitive boolean -/
def k5 : Class := { plain "boolean" none with kind := .primitive 'Z', accessFlags := 0x411 }
/-- [Z -/
def k6 : Class := { plain "[Z" (some 0) with kind := .array 5 .boolean, interfaces := #[3, 4], accessFlags := 1041 }

/-- the primitive byte -/
def k7 : Class := { plain "byte" none with kind := .primitive 'B', accessFlags := 0x411 }
/-- [B -/
def k8 : Class := { plain "[B" (some 0) with kind := .array 7 .byte, interfaces := #[3, 4], accessFlags := 1041 }

/-- the primitive int -/
def k9 : Class := { plain "int" none with kind := .primitive 'I', accessFlags := 0x411 }
/-- [I -/
def k10 : Class := { plain "[I" (some 0) with kind := .array 9 .int, interfaces := #[3, 4], accessFlags := 1041 }

def heap : Heap := #[{ cls := 2, slots := #[.null, .null, .null, .null, .null, .null, .null, .int 0, .int 0, .null, .null, .null, .null, .int 0, .null, .null, .null, .ref 1, .null, .null, .null, .int 0], vm := .statics 2 },
  { cls := 6, slots := #[.int 0, .int 0, .int 0, .int 0, .int 0, .int 0, .int 0, .int 0, .int 0, .int 0, .int 0, .int 0, .int 0, .int 0, .int 0, .int 0, .int 0, .int 0, .int 0, .int 0, .int 0, .int 0, .int 0, .int 0, .int 0, .int 0, .int 0, .int 0, .int 0, .int 0, .int 0, .int 0, .int 1, .int 0, .int 0, .int 0, .int 0, .int 0, .int 0, .int 1, .int 1, .int 1, .int 0, .int 1, .int 1, .int 1, .int 1, .int 1, .int 1, .int 1, .int 1, .int 1, .int 1, .int 1, .int 1, .int 1, .int 1, .int 1, .int 1, .int 0, .int 0, .int 0, .int 0, .int 1, .int 0, .int 1, .int 1, .int 1, .int 1, .int 1, .int 1, .int 1, .int 1, .int 1, .int 1, .int 1, .int 1, .int 1, .int 1, .int 1, .int 1, .int 1, .int 1, .int 1, .int 1, .int 1, .int 1, .int 1, .int 1, .int 1, .int 1, .int 0, .int 0, .int 0, .int 0, .int 0, .int 0, .int 1, .int 1, .int 1, .int 1, .int 1, .int 1, .int 1, .int 1, .int 1, .int 1, .int 1, .int 1, .int 1, .int 1, .int 1, .int 1, .int 1, .int 1, .int 1, .int 1, .int 1, .int 1, .int 1, .int 1, .int 1, .int 1, .int 0, .int 0, .int 0, .int 0, .int 0, .int 0, .int 0, .int 0, .int 0, .int 0, .int 0, .int 0, .int 0, .int 0, .int 0, .int 0, .int 0, .int 0, .int 0, .int 0, .int 0, .int 0, .int 0, .int 0, .int 0, .int 0, .int 0, .int 0, .int 0, .int 0, .int 0, .int 0, .int 0, .int 0, .int 0, .int 0, .int 0, .int 0, .int 0, .int 0, .int 0, .int 0, .int 0, .int 0, .int 0, .int 0, .int 0, .int 0, .int 0, .int 0, .int 0, .int 0, .int 0, .int 0, .int 0, .int 0, .int 0, .int 0, .int 0, .int 0, .int 0, .int 0, .int 0, .int 0, .int 0, .int 0, .int 0, .int 0, .int 0, .int 0, .int 0, .int 0, .int 0, .int 0, .int 0, .int 0, .int 0, .int 0, .int 0, .int 0, .int 0, .int 0, .int 0, .int 0, .int 0, .int 0, .int 0, .int 0, .int 0, .int 0, .int 0, .int 0, .int 0, .int 0, .int 0, .int 0, .int 0, .int 0, .int 0, .int 0, .int 0, .int 0, .int 0, .int 0, .int 0, .int 0, .int 0, .int 0, .int 0, .int 0, .int 0, .int 0, .int 0, .int 0, .int 0, .int 0, .int 0, .int 0, .int 0, .int 0, .int 0, .int 0, .int 0, .int 0, .int 0, .int 0, .int 0, .int 0, .int 0, .int 0, .int 0, .int 0, .int 0], vm := .none }]
def classes : Array Class := #[k0, k1, k2, k3, k4, k5, k6, k7, k8, k9, k10]
def interned : List (Array UInt16 × Addr) := []
def slotsUsed : Nat := 278
def theMethod : MethodId := ⟨1, 2⟩
def args0 : Array Value := #[.int 5]
def aboutOver (below : List Frame) : State where
  vm := { classes := classes, interned := interned.toArray }
  heap := heap
  slotsUsed := slotsUsed
  threads := #[{ frames := .invoking theMethod args0 :: below }]
def below0 : List Frame := [.native { method := ⟨0, 0⟩, args := #[] }]
def about1 : State := aboutOver below0
def p0 : Program := .bare "" "" ""
def e0 : Env := launch0.env 0 0 0
theorem w_frames : about1.frames = Frame.invoking theMethod args0 :: below0 := rfl
set_option maxRecDepth 65536 in
theorem w_args : argsFit about1.vm theMethod args0 = true := by decide +kernel
set_option maxRecDepth 65536 in
theorem w_heap : heapFits about1 = true := by decide +kernel
set_option maxRecDepth 65536 in
theorem w_runnable : about1.curStatus? = some .runnable := by decide +kernel
set_option maxRecDepth 65536 in
theorem w_alone : about1.alone = true := by decide +kernel
set_option maxRecDepth 65536 in
theorem w_named : about1.methodNamed? x = some theMethod := by decide +kernel
set_option maxRecDepth 65536 in
theorem w_hears : about1.hears theMethod below0 = true := by decide +kernel
set_option maxRecDepth 65536 in
theorem w_ripe : about1.ripe theMethod args0 below0 = true := by decide +kernel
theorem w_running : about1.status = .running := rfl
set_option maxRecDepth 65536 in
theorem w_room : about1.hasRoom e0.platform room_1 = true :=
  launch0.hasRoom_least _ room_1 (by decide +kernel) (by decide +kernel) (by decide +kernel) (by decide +kernel) (by decide +kernel) (by decide +kernel)
theorem allAtoms_all (ts : List Jvm.Cond) (a : Array Jvm.Value) (st : Jvm.State) : (allAtoms ts).before a st = ts.all (fun c => c.before a st) := by
  induction ts with
  | nil => rfl
  | cons c t ih =>
    show (Jvm.Cond.and c (allAtoms t)).before a st = _
    rw [Jvm.Cond.before_and, ih, List.all_cons]
def words1 : List Jvm.Cond := Jvm.Cond.code x code maxLocals ret :: tables_1
/-- a 'code' word, met by the world's own term for the bytes: nothing is compared byte by byte -/
theorem code_word {y : MethodName} {bytes : ByteArray} {mx : Nat} {rt : Option FieldType} {a : Array Value} {s : State} {m : MethodId} {meth : Method} {c : Code} (h1 : s.methodNamed? y = some m) (h2 : s.vm.method? m = some meth) (h3 : meth.code = some c) (h4 : c.code = bytes)
    (h5 : (c.maxLocals == mx && c.exceptionTable.isEmpty && decide (c.maxStack ≤ mostOperands) && decide (meth.sig.returnType = rt) && !meth.locks && decide (parseMethodDescriptor y.desc = some meth.sig)) = true) : (Jvm.Cond.code y bytes mx rt).before a s = true := by
  simp only [Bool.and_eq_true, beq_iff_eq, Bool.not_eq_true', decide_eq_true_eq] at h5
  obtain ⟨⟨⟨⟨⟨g1, g2⟩, g3⟩, g4⟩, g5⟩, g6⟩ := h5
  simp [Cond.before, Cond.holds, Cond.value, h1, h2, h3, h4, g1, g2, g3, g4, g5, g6]
def isCode : Jvm.Cond → Bool
  | .code _ _ _ _ => true
  | _ => false
theorem all_split {L : List Jvm.Cond} {P : Jvm.Cond → Bool} (h1 : L.all (fun c => isCode c || P c) = true) (h2 : ∀ c ∈ L.filter isCode, P c = true) : L.all P = true := by
  refine List.all_eq_true.mpr fun c hc => ?_
  have h := List.all_eq_true.mp h1 c hc
  rcases Bool.eq_false_or_eq_true (isCode c) with hi | hi
  · exact h2 c (List.mem_filter.mpr ⟨hc, hi⟩)
  · simpa [hi] using h
set_option maxRecDepth 65536 in
theorem w_c0 : (Jvm.Cond.code x code maxLocals ret).before args0 about1 = true := code_word (m := ⟨1, 2⟩) (meth := k1m2) (c := k1c2) (by decide +kernel) rfl rfl rfl (by decide +kernel)
set_option maxRecDepth 65536 in
theorem w_c1 : (Jvm.Cond.code ({ cls := "com/example/settlewire/settlewire/fin/Fin", name := "isSetX", desc := "(C)Z" } : Jvm.MethodName) prog_46_method_9_code (1 : Nat) (Option.some Jvm.ClassFile.FieldType.boolean)).before args0 about1 = true := code_word (m := ⟨2, 1⟩) (meth := k2m1) (c := k2c1) (by decide +kernel) rfl rfl rfl (by decide +kernel)
set_option maxRecDepth 65536 in
theorem w_c2 : (Jvm.Cond.code ({ cls := "com/example/settlewire/settlewire/fin/FinIsSetXPinLaw", name := "expected", desc := "(C)Z" } : Jvm.MethodName) method_2_code (1 : Nat) (Option.some Jvm.ClassFile.FieldType.boolean)).before args0 about1 = true := code_word (m := ⟨1, 1⟩) (meth := k1m1) (c := k1c1) (by decide +kernel) rfl rfl rfl (by decide +kernel)
def codes1 : List Jvm.Cond := [Jvm.Cond.code x code maxLocals ret, Jvm.Cond.code ({ cls := "com/example/settlewire/settlewire/fin/Fin", name := "isSetX", desc := "(C)Z" } : Jvm.MethodName) prog_46_method_9_code (1 : Nat) (Option.some Jvm.ClassFile.FieldType.boolean), Jvm.Cond.code ({ cls := "com/example/settlewire/settlewire/fin/FinIsSetXPinLaw", name := "expected", desc := "(C)Z" } : Jvm.MethodName) method_2_code (1 : Nat) (Option.some Jvm.ClassFile.FieldType.boolean)]
set_option maxRecDepth 65536 in
theorem codes_eq : words1.filter isCode = codes1 := rfl
theorem w_codes : ∀ c ∈ words1.filter isCode, c.before args0 about1 = true := by
  rw [codes_eq]
  intro c hc
  simp only [codes1, List.mem_cons, List.not_mem_nil, or_false] at hc
  rcases hc with rfl | rfl | rfl
  · exact w_c0
  · exact w_c1
  · exact w_c2
set_option maxRecDepth 65536 in
theorem w_t1 : words1.all (fun c => isCode c || c.before args0 about1) = true := by decide +kernel
theorem w_tables : (allAtoms (Jvm.Cond.code x code maxLocals ret :: tables_1)).before args0 about1 = true := by
  rw [allAtoms_all]
  show words1.all (fun c => c.before args0 about1) = true
  refine all_split ?_ w_codes
  rw [w_t1]
set_option maxRecDepth 65536 in
theorem w_case : (Jvm.Cond.and given_1 narrow_1).before args0 about1 = true := by decide +kernel
theorem w_applies : (headSpec (Jvm.Cond.code x code maxLocals ret :: tables_1) room_1).applies x e0.platform about1 = true :=
  (Spec.applies_iff w_frames).mpr ⟨w_running, w_runnable, w_alone, w_named, w_hears, w_ripe, w_room, w_tables⟩
theorem atStart : AtStart classFile x code maxLocals ret World_1 tables_1 room_1 Calls_1 rest_1 Pre_1 launch0 p0 e0 about1 theMethod args0 below0 :=
  ⟨lists_1, trivial, launch0.admits_env _ _ _, launch0.least_env, fairChoices_fair.cas, fairChoices_fair.clock, w_frames, w_args, w_heap, w_applies, trivial, trivial, w_case⟩
end start1
theorem witness_1 : WitnessClaimed_1 := ⟨start1.p0, start1.e0, start1.about1, start1.theMethod, start1.args0, start1.below0, start1.atStart⟩
end Jvm.Pilot.@@N@@
