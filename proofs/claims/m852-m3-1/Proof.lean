import JvmDerived
import JvmDerived.Pilot.@@N@@Statement
import JvmDerived.Pilot.@@N@@Code
set_option linter.unusedVariables false
set_option linter.unusedSimpArgs false
namespace Jvm.RoadKit
open Sem ClassFile Op Lib Jvm.Stand Jvm.Free Jvm.LawKit
section New
variable {p : Program} {l : Launch} {e : Env} {R : Room} {s : State} {m : MethodId} {args : Array Value} {below : List Frame} {meth : Method} {c : Code} {T : State} {locs : List Loc} {cells slots : Nat}
theorem retI (X : Stand p l e R s m args below meth c T locs cells slots) (hx : p.tables.exec = Jvm.exec) {pc : Nat} {Ls : Array Slot} {z : Int32} {rest : List Value} (hret : meth.sig.returnType = some .int) (hd : decode c.code pc = .ok (.ireturn, 1)) {fs : List Frame}
    (hl : ∀ (f : JFrame) (acts : List Action), f.method = m → f.locked = none → f.entered = [] → (doReturn e (T.setTop f) acts (some (.int z))).1 = T.setFrames fs) : Steps p.tables e below (T.setTop (mkF m pc Ls (.int z :: rest))) (T.setFrames fs) := by
  have hm' : T.vm.method? m = some meth := X.method'
  have hn : narrow .int (.int z) = .int z := rfl
  show Steps p.tables e below (T.setTop { method := m, pc := pc, locals := Ls, stack := _ :: rest, locked := none }) _
  jvm_step X.here [X.here.top, hx, hd, hm', hret, hn]
  first | (intro acts; rw [hl _ acts rfl rfl rfl]) | rw [hl _ _ rfl rfl rfl]
  exact Steps.refl _
theorem eqv_r {Z : State} {args : Array Value} {X F : Term} {idx : List Nat} {y : Addr} (hF : F.eval args Z none idx Z = some (.ref y)) (h : (Cond.eq X F).value args Z none Z idx = some true) : X.eval args Z none idx Z = some (.ref y) := by
  obtain ⟨x, y', e1, e2, k1, k2⟩ := cmp_v (Or.inl h)
  cases hF.symm.trans e2
  have hx : x.isRef = true := k2.2
  have q : x = .ref y := gotT (eq_R e1 hF hx rfl) h
  rw [e1, q]
end New
end Jvm.RoadKit
namespace Jvm.Pilot.@@N@@
open Jvm Jvm.ClassFile Sem Op Lib Jvm.Free Jvm.Stand Jvm.LawKit Jvm.RoadKit Bundle Jvm.Pilot.@@N@@.Jvm.D
theorem own_eT {Z T : State} {h : Heap} {a : Addr} {c : Cell} {ty : FieldType} (e : T.heap = h) (A : Arr Z h a c ty) : T.heap[a]? = some c := by rw [e]; exact A.1
def Go (p : Program) (e : Env) (below : List Frame) (Qf : Outcome → State → Prop) (W : State) : Prop := ∃ s₂ o, Steps p.tables e below W s₂ ∧ s₂.status = .running ∧ Ended s₂ below o ∧ Qf o s₂
theorem Go.st {p : Program} {e : Env} {below : List Frame} {Qf : Outcome → State → Prop} {W V' : State} (h : ∀ t, Steps p.tables e below V' t → Steps p.tables e below W t) (g : Go p e below Qf V') : Go p e below Qf W := by
  obtain ⟨s₂, o, g1, g2⟩ := g
  exact ⟨s₂, o, h _ g1, g2⟩
theorem Go.out {p : Program} {e : Env} {below : List Frame} {Qf : Outcome → State → Prop} {W : State} (g : Go p e below Qf W) : ∃ s₂ o, Steps p.tables e below W s₂ ∧ s₂.status = .running ∧ Ended s₂ below o ∧ Qf o s₂ := g
theorem Go.mk' {p : Program} {e : Env} {below : List Frame} {Qf : Outcome → State → Prop} {W : State} (g : ∃ s₂ o, Steps p.tables e below W s₂ ∧ s₂.status = .running ∧ Ended s₂ below o ∧ Qf o s₂) : Go p e below Qf W := g
theorem own_rng (x d : Int32) (D : Int) (hd : d.toInt = D) (h0 : 0 < D) : 0 ≤ ((x &&& (2147483647 : Int32)) % d).toInt ∧ ((x &&& (2147483647 : Int32)) % d).toInt < D := by
  have a := c_and x 2147483647 (by decide)
  have b := (c_irem (x &&& 2147483647) d D hd).1 a.1
  rw [b]
  exact ⟨Int.emod_nonneg _ (by omega), Int.emod_lt_of_pos _ h0⟩
theorem own_cases19 {k : Int32} (h : 0 ≤ k.toInt ∧ k.toInt < 19) : k = (0 : Int32) ∨ k = (1 : Int32) ∨ k = (2 : Int32) ∨ k = (3 : Int32) ∨ k = (4 : Int32) ∨ k = (5 : Int32) ∨ k = (6 : Int32) ∨ k = (7 : Int32) ∨ k = (8 : Int32) ∨ k = (9 : Int32) ∨ k = (10 : Int32) ∨ k = (11 : Int32) ∨ k = (12 : Int32) ∨ k = (13 : Int32) ∨ k = (14 : Int32) ∨ k = (15 : Int32) ∨ k = (16 : Int32) ∨ k = (17 : Int32) ∨ k = (18 : Int32) := by
  have e : ∀ n : Int32, k.toInt = n.toInt → k = n := fun n h => Int32.toInt_inj.mp h
  have q : k.toInt = 0 ∨ k.toInt = 1 ∨ k.toInt = 2 ∨ k.toInt = 3 ∨ k.toInt = 4 ∨ k.toInt = 5 ∨ k.toInt = 6 ∨ k.toInt = 7 ∨ k.toInt = 8 ∨ k.toInt = 9 ∨ k.toInt = 10 ∨ k.toInt = 11 ∨ k.toInt = 12 ∨ k.toInt = 13 ∨ k.toInt = 14 ∨ k.toInt = 15 ∨ k.toInt = 16 ∨ k.toInt = 17 ∨ k.toInt = 18 := by omega
  rcases q with q | q | q | q | q | q | q | q | q | q | q | q | q | q | q | q | q | q | q
  · exact Or.inl (e 0 (q.trans (by decide)))
  · exact Or.inr (Or.inl (e 1 (q.trans (by decide))))
  · exact Or.inr (Or.inr (Or.inl (e 2 (q.trans (by decide)))))
  · exact Or.inr (Or.inr (Or.inr (Or.inl (e 3 (q.trans (by decide))))))
  · exact Or.inr (Or.inr (Or.inr (Or.inr (Or.inl (e 4 (q.trans (by decide)))))))
  · exact Or.inr (Or.inr (Or.inr (Or.inr (Or.inr (Or.inl (e 5 (q.trans (by decide))))))))
  · exact Or.inr (Or.inr (Or.inr (Or.inr (Or.inr (Or.inr (Or.inl (e 6 (q.trans (by decide)))))))))
  · exact Or.inr (Or.inr (Or.inr (Or.inr (Or.inr (Or.inr (Or.inr (Or.inl (e 7 (q.trans (by decide))))))))))
  · exact Or.inr (Or.inr (Or.inr (Or.inr (Or.inr (Or.inr (Or.inr (Or.inr (Or.inl (e 8 (q.trans (by decide)))))))))))
  · exact Or.inr (Or.inr (Or.inr (Or.inr (Or.inr (Or.inr (Or.inr (Or.inr (Or.inr (Or.inl (e 9 (q.trans (by decide))))))))))))
  · exact Or.inr (Or.inr (Or.inr (Or.inr (Or.inr (Or.inr (Or.inr (Or.inr (Or.inr (Or.inr (Or.inl (e 10 (q.trans (by decide)))))))))))))
  · exact Or.inr (Or.inr (Or.inr (Or.inr (Or.inr (Or.inr (Or.inr (Or.inr (Or.inr (Or.inr (Or.inr (Or.inl (e 11 (q.trans (by decide))))))))))))))
  · exact Or.inr (Or.inr (Or.inr (Or.inr (Or.inr (Or.inr (Or.inr (Or.inr (Or.inr (Or.inr (Or.inr (Or.inr (Or.inl (e 12 (q.trans (by decide)))))))))))))))
  · exact Or.inr (Or.inr (Or.inr (Or.inr (Or.inr (Or.inr (Or.inr (Or.inr (Or.inr (Or.inr (Or.inr (Or.inr (Or.inr (Or.inl (e 13 (q.trans (by decide))))))))))))))))
  · exact Or.inr (Or.inr (Or.inr (Or.inr (Or.inr (Or.inr (Or.inr (Or.inr (Or.inr (Or.inr (Or.inr (Or.inr (Or.inr (Or.inr (Or.inl (e 14 (q.trans (by decide)))))))))))))))))
  · exact Or.inr (Or.inr (Or.inr (Or.inr (Or.inr (Or.inr (Or.inr (Or.inr (Or.inr (Or.inr (Or.inr (Or.inr (Or.inr (Or.inr (Or.inr (Or.inl (e 15 (q.trans (by decide))))))))))))))))))
  · exact Or.inr (Or.inr (Or.inr (Or.inr (Or.inr (Or.inr (Or.inr (Or.inr (Or.inr (Or.inr (Or.inr (Or.inr (Or.inr (Or.inr (Or.inr (Or.inr (Or.inl (e 16 (q.trans (by decide)))))))))))))))))))
  · exact Or.inr (Or.inr (Or.inr (Or.inr (Or.inr (Or.inr (Or.inr (Or.inr (Or.inr (Or.inr (Or.inr (Or.inr (Or.inr (Or.inr (Or.inr (Or.inr (Or.inr (Or.inl (e 17 (q.trans (by decide))))))))))))))))))))
  · exact Or.inr (Or.inr (Or.inr (Or.inr (Or.inr (Or.inr (Or.inr (Or.inr (Or.inr (Or.inr (Or.inr (Or.inr (Or.inr (Or.inr (Or.inr (Or.inr (Or.inr (Or.inr (e 18 (q.trans (by decide))))))))))))))))))))
def W0 (Z : State) (s_OTHER : Addr) (s_CR : Addr) (s_LF : Addr) (s_NEWLINE : Addr) (s_EXTEND : Addr) (s_FORMAT : Addr) (s_ZWJ : Addr) (s_ALETTER : Addr) (s_HEBREW_LETTER : Addr) (s_NUMERIC : Addr) (s_KATAKANA : Addr) (s_EXTEND_NUM_LET : Addr) (s_MID_LETTER : Addr) (s_MID_NUM : Addr) (s_MID_NUM_LET : Addr) (s_SINGLE_QUOTE : Addr) (s_DOUBLE_QUOTE : Addr) (s_REGIONAL_INDICATOR : Addr) (s_WSEG_SPACE : Addr) : Prop :=
  (Exa Z Z.heap s_OTHER "com/example/hits_from_terms/hitsfromterms/analysis/WordBreak") ∧
  (Sta Z Z.heap "com/example/hits_from_terms/hitsfromterms/analysis/WordBreak" "OTHER" "Lcom/example/hits_from_terms/hitsfromterms/analysis/WordBreak;" (.ref s_OTHER)) ∧
  (Exa Z Z.heap s_CR "com/example/hits_from_terms/hitsfromterms/analysis/WordBreak") ∧
  (Sta Z Z.heap "com/example/hits_from_terms/hitsfromterms/analysis/WordBreak" "CR" "Lcom/example/hits_from_terms/hitsfromterms/analysis/WordBreak;" (.ref s_CR)) ∧
  (Exa Z Z.heap s_LF "com/example/hits_from_terms/hitsfromterms/analysis/WordBreak") ∧
  (Sta Z Z.heap "com/example/hits_from_terms/hitsfromterms/analysis/WordBreak" "LF" "Lcom/example/hits_from_terms/hitsfromterms/analysis/WordBreak;" (.ref s_LF)) ∧
  (Exa Z Z.heap s_NEWLINE "com/example/hits_from_terms/hitsfromterms/analysis/WordBreak") ∧
  (Sta Z Z.heap "com/example/hits_from_terms/hitsfromterms/analysis/WordBreak" "NEWLINE" "Lcom/example/hits_from_terms/hitsfromterms/analysis/WordBreak;" (.ref s_NEWLINE)) ∧
  (Exa Z Z.heap s_EXTEND "com/example/hits_from_terms/hitsfromterms/analysis/WordBreak") ∧
  (Sta Z Z.heap "com/example/hits_from_terms/hitsfromterms/analysis/WordBreak" "EXTEND" "Lcom/example/hits_from_terms/hitsfromterms/analysis/WordBreak;" (.ref s_EXTEND)) ∧
  (Exa Z Z.heap s_FORMAT "com/example/hits_from_terms/hitsfromterms/analysis/WordBreak") ∧
  (Sta Z Z.heap "com/example/hits_from_terms/hitsfromterms/analysis/WordBreak" "FORMAT" "Lcom/example/hits_from_terms/hitsfromterms/analysis/WordBreak;" (.ref s_FORMAT)) ∧
  (Exa Z Z.heap s_ZWJ "com/example/hits_from_terms/hitsfromterms/analysis/WordBreak") ∧
  (Sta Z Z.heap "com/example/hits_from_terms/hitsfromterms/analysis/WordBreak" "ZWJ" "Lcom/example/hits_from_terms/hitsfromterms/analysis/WordBreak;" (.ref s_ZWJ)) ∧
  (Exa Z Z.heap s_ALETTER "com/example/hits_from_terms/hitsfromterms/analysis/WordBreak") ∧
  (Sta Z Z.heap "com/example/hits_from_terms/hitsfromterms/analysis/WordBreak" "ALETTER" "Lcom/example/hits_from_terms/hitsfromterms/analysis/WordBreak;" (.ref s_ALETTER)) ∧
  (Exa Z Z.heap s_HEBREW_LETTER "com/example/hits_from_terms/hitsfromterms/analysis/WordBreak") ∧
  (Sta Z Z.heap "com/example/hits_from_terms/hitsfromterms/analysis/WordBreak" "HEBREW_LETTER" "Lcom/example/hits_from_terms/hitsfromterms/analysis/WordBreak;" (.ref s_HEBREW_LETTER)) ∧
  (Exa Z Z.heap s_NUMERIC "com/example/hits_from_terms/hitsfromterms/analysis/WordBreak") ∧
  (Sta Z Z.heap "com/example/hits_from_terms/hitsfromterms/analysis/WordBreak" "NUMERIC" "Lcom/example/hits_from_terms/hitsfromterms/analysis/WordBreak;" (.ref s_NUMERIC)) ∧
  (Exa Z Z.heap s_KATAKANA "com/example/hits_from_terms/hitsfromterms/analysis/WordBreak") ∧
  (Sta Z Z.heap "com/example/hits_from_terms/hitsfromterms/analysis/WordBreak" "KATAKANA" "Lcom/example/hits_from_terms/hitsfromterms/analysis/WordBreak;" (.ref s_KATAKANA)) ∧
  (Exa Z Z.heap s_EXTEND_NUM_LET "com/example/hits_from_terms/hitsfromterms/analysis/WordBreak") ∧
  (Sta Z Z.heap "com/example/hits_from_terms/hitsfromterms/analysis/WordBreak" "EXTEND_NUM_LET" "Lcom/example/hits_from_terms/hitsfromterms/analysis/WordBreak;" (.ref s_EXTEND_NUM_LET)) ∧
  (Exa Z Z.heap s_MID_LETTER "com/example/hits_from_terms/hitsfromterms/analysis/WordBreak") ∧
  (Sta Z Z.heap "com/example/hits_from_terms/hitsfromterms/analysis/WordBreak" "MID_LETTER" "Lcom/example/hits_from_terms/hitsfromterms/analysis/WordBreak;" (.ref s_MID_LETTER)) ∧
  (Exa Z Z.heap s_MID_NUM "com/example/hits_from_terms/hitsfromterms/analysis/WordBreak") ∧
  (Sta Z Z.heap "com/example/hits_from_terms/hitsfromterms/analysis/WordBreak" "MID_NUM" "Lcom/example/hits_from_terms/hitsfromterms/analysis/WordBreak;" (.ref s_MID_NUM)) ∧
  (Exa Z Z.heap s_MID_NUM_LET "com/example/hits_from_terms/hitsfromterms/analysis/WordBreak") ∧
  (Sta Z Z.heap "com/example/hits_from_terms/hitsfromterms/analysis/WordBreak" "MID_NUM_LET" "Lcom/example/hits_from_terms/hitsfromterms/analysis/WordBreak;" (.ref s_MID_NUM_LET)) ∧
  (Exa Z Z.heap s_SINGLE_QUOTE "com/example/hits_from_terms/hitsfromterms/analysis/WordBreak") ∧
  (Sta Z Z.heap "com/example/hits_from_terms/hitsfromterms/analysis/WordBreak" "SINGLE_QUOTE" "Lcom/example/hits_from_terms/hitsfromterms/analysis/WordBreak;" (.ref s_SINGLE_QUOTE)) ∧
  (Exa Z Z.heap s_DOUBLE_QUOTE "com/example/hits_from_terms/hitsfromterms/analysis/WordBreak") ∧
  (Sta Z Z.heap "com/example/hits_from_terms/hitsfromterms/analysis/WordBreak" "DOUBLE_QUOTE" "Lcom/example/hits_from_terms/hitsfromterms/analysis/WordBreak;" (.ref s_DOUBLE_QUOTE)) ∧
  (Exa Z Z.heap s_REGIONAL_INDICATOR "com/example/hits_from_terms/hitsfromterms/analysis/WordBreak") ∧
  (Sta Z Z.heap "com/example/hits_from_terms/hitsfromterms/analysis/WordBreak" "REGIONAL_INDICATOR" "Lcom/example/hits_from_terms/hitsfromterms/analysis/WordBreak;" (.ref s_REGIONAL_INDICATOR)) ∧
  (Exa Z Z.heap s_WSEG_SPACE "com/example/hits_from_terms/hitsfromterms/analysis/WordBreak") ∧
  (Sta Z Z.heap "com/example/hits_from_terms/hitsfromterms/analysis/WordBreak" "WSEG_SPACE" "Lcom/example/hits_from_terms/hitsfromterms/analysis/WordBreak;" (.ref s_WSEG_SPACE)) ∧
  (Fld Z Z.heap s_OTHER "java/lang/Enum" "ordinal" "I" (.int (0 : Int32))) ∧
  (Fld Z Z.heap s_MID_LETTER "java/lang/Enum" "ordinal" "I" (.int (12 : Int32))) ∧
  (Fld Z Z.heap s_MID_NUM_LET "java/lang/Enum" "ordinal" "I" (.int (14 : Int32))) ∧
  (Fld Z Z.heap s_SINGLE_QUOTE "java/lang/Enum" "ordinal" "I" (.int (15 : Int32))) ∧
  (Fld Z Z.heap s_NEWLINE "java/lang/Enum" "ordinal" "I" (.int (3 : Int32))) ∧
  (Fld Z Z.heap s_FORMAT "java/lang/Enum" "ordinal" "I" (.int (5 : Int32))) ∧
  (Fld Z Z.heap s_REGIONAL_INDICATOR "java/lang/Enum" "ordinal" "I" (.int (17 : Int32))) ∧
  (Fld Z Z.heap s_ALETTER "java/lang/Enum" "ordinal" "I" (.int (7 : Int32))) ∧
  (Fld Z Z.heap s_LF "java/lang/Enum" "ordinal" "I" (.int (2 : Int32))) ∧
  (Fld Z Z.heap s_EXTEND_NUM_LET "java/lang/Enum" "ordinal" "I" (.int (11 : Int32))) ∧
  (Fld Z Z.heap s_KATAKANA "java/lang/Enum" "ordinal" "I" (.int (10 : Int32))) ∧
  (Fld Z Z.heap s_HEBREW_LETTER "java/lang/Enum" "ordinal" "I" (.int (8 : Int32))) ∧
  (Fld Z Z.heap s_CR "java/lang/Enum" "ordinal" "I" (.int (1 : Int32))) ∧
  (Fld Z Z.heap s_WSEG_SPACE "java/lang/Enum" "ordinal" "I" (.int (18 : Int32))) ∧
  (Fld Z Z.heap s_ZWJ "java/lang/Enum" "ordinal" "I" (.int (6 : Int32))) ∧
  (Fld Z Z.heap s_DOUBLE_QUOTE "java/lang/Enum" "ordinal" "I" (.int (16 : Int32))) ∧
  (Fld Z Z.heap s_EXTEND "java/lang/Enum" "ordinal" "I" (.int (4 : Int32))) ∧
  (Fld Z Z.heap s_NUMERIC "java/lang/Enum" "ordinal" "I" (.int (9 : Int32))) ∧
  (Fld Z Z.heap s_MID_NUM "java/lang/Enum" "ordinal" "I" (.int (13 : Int32)))
theorem own_d1_0 : decode prog_18_method_9_code 0 = .ok (.aload_n 0, 1) := by decide +kernel
theorem own_d1_1 : decode prog_18_method_9_code 1 = .ok (.getstatic 40, 3) := by decide +kernel
theorem own_d1_4 : decode prog_18_method_9_code 4 = .ok (.if_acmp .eq 17, 3) := by decide +kernel
theorem own_d1_21 : decode prog_18_method_9_code 21 = .ok (.iconst 1, 1) := by decide +kernel
theorem own_d1_22 : decode prog_18_method_9_code 22 = .ok (.goto 4, 3) := by decide +kernel
theorem own_d1_26 : decode prog_18_method_9_code 26 = .ok (.ireturn, 1) := by decide +kernel
theorem own_d1_7 : decode prog_18_method_9_code 7 = .ok (.aload_n 0, 1) := by decide +kernel
theorem own_d1_8 : decode prog_18_method_9_code 8 = .ok (.getstatic 46, 3) := by decide +kernel
theorem own_d1_11 : decode prog_18_method_9_code 11 = .ok (.if_acmp .eq 10, 3) := by decide +kernel
theorem own_d1_14 : decode prog_18_method_9_code 14 = .ok (.aload_n 0, 1) := by decide +kernel
theorem own_d1_15 : decode prog_18_method_9_code 15 = .ok (.getstatic 49, 3) := by decide +kernel
theorem own_d1_18 : decode prog_18_method_9_code 18 = .ok (.if_acmp .ne 7, 3) := by decide +kernel
theorem own_d1_25 : decode prog_18_method_9_code 25 = .ok (.iconst 0, 1) := by decide +kernel
theorem own_pn0 : plainName "com/example/hits_from_terms/hitsfromterms/analysis/WordBreak" = true := by first | (simp [plainName, overriddenIn]; done) | decide +kernel
theorem ef1 (m : MethodId) (r0 : Addr) : entryFrame m #[(.ref r0)] 1 = mkF m 0 #[.val (.ref r0)] [] := by first | (simp [entryFrame, mkF, argsToLocals, Value.category]; done) | rfl
def f1 (s_MID_LETTER : Addr) (s_MID_NUM_LET : Addr) (s_SINGLE_QUOTE : Addr) (r0 : Addr) : Int32 := (if r0 = s_MID_LETTER then (1 : Int32) else (if r0 = s_MID_NUM_LET then (1 : Int32) else (if r0 = s_SINGLE_QUOTE then (1 : Int32) else (0 : Int32))))
def Q1 (Z : State) (s_MID_LETTER : Addr) (s_MID_NUM_LET : Addr) (s_SINGLE_QUOTE : Addr) (r0 : Addr) (h0 : Heap) (n0 : Nat) (v : Option Value) (h : Heap) (L : List Loc) : Prop := v = some (.int (f1 s_MID_LETTER s_MID_NUM_LET s_SINGLE_QUOTE r0)) ∧ Fr n0 L ∧ h = h0
set_option maxRecDepth 65536 in
set_option maxHeartbeats 40000000 in
theorem rm1 (l : Launch) (Z : State) (a0 : Array Value) (hw : ∀ d ∈ tables_1, d.before a0 Z = true) (ws : List Jvm.Cond) (s_OTHER : Addr) (s_CR : Addr) (s_LF : Addr) (s_NEWLINE : Addr) (s_EXTEND : Addr) (s_FORMAT : Addr) (s_ZWJ : Addr) (s_ALETTER : Addr) (s_HEBREW_LETTER : Addr) (s_NUMERIC : Addr) (s_KATAKANA : Addr) (s_EXTEND_NUM_LET : Addr) (s_MID_LETTER : Addr) (s_MID_NUM : Addr) (s_MID_NUM_LET : Addr) (s_SINGLE_QUOTE : Addr) (s_DOUBLE_QUOTE : Addr) (s_REGIONAL_INDICATOR : Addr) (s_WSEG_SPACE : Addr) (HW : W0 Z s_OTHER s_CR s_LF s_NEWLINE s_EXTEND s_FORMAT s_ZWJ s_ALETTER s_HEBREW_LETTER s_NUMERIC s_KATAKANA s_EXTEND_NUM_LET s_MID_LETTER s_MID_NUM s_MID_NUM_LET s_SINGLE_QUOTE s_DOUBLE_QUOTE s_REGIONAL_INDICATOR s_WSEG_SPACE) (r0 : Addr) (h0 : Heap) (n0 : Nat) (O0 : Old Z n0 h0) :
    MetFree l (⟨"com/example/hits_from_terms/hitsfromterms/analysis/WordBreak", "isMidLetter", "()Z"⟩ : MethodName) (head1 (Jvm.Cond.code (⟨"com/example/hits_from_terms/hitsfromterms/analysis/WordBreak", "isMidLetter", "()Z"⟩ : MethodName) prog_18_method_9_code 1 (some .boolean) :: ws) ({ frames := 0, cells := 0, slots := 0, locals := 0 } : Room)) (fun a U => a = #[(.ref r0)] ∧ Z.Warmed39 U.vm ∧ U.heap = h0) (fun _ _ _ _ _ => True) (fun _ U o U' => ∃ v L, o = .returned v ∧ Q1 Z s_MID_LETTER s_MID_NUM_LET s_SINGLE_QUOTE r0 h0 n0 v U'.heap L ∧ FrameEnd U o U' L ({ frames := 0, cells := 0, slots := 0, locals := 0 } : Room).cells ({ frames := 0, cells := 0, slots := 0, locals := 0 } : Room).slots) := by
  refine MetFree.of_bodySF (plainFor_of_name own_pn0) hisR ?_
  intro p e s m args below meth c s₁ Bd hml0 hP hK
  obtain ⟨rfl, hZ, hh⟩ := hP
  obtain ⟨E_OTHER, S_OTHER, E_CR, S_CR, E_LF, S_LF, E_NEWLINE, S_NEWLINE, E_EXTEND, S_EXTEND, E_FORMAT, S_FORMAT, E_ZWJ, S_ZWJ, E_ALETTER, S_ALETTER, E_HEBREW_LETTER, S_HEBREW_LETTER, E_NUMERIC, S_NUMERIC, E_KATAKANA, S_KATAKANA, E_EXTEND_NUM_LET, S_EXTEND_NUM_LET, E_MID_LETTER, S_MID_LETTER, E_MID_NUM, S_MID_NUM, E_MID_NUM_LET, S_MID_NUM_LET, E_SINGLE_QUOTE, S_SINGLE_QUOTE, E_DOUBLE_QUOTE, S_DOUBLE_QUOTE, E_REGIONAL_INDICATOR, S_REGIONAL_INDICATOR, E_WSEG_SPACE, S_WSEG_SPACE, F_OTHER_ordinal, F_MID_LETTER_ordinal, F_MID_NUM_LET_ordinal, F_SINGLE_QUOTE_ordinal, F_NEWLINE_ordinal, F_FORMAT_ordinal, F_REGIONAL_INDICATOR_ordinal, F_ALETTER_ordinal, F_LF_ordinal, F_EXTEND_NUM_LET_ordinal, F_KATAKANA_ordinal, F_HEBREW_LETTER_ordinal, F_CR_ordinal, F_WSEG_SPACE_ordinal, F_ZWJ_ordinal, F_DOUBLE_QUOTE_ordinal, F_EXTEND_ordinal, F_NUMERIC_ordinal, F_MID_NUM_ordinal⟩ := id HW
  have hx := Bd.exec
  have hby := Bd.bytes
  have hml : c.maxLocals = 1 := hml0
  have hown : s.vm.findClass "com/example/hits_from_terms/hitsfromterms/analysis/WordBreak" = some m.cls := findClass_of_methodNamed Bd.named
  have hnm := (name_of_methodNamed Bd.named Bd.method).1
  have X0 : Stand p l e ({ frames := 0, cells := 0, slots := 0, locals := 0 } : Room) s m #[(.ref r0)] below meth c s₁ [] 0 0 := Stand.of_body Bd
  have e0 : s₁.heap = h0 := by rw [← hh, Bd.state]; rfl
  have N0 := Fr.nil n0
  have K0 := Keep.refl h0 []
  refine Go.out ?_
  refine Go.st (V' := s₁.setTop (mkF m 0 #[.val (.ref r0)] [])) (fun t k => castTop (ef1 m r0) k) ?_
  refine Go.st (V' := s₁.setTop (mkF m 1 #[.val (.ref r0)] [(.ref r0)])) (fun t k => ?_) ?_
  · refine XS.aloadN X0.here hx rfl (hb hby own_d1_0) rfl rfl ?_
    show Steps p.tables e below (s₁.setTop (mkF m 1 #[.val (.ref r0)] [(.ref r0)])) _
    exact k
  obtain ⟨T1, X1, e1, st1⟩ := getS2 X0 hx hZ hown (host := "") (Or.inl (hw _ (List.mem_of_getElem? (i := 48) rfl))) Via.refl e0 (S_MID_LETTER.ext O0.2) (g := (mkF m 1 #[.val (.ref r0)] [(.ref r0)])) rfl (hb hby own_d1_1)
  refine Go.st (V' := T1.setTop (mkF m 4 #[.val (.ref r0)] [(.ref s_MID_LETTER), (.ref r0)])) (fun t k => st1 t k) ?_
  by_cases hc2 : r0 = s_MID_LETTER
  · refine Go.st (V' := T1.setTop (mkF m 26 #[.val (.ref r0)] [(.int (1 : Int32))])) (fun t k => ?_) ?_
    · refine Jvm.RoadKit.acmp (g := (mkF m 4 #[.val (.ref r0)] [(.ref s_MID_LETTER), (.ref r0)])) X1 hx rfl rfl rfl (pc0 := 4) (pc' := 21) (same := true) rfl (hb hby own_d1_4) rfl (decide_eq_true (congrArg Value.ref hc2)) (by decide) (by decide) ?_
      show Steps p.tables e below (T1.setTop (mkF m 21 #[.val (.ref r0)] [])) _
      refine XS.iconst X1.here hx rfl (hb hby own_d1_21) ?_
      show Steps p.tables e below (T1.setTop (mkF m 22 #[.val (.ref r0)] [(.int (1 : Int32))])) _
      refine XS.goto X1.here hx rfl (pc0 := 22) (pc' := 26) rfl (hb hby own_d1_22) (by decide) (by decide) ?_
      show Steps p.tables e below (T1.setTop (mkF m 26 #[.val (.ref r0)] [(.int (1 : Int32))])) _
      exact k
    obtain ⟨fs, hr, hrun, hended, hW, hsame⟩ := X1.leave (v := some (.int (1 : Int32))) (fun h => by rw [Bd.returns] at h; cases h)
    refine Go.mk' ⟨_, _, retN X1 hx (t := .boolean) Bd.returns (by simp) (hb hby own_d1_26) hr, hrun, hended, _, _, rfl, ?_, ⟨_, rfl⟩, hW, hsame.mono (by decide) (by decide)⟩
    show Q1 Z s_MID_LETTER s_MID_NUM_LET s_SINGLE_QUOTE r0 h0 n0 _ T1.heap _
    rw [e1]
    exact ⟨(by rw [f1, if_pos hc2]), N0, rfl⟩
  · refine Go.st (V' := T1.setTop (mkF m 8 #[.val (.ref r0)] [(.ref r0)])) (fun t k => ?_) ?_
    · refine Jvm.RoadKit.acmp (g := (mkF m 4 #[.val (.ref r0)] [(.ref s_MID_LETTER), (.ref r0)])) X1 hx rfl rfl rfl (pc0 := 4) (pc' := 7) (same := false) rfl (hb hby own_d1_4) rfl (decide_eq_false fun q => hc2 (Value.ref.inj q)) (by decide) (by decide) ?_
      show Steps p.tables e below (T1.setTop (mkF m 7 #[.val (.ref r0)] [])) _
      refine XS.aloadN X1.here hx rfl (hb hby own_d1_7) rfl rfl ?_
      show Steps p.tables e below (T1.setTop (mkF m 8 #[.val (.ref r0)] [(.ref r0)])) _
      exact k
    obtain ⟨T3, X3, e3, st3⟩ := getS2 X1 hx hZ hown (host := "") (Or.inl (hw _ (List.mem_of_getElem? (i := 49) rfl))) Via.refl e1 (S_MID_NUM_LET.ext O0.2) (g := (mkF m 8 #[.val (.ref r0)] [(.ref r0)])) rfl (hb hby own_d1_8)
    refine Go.st (V' := T3.setTop (mkF m 11 #[.val (.ref r0)] [(.ref s_MID_NUM_LET), (.ref r0)])) (fun t k => st3 t k) ?_
    by_cases hc4 : r0 = s_MID_NUM_LET
    · refine Go.st (V' := T3.setTop (mkF m 26 #[.val (.ref r0)] [(.int (1 : Int32))])) (fun t k => ?_) ?_
      · refine Jvm.RoadKit.acmp (g := (mkF m 11 #[.val (.ref r0)] [(.ref s_MID_NUM_LET), (.ref r0)])) X3 hx rfl rfl rfl (pc0 := 11) (pc' := 21) (same := true) rfl (hb hby own_d1_11) rfl (decide_eq_true (congrArg Value.ref hc4)) (by decide) (by decide) ?_
        show Steps p.tables e below (T3.setTop (mkF m 21 #[.val (.ref r0)] [])) _
        refine XS.iconst X3.here hx rfl (hb hby own_d1_21) ?_
        show Steps p.tables e below (T3.setTop (mkF m 22 #[.val (.ref r0)] [(.int (1 : Int32))])) _
        refine XS.goto X3.here hx rfl (pc0 := 22) (pc' := 26) rfl (hb hby own_d1_22) (by decide) (by decide) ?_
        show Steps p.tables e below (T3.setTop (mkF m 26 #[.val (.ref r0)] [(.int (1 : Int32))])) _
        exact k
      obtain ⟨fs, hr, hrun, hended, hW, hsame⟩ := X3.leave (v := some (.int (1 : Int32))) (fun h => by rw [Bd.returns] at h; cases h)
      refine Go.mk' ⟨_, _, retN X3 hx (t := .boolean) Bd.returns (by simp) (hb hby own_d1_26) hr, hrun, hended, _, _, rfl, ?_, ⟨_, rfl⟩, hW, hsame.mono (by decide) (by decide)⟩
      show Q1 Z s_MID_LETTER s_MID_NUM_LET s_SINGLE_QUOTE r0 h0 n0 _ T3.heap _
      rw [e3]
      exact ⟨(by rw [f1, if_neg hc2, if_pos hc4]), N0, rfl⟩
    · refine Go.st (V' := T3.setTop (mkF m 15 #[.val (.ref r0)] [(.ref r0)])) (fun t k => ?_) ?_
      · refine Jvm.RoadKit.acmp (g := (mkF m 11 #[.val (.ref r0)] [(.ref s_MID_NUM_LET), (.ref r0)])) X3 hx rfl rfl rfl (pc0 := 11) (pc' := 14) (same := false) rfl (hb hby own_d1_11) rfl (decide_eq_false fun q => hc4 (Value.ref.inj q)) (by decide) (by decide) ?_
        show Steps p.tables e below (T3.setTop (mkF m 14 #[.val (.ref r0)] [])) _
        refine XS.aloadN X3.here hx rfl (hb hby own_d1_14) rfl rfl ?_
        show Steps p.tables e below (T3.setTop (mkF m 15 #[.val (.ref r0)] [(.ref r0)])) _
        exact k
      obtain ⟨T5, X5, e5, st5⟩ := getS2 X3 hx hZ hown (host := "") (Or.inl (hw _ (List.mem_of_getElem? (i := 50) rfl))) Via.refl e3 (S_SINGLE_QUOTE.ext O0.2) (g := (mkF m 15 #[.val (.ref r0)] [(.ref r0)])) rfl (hb hby own_d1_15)
      refine Go.st (V' := T5.setTop (mkF m 18 #[.val (.ref r0)] [(.ref s_SINGLE_QUOTE), (.ref r0)])) (fun t k => st5 t k) ?_
      by_cases hc6 : r0 = s_SINGLE_QUOTE
      · refine Go.st (V' := T5.setTop (mkF m 26 #[.val (.ref r0)] [(.int (1 : Int32))])) (fun t k => ?_) ?_
        · refine Jvm.RoadKit.acmp (g := (mkF m 18 #[.val (.ref r0)] [(.ref s_SINGLE_QUOTE), (.ref r0)])) X5 hx rfl rfl rfl (pc0 := 18) (pc' := 21) (same := true) rfl (hb hby own_d1_18) rfl (decide_eq_true (congrArg Value.ref hc6)) (by decide) (by decide) ?_
          show Steps p.tables e below (T5.setTop (mkF m 21 #[.val (.ref r0)] [])) _
          refine XS.iconst X5.here hx rfl (hb hby own_d1_21) ?_
          show Steps p.tables e below (T5.setTop (mkF m 22 #[.val (.ref r0)] [(.int (1 : Int32))])) _
          refine XS.goto X5.here hx rfl (pc0 := 22) (pc' := 26) rfl (hb hby own_d1_22) (by decide) (by decide) ?_
          show Steps p.tables e below (T5.setTop (mkF m 26 #[.val (.ref r0)] [(.int (1 : Int32))])) _
          exact k
        obtain ⟨fs, hr, hrun, hended, hW, hsame⟩ := X5.leave (v := some (.int (1 : Int32))) (fun h => by rw [Bd.returns] at h; cases h)
        refine Go.mk' ⟨_, _, retN X5 hx (t := .boolean) Bd.returns (by simp) (hb hby own_d1_26) hr, hrun, hended, _, _, rfl, ?_, ⟨_, rfl⟩, hW, hsame.mono (by decide) (by decide)⟩
        show Q1 Z s_MID_LETTER s_MID_NUM_LET s_SINGLE_QUOTE r0 h0 n0 _ T5.heap _
        rw [e5]
        exact ⟨(by rw [f1, if_neg hc2, if_neg hc4, if_pos hc6]), N0, rfl⟩
      · refine Go.st (V' := T5.setTop (mkF m 26 #[.val (.ref r0)] [(.int (0 : Int32))])) (fun t k => ?_) ?_
        · refine Jvm.RoadKit.acmp (g := (mkF m 18 #[.val (.ref r0)] [(.ref s_SINGLE_QUOTE), (.ref r0)])) X5 hx rfl rfl rfl (pc0 := 18) (pc' := 25) (same := false) rfl (hb hby own_d1_18) rfl (decide_eq_false fun q => hc6 (Value.ref.inj q)) (by decide) (by decide) ?_
          show Steps p.tables e below (T5.setTop (mkF m 25 #[.val (.ref r0)] [])) _
          refine XS.iconst X5.here hx rfl (hb hby own_d1_25) ?_
          show Steps p.tables e below (T5.setTop (mkF m 26 #[.val (.ref r0)] [(.int (0 : Int32))])) _
          exact k
        obtain ⟨fs, hr, hrun, hended, hW, hsame⟩ := X5.leave (v := some (.int (0 : Int32))) (fun h => by rw [Bd.returns] at h; cases h)
        refine Go.mk' ⟨_, _, retN X5 hx (t := .boolean) Bd.returns (by simp) (hb hby own_d1_26) hr, hrun, hended, _, _, rfl, ?_, ⟨_, rfl⟩, hW, hsame.mono (by decide) (by decide)⟩
        show Q1 Z s_MID_LETTER s_MID_NUM_LET s_SINGLE_QUOTE r0 h0 n0 _ T5.heap _
        rw [e5]
        exact ⟨(by rw [f1, if_neg hc2, if_neg hc4, if_neg hc6]), N0, rfl⟩
theorem own_pd13 : parseMethodDescriptor "()Z" = some ⟨[], some .boolean⟩ := by decide +kernel
theorem own_pn1 : plainName "com/example/hits_from_terms/hitsfromterms/analysis/WordBreakIsMidLetterPinLaw" = true := by first | (simp [plainName, overriddenIn]; done) | decide +kernel
theorem ef0 (m : MethodId) (p0 : Int32) : entryFrame m #[(.int p0)] maxLocals = mkF m 0 #[.val (.int p0), .unset, .unset, .unset, .unset] [] := by first | (simp [entryFrame, mkF, argsToLocals, Value.category, maxLocals]; done) | rfl
def Q0 (Z : State) (p0 : Int32) (h0 : Heap) (n0 : Nat) (v : Option Value) (h : Heap) (L : List Loc) : Prop := v = some (.int 1) ∧ Fr n0 L
set_option maxRecDepth 65536 in
set_option maxHeartbeats 40000000 in
theorem rm0 (l : Launch) (Z : State) (a0 : Array Value) (hw : ∀ d ∈ tables_1, d.before a0 Z = true) (ws : List Jvm.Cond) (s_OTHER : Addr) (s_CR : Addr) (s_LF : Addr) (s_NEWLINE : Addr) (s_EXTEND : Addr) (s_FORMAT : Addr) (s_ZWJ : Addr) (s_ALETTER : Addr) (s_HEBREW_LETTER : Addr) (s_NUMERIC : Addr) (s_KATAKANA : Addr) (s_EXTEND_NUM_LET : Addr) (s_MID_LETTER : Addr) (s_MID_NUM : Addr) (s_MID_NUM_LET : Addr) (s_SINGLE_QUOTE : Addr) (s_DOUBLE_QUOTE : Addr) (s_REGIONAL_INDICATOR : Addr) (s_WSEG_SPACE : Addr) (HW : W0 Z s_OTHER s_CR s_LF s_NEWLINE s_EXTEND s_FORMAT s_ZWJ s_ALETTER s_HEBREW_LETTER s_NUMERIC s_KATAKANA s_EXTEND_NUM_LET s_MID_LETTER s_MID_NUM s_MID_NUM_LET s_SINGLE_QUOTE s_DOUBLE_QUOTE s_REGIONAL_INDICATOR s_WSEG_SPACE) (p0 : Int32) (h0 : Heap) (n0 : Nat) (O0 : Old Z n0 h0) :
    MetFree l x (head1 (Jvm.Cond.code x code maxLocals ret :: ws) room_1) (fun a U => a = #[(.int p0)] ∧ Z.Warmed39 U.vm ∧ U.heap = h0) (fun _ _ _ _ _ => True) (fun _ U o U' => ∃ v L, o = .returned v ∧ Q0 Z p0 h0 n0 v U'.heap L ∧ FrameEnd U o U' L room_1.cells room_1.slots) := by
  refine MetFree.of_bodySF (plainFor_of_name own_pn1) hisR ?_
  intro p e s m args below meth c s₁ Bd hml0 hP hK
  obtain ⟨rfl, hZ, hh⟩ := hP
  obtain ⟨E_OTHER, S_OTHER, E_CR, S_CR, E_LF, S_LF, E_NEWLINE, S_NEWLINE, E_EXTEND, S_EXTEND, E_FORMAT, S_FORMAT, E_ZWJ, S_ZWJ, E_ALETTER, S_ALETTER, E_HEBREW_LETTER, S_HEBREW_LETTER, E_NUMERIC, S_NUMERIC, E_KATAKANA, S_KATAKANA, E_EXTEND_NUM_LET, S_EXTEND_NUM_LET, E_MID_LETTER, S_MID_LETTER, E_MID_NUM, S_MID_NUM, E_MID_NUM_LET, S_MID_NUM_LET, E_SINGLE_QUOTE, S_SINGLE_QUOTE, E_DOUBLE_QUOTE, S_DOUBLE_QUOTE, E_REGIONAL_INDICATOR, S_REGIONAL_INDICATOR, E_WSEG_SPACE, S_WSEG_SPACE, F_OTHER_ordinal, F_MID_LETTER_ordinal, F_MID_NUM_LET_ordinal, F_SINGLE_QUOTE_ordinal, F_NEWLINE_ordinal, F_FORMAT_ordinal, F_REGIONAL_INDICATOR_ordinal, F_ALETTER_ordinal, F_LF_ordinal, F_EXTEND_NUM_LET_ordinal, F_KATAKANA_ordinal, F_HEBREW_LETTER_ordinal, F_CR_ordinal, F_WSEG_SPACE_ordinal, F_ZWJ_ordinal, F_DOUBLE_QUOTE_ordinal, F_EXTEND_ordinal, F_NUMERIC_ordinal, F_MID_NUM_ordinal⟩ := id HW
  have hx := Bd.exec
  have hby := Bd.bytes
  have hml : c.maxLocals = 5 := hml0
  have hown : s.vm.findClass "com/example/hits_from_terms/hitsfromterms/analysis/WordBreakIsMidLetterPinLaw" = some m.cls := findClass_of_methodNamed Bd.named
  have hnm := (name_of_methodNamed Bd.named Bd.method).1
  have X0 : Stand p l e room_1 s m #[(.int p0)] below meth c s₁ [] 0 0 := Stand.of_body Bd
  have e0 : s₁.heap = h0 := by rw [← hh, Bd.state]; rfl
  have N0 := Fr.nil n0
  refine Go.out ?_
  refine Go.st (V' := s₁.setTop (mkF m 0 #[.val (.int p0), .unset, .unset, .unset, .unset] [])) (fun t k => castTop (ef0 m p0) k) ?_
  refine Go.st (V' := s₁.setTop (mkF m 2 #[.val (.int p0), .unset, .unset, .unset, .unset] [(.int (19 : Int32))])) (fun t k => ?_) ?_
  · refine XS.bipush X0.here hx rfl (hb hby at_0) ?_
    show Steps p.tables e below (s₁.setTop (mkF m 2 #[.val (.int p0), .unset, .unset, .unset, .unset] [(.int (19 : Int32))])) _
    exact k
  obtain ⟨T7, h7, k7, X7, e7, E7, A7, XA7, Ov7, st7⟩ := newRE X0 hx hZ hown (hw _ (List.mem_of_getElem? (i := 0) rfl)) (hw _ (List.mem_of_getElem? (i := 1) rfl)) e0 (g := (mkF m 2 #[.val (.int p0), .unset, .unset, .unset, .unset] [(.int (19 : Int32))])) rfl (hb hby at_2) rfl (by decide) (cap := 19) (by decide) (by decide) (by decide) (by decide) (ad := "[Lcom/example/hits_from_terms/hitsfromterms/analysis/WordBreak;") (by decide)
  obtain ⟨b7, g7⟩ : ∃ z, z = h0.size := ⟨_, rfl⟩
  rw [← g7] at A7 XA7 st7
  have g_b7 : n0 ≤ b7 := Nat.le_trans (Nat.le_trans (Nat.le_of_eq O0.1.symm) O0.2.1) (Nat.le_of_eq g7.symm)
  have O7 := O0.ext E7
  have V7 : Arv Z h7 b7 k7 (.object "com/example/hits_from_terms/hitsfromterms/analysis/WordBreak") (19 : Int32) [.null, .null, .null, .null, .null, .null, .null, .null, .null, .null, .null, .null, .null, .null, .null, .null, .null, .null, .null] .null := (Arv.new A7 (by decide)).pad (pad_rep [] .null 19)
  refine Go.st (V' := T7.setTop (mkF m 5 #[.val (.int p0), .unset, .unset, .unset, .unset] [(.ref b7)])) (fun t k => st7 t k) ?_
  refine Go.st (V' := T7.setTop (mkF m 7 #[.val (.int p0), .unset, .unset, .unset, .unset] [(.int (0 : Int32)), (.ref b7), (.ref b7)])) (fun t k => ?_) ?_
  · refine XS.dup X7.here hx rfl (hb hby at_5) rfl rfl ?_
    show Steps p.tables e below (T7.setTop (mkF m 6 #[.val (.int p0), .unset, .unset, .unset, .unset] [(.ref b7), (.ref b7)])) _
    refine XS.iconst X7.here hx rfl (hb hby at_6) ?_
    show Steps p.tables e below (T7.setTop (mkF m 7 #[.val (.int p0), .unset, .unset, .unset, .unset] [(.int (0 : Int32)), (.ref b7), (.ref b7)])) _
    exact k
  obtain ⟨T8, X8, e8, st8⟩ := getS2 X7 hx hZ hown (host := "") (Or.inl (hw _ (List.mem_of_getElem? (i := 2) rfl))) Via.refl e7 (S_OTHER.ext O7.2) (g := (mkF m 7 #[.val (.int p0), .unset, .unset, .unset, .unset] [(.int (0 : Int32)), (.ref b7), (.ref b7)])) rfl (hb hby at_7)
  refine Go.st (V' := T8.setTop (mkF m 10 #[.val (.int p0), .unset, .unset, .unset, .unset] [(.ref s_OTHER), (.int (0 : Int32)), (.ref b7), (.ref b7)])) (fun t k => st8 t k) ?_
  obtain ⟨cl9, Ar9, q9, Sz9, Nn9, Ha9, Ga9⟩ := id (V7)
  obtain ⟨T10, h10, X10, e10, W10, st10⟩ := stR X8 hx hZ e8 Ar9 (j := (0 : Int32)) (inb_of Sz9 ⟨by decide, by decide⟩) rfl (Sto.ofV Ar9 q9 Ov7 (Ins.self (E_OTHER.ext O7.2))) (g := (mkF m 10 #[.val (.int p0), .unset, .unset, .unset, .unset] [(.ref s_OTHER), (.int (0 : Int32)), (.ref b7), (.ref b7)])) rfl rfl (hb hby at_10)
  have V10 : Arv Z h10 b7 k7 (.object "com/example/hits_from_terms/hitsfromterms/analysis/WordBreak") (19 : Int32) [(.ref s_OTHER), .null, .null, .null, .null, .null, .null, .null, .null, .null, .null, .null, .null, .null, .null, .null, .null, .null, .null] .null := Arv.set Ar9 q9 Sz9 Nn9 Ha9 Ga9 rfl W10 0 rfl (Nat.le_of_ble_eq_true rfl)
  have O10 := O7.wr W10 g_b7
  have N10 := Fr.snoc X10 N0 g_b7
  refine Go.st (V' := T10.setTop (mkF m 11 #[.val (.int p0), .unset, .unset, .unset, .unset] [(.ref b7)])) (fun t k => st10 t k) ?_
  refine Go.st (V' := T10.setTop (mkF m 13 #[.val (.int p0), .unset, .unset, .unset, .unset] [(.int (1 : Int32)), (.ref b7), (.ref b7)])) (fun t k => ?_) ?_
  · refine XS.dup X10.here hx rfl (hb hby at_11) rfl rfl ?_
    show Steps p.tables e below (T10.setTop (mkF m 12 #[.val (.int p0), .unset, .unset, .unset, .unset] [(.ref b7), (.ref b7)])) _
    refine XS.iconst X10.here hx rfl (hb hby at_12) ?_
    show Steps p.tables e below (T10.setTop (mkF m 13 #[.val (.int p0), .unset, .unset, .unset, .unset] [(.int (1 : Int32)), (.ref b7), (.ref b7)])) _
    exact k
  obtain ⟨T11, X11, e11, st11⟩ := getS2 X10 hx hZ hown (host := "") (Or.inl (hw _ (List.mem_of_getElem? (i := 6) rfl))) Via.refl e10 (S_CR.ext O10.2) (g := (mkF m 13 #[.val (.int p0), .unset, .unset, .unset, .unset] [(.int (1 : Int32)), (.ref b7), (.ref b7)])) rfl (hb hby at_13)
  refine Go.st (V' := T11.setTop (mkF m 16 #[.val (.int p0), .unset, .unset, .unset, .unset] [(.ref s_CR), (.int (1 : Int32)), (.ref b7), (.ref b7)])) (fun t k => st11 t k) ?_
  obtain ⟨cl12, Ar12, q12, Sz12, Nn12, Ha12, Ga12⟩ := id (V10)
  obtain ⟨T13, h13, X13, e13, W13, st13⟩ := stR X11 hx hZ e11 Ar12 (j := (1 : Int32)) (inb_of Sz12 ⟨by decide, by decide⟩) rfl (Sto.ofV Ar12 q12 Ov7 (Ins.self (E_CR.ext O10.2))) (g := (mkF m 16 #[.val (.int p0), .unset, .unset, .unset, .unset] [(.ref s_CR), (.int (1 : Int32)), (.ref b7), (.ref b7)])) rfl rfl (hb hby at_16)
  have V13 : Arv Z h13 b7 k7 (.object "com/example/hits_from_terms/hitsfromterms/analysis/WordBreak") (19 : Int32) [(.ref s_OTHER), (.ref s_CR), .null, .null, .null, .null, .null, .null, .null, .null, .null, .null, .null, .null, .null, .null, .null, .null, .null] .null := Arv.set Ar12 q12 Sz12 Nn12 Ha12 Ga12 rfl W13 1 rfl (Nat.le_of_ble_eq_true rfl)
  have O13 := O10.wr W13 g_b7
  have N13 := Fr.snoc X13 N10 g_b7
  refine Go.st (V' := T13.setTop (mkF m 17 #[.val (.int p0), .unset, .unset, .unset, .unset] [(.ref b7)])) (fun t k => st13 t k) ?_
  refine Go.st (V' := T13.setTop (mkF m 19 #[.val (.int p0), .unset, .unset, .unset, .unset] [(.int (2 : Int32)), (.ref b7), (.ref b7)])) (fun t k => ?_) ?_
  · refine XS.dup X13.here hx rfl (hb hby at_17) rfl rfl ?_
    show Steps p.tables e below (T13.setTop (mkF m 18 #[.val (.int p0), .unset, .unset, .unset, .unset] [(.ref b7), (.ref b7)])) _
    refine XS.iconst X13.here hx rfl (hb hby at_18) ?_
    show Steps p.tables e below (T13.setTop (mkF m 19 #[.val (.int p0), .unset, .unset, .unset, .unset] [(.int (2 : Int32)), (.ref b7), (.ref b7)])) _
    exact k
  obtain ⟨T14, X14, e14, st14⟩ := getS2 X13 hx hZ hown (host := "") (Or.inl (hw _ (List.mem_of_getElem? (i := 8) rfl))) Via.refl e13 (S_LF.ext O13.2) (g := (mkF m 19 #[.val (.int p0), .unset, .unset, .unset, .unset] [(.int (2 : Int32)), (.ref b7), (.ref b7)])) rfl (hb hby at_19)
  refine Go.st (V' := T14.setTop (mkF m 22 #[.val (.int p0), .unset, .unset, .unset, .unset] [(.ref s_LF), (.int (2 : Int32)), (.ref b7), (.ref b7)])) (fun t k => st14 t k) ?_
  obtain ⟨cl15, Ar15, q15, Sz15, Nn15, Ha15, Ga15⟩ := id (V13)
  obtain ⟨T16, h16, X16, e16, W16, st16⟩ := stR X14 hx hZ e14 Ar15 (j := (2 : Int32)) (inb_of Sz15 ⟨by decide, by decide⟩) rfl (Sto.ofV Ar15 q15 Ov7 (Ins.self (E_LF.ext O13.2))) (g := (mkF m 22 #[.val (.int p0), .unset, .unset, .unset, .unset] [(.ref s_LF), (.int (2 : Int32)), (.ref b7), (.ref b7)])) rfl rfl (hb hby at_22)
  have V16 : Arv Z h16 b7 k7 (.object "com/example/hits_from_terms/hitsfromterms/analysis/WordBreak") (19 : Int32) [(.ref s_OTHER), (.ref s_CR), (.ref s_LF), .null, .null, .null, .null, .null, .null, .null, .null, .null, .null, .null, .null, .null, .null, .null, .null] .null := Arv.set Ar15 q15 Sz15 Nn15 Ha15 Ga15 rfl W16 2 rfl (Nat.le_of_ble_eq_true rfl)
  have O16 := O13.wr W16 g_b7
  have N16 := Fr.snoc X16 N13 g_b7
  refine Go.st (V' := T16.setTop (mkF m 23 #[.val (.int p0), .unset, .unset, .unset, .unset] [(.ref b7)])) (fun t k => st16 t k) ?_
  refine Go.st (V' := T16.setTop (mkF m 25 #[.val (.int p0), .unset, .unset, .unset, .unset] [(.int (3 : Int32)), (.ref b7), (.ref b7)])) (fun t k => ?_) ?_
  · refine XS.dup X16.here hx rfl (hb hby at_23) rfl rfl ?_
    show Steps p.tables e below (T16.setTop (mkF m 24 #[.val (.int p0), .unset, .unset, .unset, .unset] [(.ref b7), (.ref b7)])) _
    refine XS.iconst X16.here hx rfl (hb hby at_24) ?_
    show Steps p.tables e below (T16.setTop (mkF m 25 #[.val (.int p0), .unset, .unset, .unset, .unset] [(.int (3 : Int32)), (.ref b7), (.ref b7)])) _
    exact k
  obtain ⟨T17, X17, e17, st17⟩ := getS2 X16 hx hZ hown (host := "") (Or.inl (hw _ (List.mem_of_getElem? (i := 10) rfl))) Via.refl e16 (S_NEWLINE.ext O16.2) (g := (mkF m 25 #[.val (.int p0), .unset, .unset, .unset, .unset] [(.int (3 : Int32)), (.ref b7), (.ref b7)])) rfl (hb hby at_25)
  refine Go.st (V' := T17.setTop (mkF m 28 #[.val (.int p0), .unset, .unset, .unset, .unset] [(.ref s_NEWLINE), (.int (3 : Int32)), (.ref b7), (.ref b7)])) (fun t k => st17 t k) ?_
  obtain ⟨cl18, Ar18, q18, Sz18, Nn18, Ha18, Ga18⟩ := id (V16)
  obtain ⟨T19, h19, X19, e19, W19, st19⟩ := stR X17 hx hZ e17 Ar18 (j := (3 : Int32)) (inb_of Sz18 ⟨by decide, by decide⟩) rfl (Sto.ofV Ar18 q18 Ov7 (Ins.self (E_NEWLINE.ext O16.2))) (g := (mkF m 28 #[.val (.int p0), .unset, .unset, .unset, .unset] [(.ref s_NEWLINE), (.int (3 : Int32)), (.ref b7), (.ref b7)])) rfl rfl (hb hby at_28)
  have V19 : Arv Z h19 b7 k7 (.object "com/example/hits_from_terms/hitsfromterms/analysis/WordBreak") (19 : Int32) [(.ref s_OTHER), (.ref s_CR), (.ref s_LF), (.ref s_NEWLINE), .null, .null, .null, .null, .null, .null, .null, .null, .null, .null, .null, .null, .null, .null, .null] .null := Arv.set Ar18 q18 Sz18 Nn18 Ha18 Ga18 rfl W19 3 rfl (Nat.le_of_ble_eq_true rfl)
  have O19 := O16.wr W19 g_b7
  have N19 := Fr.snoc X19 N16 g_b7
  refine Go.st (V' := T19.setTop (mkF m 29 #[.val (.int p0), .unset, .unset, .unset, .unset] [(.ref b7)])) (fun t k => st19 t k) ?_
  refine Go.st (V' := T19.setTop (mkF m 31 #[.val (.int p0), .unset, .unset, .unset, .unset] [(.int (4 : Int32)), (.ref b7), (.ref b7)])) (fun t k => ?_) ?_
  · refine XS.dup X19.here hx rfl (hb hby at_29) rfl rfl ?_
    show Steps p.tables e below (T19.setTop (mkF m 30 #[.val (.int p0), .unset, .unset, .unset, .unset] [(.ref b7), (.ref b7)])) _
    refine XS.iconst X19.here hx rfl (hb hby at_30) ?_
    show Steps p.tables e below (T19.setTop (mkF m 31 #[.val (.int p0), .unset, .unset, .unset, .unset] [(.int (4 : Int32)), (.ref b7), (.ref b7)])) _
    exact k
  obtain ⟨T20, X20, e20, st20⟩ := getS2 X19 hx hZ hown (host := "") (Or.inl (hw _ (List.mem_of_getElem? (i := 12) rfl))) Via.refl e19 (S_EXTEND.ext O19.2) (g := (mkF m 31 #[.val (.int p0), .unset, .unset, .unset, .unset] [(.int (4 : Int32)), (.ref b7), (.ref b7)])) rfl (hb hby at_31)
  refine Go.st (V' := T20.setTop (mkF m 34 #[.val (.int p0), .unset, .unset, .unset, .unset] [(.ref s_EXTEND), (.int (4 : Int32)), (.ref b7), (.ref b7)])) (fun t k => st20 t k) ?_
  obtain ⟨cl21, Ar21, q21, Sz21, Nn21, Ha21, Ga21⟩ := id (V19)
  obtain ⟨T22, h22, X22, e22, W22, st22⟩ := stR X20 hx hZ e20 Ar21 (j := (4 : Int32)) (inb_of Sz21 ⟨by decide, by decide⟩) rfl (Sto.ofV Ar21 q21 Ov7 (Ins.self (E_EXTEND.ext O19.2))) (g := (mkF m 34 #[.val (.int p0), .unset, .unset, .unset, .unset] [(.ref s_EXTEND), (.int (4 : Int32)), (.ref b7), (.ref b7)])) rfl rfl (hb hby at_34)
  have V22 : Arv Z h22 b7 k7 (.object "com/example/hits_from_terms/hitsfromterms/analysis/WordBreak") (19 : Int32) [(.ref s_OTHER), (.ref s_CR), (.ref s_LF), (.ref s_NEWLINE), (.ref s_EXTEND), .null, .null, .null, .null, .null, .null, .null, .null, .null, .null, .null, .null, .null, .null] .null := Arv.set Ar21 q21 Sz21 Nn21 Ha21 Ga21 rfl W22 4 rfl (Nat.le_of_ble_eq_true rfl)
  have O22 := O19.wr W22 g_b7
  have N22 := Fr.snoc X22 N19 g_b7
  refine Go.st (V' := T22.setTop (mkF m 35 #[.val (.int p0), .unset, .unset, .unset, .unset] [(.ref b7)])) (fun t k => st22 t k) ?_
  refine Go.st (V' := T22.setTop (mkF m 37 #[.val (.int p0), .unset, .unset, .unset, .unset] [(.int (5 : Int32)), (.ref b7), (.ref b7)])) (fun t k => ?_) ?_
  · refine XS.dup X22.here hx rfl (hb hby at_35) rfl rfl ?_
    show Steps p.tables e below (T22.setTop (mkF m 36 #[.val (.int p0), .unset, .unset, .unset, .unset] [(.ref b7), (.ref b7)])) _
    refine XS.iconst X22.here hx rfl (hb hby at_36) ?_
    show Steps p.tables e below (T22.setTop (mkF m 37 #[.val (.int p0), .unset, .unset, .unset, .unset] [(.int (5 : Int32)), (.ref b7), (.ref b7)])) _
    exact k
  obtain ⟨T23, X23, e23, st23⟩ := getS2 X22 hx hZ hown (host := "") (Or.inl (hw _ (List.mem_of_getElem? (i := 14) rfl))) Via.refl e22 (S_FORMAT.ext O22.2) (g := (mkF m 37 #[.val (.int p0), .unset, .unset, .unset, .unset] [(.int (5 : Int32)), (.ref b7), (.ref b7)])) rfl (hb hby at_37)
  refine Go.st (V' := T23.setTop (mkF m 40 #[.val (.int p0), .unset, .unset, .unset, .unset] [(.ref s_FORMAT), (.int (5 : Int32)), (.ref b7), (.ref b7)])) (fun t k => st23 t k) ?_
  obtain ⟨cl24, Ar24, q24, Sz24, Nn24, Ha24, Ga24⟩ := id (V22)
  obtain ⟨T25, h25, X25, e25, W25, st25⟩ := stR X23 hx hZ e23 Ar24 (j := (5 : Int32)) (inb_of Sz24 ⟨by decide, by decide⟩) rfl (Sto.ofV Ar24 q24 Ov7 (Ins.self (E_FORMAT.ext O22.2))) (g := (mkF m 40 #[.val (.int p0), .unset, .unset, .unset, .unset] [(.ref s_FORMAT), (.int (5 : Int32)), (.ref b7), (.ref b7)])) rfl rfl (hb hby at_40)
  have V25 : Arv Z h25 b7 k7 (.object "com/example/hits_from_terms/hitsfromterms/analysis/WordBreak") (19 : Int32) [(.ref s_OTHER), (.ref s_CR), (.ref s_LF), (.ref s_NEWLINE), (.ref s_EXTEND), (.ref s_FORMAT), .null, .null, .null, .null, .null, .null, .null, .null, .null, .null, .null, .null, .null] .null := Arv.set Ar24 q24 Sz24 Nn24 Ha24 Ga24 rfl W25 5 rfl (Nat.le_of_ble_eq_true rfl)
  have O25 := O22.wr W25 g_b7
  have N25 := Fr.snoc X25 N22 g_b7
  refine Go.st (V' := T25.setTop (mkF m 41 #[.val (.int p0), .unset, .unset, .unset, .unset] [(.ref b7)])) (fun t k => st25 t k) ?_
  refine Go.st (V' := T25.setTop (mkF m 44 #[.val (.int p0), .unset, .unset, .unset, .unset] [(.int (6 : Int32)), (.ref b7), (.ref b7)])) (fun t k => ?_) ?_
  · refine XS.dup X25.here hx rfl (hb hby at_41) rfl rfl ?_
    show Steps p.tables e below (T25.setTop (mkF m 42 #[.val (.int p0), .unset, .unset, .unset, .unset] [(.ref b7), (.ref b7)])) _
    refine XS.bipush X25.here hx rfl (hb hby at_42) ?_
    show Steps p.tables e below (T25.setTop (mkF m 44 #[.val (.int p0), .unset, .unset, .unset, .unset] [(.int (6 : Int32)), (.ref b7), (.ref b7)])) _
    exact k
  obtain ⟨T26, X26, e26, st26⟩ := getS2 X25 hx hZ hown (host := "") (Or.inl (hw _ (List.mem_of_getElem? (i := 16) rfl))) Via.refl e25 (S_ZWJ.ext O25.2) (g := (mkF m 44 #[.val (.int p0), .unset, .unset, .unset, .unset] [(.int (6 : Int32)), (.ref b7), (.ref b7)])) rfl (hb hby at_44)
  refine Go.st (V' := T26.setTop (mkF m 47 #[.val (.int p0), .unset, .unset, .unset, .unset] [(.ref s_ZWJ), (.int (6 : Int32)), (.ref b7), (.ref b7)])) (fun t k => st26 t k) ?_
  obtain ⟨cl27, Ar27, q27, Sz27, Nn27, Ha27, Ga27⟩ := id (V25)
  obtain ⟨T28, h28, X28, e28, W28, st28⟩ := stR X26 hx hZ e26 Ar27 (j := (6 : Int32)) (inb_of Sz27 ⟨by decide, by decide⟩) rfl (Sto.ofV Ar27 q27 Ov7 (Ins.self (E_ZWJ.ext O25.2))) (g := (mkF m 47 #[.val (.int p0), .unset, .unset, .unset, .unset] [(.ref s_ZWJ), (.int (6 : Int32)), (.ref b7), (.ref b7)])) rfl rfl (hb hby at_47)
  have V28 : Arv Z h28 b7 k7 (.object "com/example/hits_from_terms/hitsfromterms/analysis/WordBreak") (19 : Int32) [(.ref s_OTHER), (.ref s_CR), (.ref s_LF), (.ref s_NEWLINE), (.ref s_EXTEND), (.ref s_FORMAT), (.ref s_ZWJ), .null, .null, .null, .null, .null, .null, .null, .null, .null, .null, .null, .null] .null := Arv.set Ar27 q27 Sz27 Nn27 Ha27 Ga27 rfl W28 6 rfl (Nat.le_of_ble_eq_true rfl)
  have O28 := O25.wr W28 g_b7
  have N28 := Fr.snoc X28 N25 g_b7
  refine Go.st (V' := T28.setTop (mkF m 48 #[.val (.int p0), .unset, .unset, .unset, .unset] [(.ref b7)])) (fun t k => st28 t k) ?_
  refine Go.st (V' := T28.setTop (mkF m 51 #[.val (.int p0), .unset, .unset, .unset, .unset] [(.int (7 : Int32)), (.ref b7), (.ref b7)])) (fun t k => ?_) ?_
  · refine XS.dup X28.here hx rfl (hb hby at_48) rfl rfl ?_
    show Steps p.tables e below (T28.setTop (mkF m 49 #[.val (.int p0), .unset, .unset, .unset, .unset] [(.ref b7), (.ref b7)])) _
    refine XS.bipush X28.here hx rfl (hb hby at_49) ?_
    show Steps p.tables e below (T28.setTop (mkF m 51 #[.val (.int p0), .unset, .unset, .unset, .unset] [(.int (7 : Int32)), (.ref b7), (.ref b7)])) _
    exact k
  obtain ⟨T29, X29, e29, st29⟩ := getS2 X28 hx hZ hown (host := "") (Or.inl (hw _ (List.mem_of_getElem? (i := 18) rfl))) Via.refl e28 (S_ALETTER.ext O28.2) (g := (mkF m 51 #[.val (.int p0), .unset, .unset, .unset, .unset] [(.int (7 : Int32)), (.ref b7), (.ref b7)])) rfl (hb hby at_51)
  refine Go.st (V' := T29.setTop (mkF m 54 #[.val (.int p0), .unset, .unset, .unset, .unset] [(.ref s_ALETTER), (.int (7 : Int32)), (.ref b7), (.ref b7)])) (fun t k => st29 t k) ?_
  obtain ⟨cl30, Ar30, q30, Sz30, Nn30, Ha30, Ga30⟩ := id (V28)
  obtain ⟨T31, h31, X31, e31, W31, st31⟩ := stR X29 hx hZ e29 Ar30 (j := (7 : Int32)) (inb_of Sz30 ⟨by decide, by decide⟩) rfl (Sto.ofV Ar30 q30 Ov7 (Ins.self (E_ALETTER.ext O28.2))) (g := (mkF m 54 #[.val (.int p0), .unset, .unset, .unset, .unset] [(.ref s_ALETTER), (.int (7 : Int32)), (.ref b7), (.ref b7)])) rfl rfl (hb hby at_54)
  have V31 : Arv Z h31 b7 k7 (.object "com/example/hits_from_terms/hitsfromterms/analysis/WordBreak") (19 : Int32) [(.ref s_OTHER), (.ref s_CR), (.ref s_LF), (.ref s_NEWLINE), (.ref s_EXTEND), (.ref s_FORMAT), (.ref s_ZWJ), (.ref s_ALETTER), .null, .null, .null, .null, .null, .null, .null, .null, .null, .null, .null] .null := Arv.set Ar30 q30 Sz30 Nn30 Ha30 Ga30 rfl W31 7 rfl (Nat.le_of_ble_eq_true rfl)
  have O31 := O28.wr W31 g_b7
  have N31 := Fr.snoc X31 N28 g_b7
  refine Go.st (V' := T31.setTop (mkF m 55 #[.val (.int p0), .unset, .unset, .unset, .unset] [(.ref b7)])) (fun t k => st31 t k) ?_
  refine Go.st (V' := T31.setTop (mkF m 58 #[.val (.int p0), .unset, .unset, .unset, .unset] [(.int (8 : Int32)), (.ref b7), (.ref b7)])) (fun t k => ?_) ?_
  · refine XS.dup X31.here hx rfl (hb hby at_55) rfl rfl ?_
    show Steps p.tables e below (T31.setTop (mkF m 56 #[.val (.int p0), .unset, .unset, .unset, .unset] [(.ref b7), (.ref b7)])) _
    refine XS.bipush X31.here hx rfl (hb hby at_56) ?_
    show Steps p.tables e below (T31.setTop (mkF m 58 #[.val (.int p0), .unset, .unset, .unset, .unset] [(.int (8 : Int32)), (.ref b7), (.ref b7)])) _
    exact k
  obtain ⟨T32, X32, e32, st32⟩ := getS2 X31 hx hZ hown (host := "") (Or.inl (hw _ (List.mem_of_getElem? (i := 20) rfl))) Via.refl e31 (S_HEBREW_LETTER.ext O31.2) (g := (mkF m 58 #[.val (.int p0), .unset, .unset, .unset, .unset] [(.int (8 : Int32)), (.ref b7), (.ref b7)])) rfl (hb hby at_58)
  refine Go.st (V' := T32.setTop (mkF m 61 #[.val (.int p0), .unset, .unset, .unset, .unset] [(.ref s_HEBREW_LETTER), (.int (8 : Int32)), (.ref b7), (.ref b7)])) (fun t k => st32 t k) ?_
  obtain ⟨cl33, Ar33, q33, Sz33, Nn33, Ha33, Ga33⟩ := id (V31)
  obtain ⟨T34, h34, X34, e34, W34, st34⟩ := stR X32 hx hZ e32 Ar33 (j := (8 : Int32)) (inb_of Sz33 ⟨by decide, by decide⟩) rfl (Sto.ofV Ar33 q33 Ov7 (Ins.self (E_HEBREW_LETTER.ext O31.2))) (g := (mkF m 61 #[.val (.int p0), .unset, .unset, .unset, .unset] [(.ref s_HEBREW_LETTER), (.int (8 : Int32)), (.ref b7), (.ref b7)])) rfl rfl (hb hby at_61)
  have V34 : Arv Z h34 b7 k7 (.object "com/example/hits_from_terms/hitsfromterms/analysis/WordBreak") (19 : Int32) [(.ref s_OTHER), (.ref s_CR), (.ref s_LF), (.ref s_NEWLINE), (.ref s_EXTEND), (.ref s_FORMAT), (.ref s_ZWJ), (.ref s_ALETTER), (.ref s_HEBREW_LETTER), .null, .null, .null, .null, .null, .null, .null, .null, .null, .null] .null := Arv.set Ar33 q33 Sz33 Nn33 Ha33 Ga33 rfl W34 8 rfl (Nat.le_of_ble_eq_true rfl)
  have O34 := O31.wr W34 g_b7
  have N34 := Fr.snoc X34 N31 g_b7
  refine Go.st (V' := T34.setTop (mkF m 62 #[.val (.int p0), .unset, .unset, .unset, .unset] [(.ref b7)])) (fun t k => st34 t k) ?_
  refine Go.st (V' := T34.setTop (mkF m 65 #[.val (.int p0), .unset, .unset, .unset, .unset] [(.int (9 : Int32)), (.ref b7), (.ref b7)])) (fun t k => ?_) ?_
  · refine XS.dup X34.here hx rfl (hb hby at_62) rfl rfl ?_
    show Steps p.tables e below (T34.setTop (mkF m 63 #[.val (.int p0), .unset, .unset, .unset, .unset] [(.ref b7), (.ref b7)])) _
    refine XS.bipush X34.here hx rfl (hb hby at_63) ?_
    show Steps p.tables e below (T34.setTop (mkF m 65 #[.val (.int p0), .unset, .unset, .unset, .unset] [(.int (9 : Int32)), (.ref b7), (.ref b7)])) _
    exact k
  obtain ⟨T35, X35, e35, st35⟩ := getS2 X34 hx hZ hown (host := "") (Or.inl (hw _ (List.mem_of_getElem? (i := 22) rfl))) Via.refl e34 (S_NUMERIC.ext O34.2) (g := (mkF m 65 #[.val (.int p0), .unset, .unset, .unset, .unset] [(.int (9 : Int32)), (.ref b7), (.ref b7)])) rfl (hb hby at_65)
  refine Go.st (V' := T35.setTop (mkF m 68 #[.val (.int p0), .unset, .unset, .unset, .unset] [(.ref s_NUMERIC), (.int (9 : Int32)), (.ref b7), (.ref b7)])) (fun t k => st35 t k) ?_
  obtain ⟨cl36, Ar36, q36, Sz36, Nn36, Ha36, Ga36⟩ := id (V34)
  obtain ⟨T37, h37, X37, e37, W37, st37⟩ := stR X35 hx hZ e35 Ar36 (j := (9 : Int32)) (inb_of Sz36 ⟨by decide, by decide⟩) rfl (Sto.ofV Ar36 q36 Ov7 (Ins.self (E_NUMERIC.ext O34.2))) (g := (mkF m 68 #[.val (.int p0), .unset, .unset, .unset, .unset] [(.ref s_NUMERIC), (.int (9 : Int32)), (.ref b7), (.ref b7)])) rfl rfl (hb hby at_68)
  have V37 : Arv Z h37 b7 k7 (.object "com/example/hits_from_terms/hitsfromterms/analysis/WordBreak") (19 : Int32) [(.ref s_OTHER), (.ref s_CR), (.ref s_LF), (.ref s_NEWLINE), (.ref s_EXTEND), (.ref s_FORMAT), (.ref s_ZWJ), (.ref s_ALETTER), (.ref s_HEBREW_LETTER), (.ref s_NUMERIC), .null, .null, .null, .null, .null, .null, .null, .null, .null] .null := Arv.set Ar36 q36 Sz36 Nn36 Ha36 Ga36 rfl W37 9 rfl (Nat.le_of_ble_eq_true rfl)
  have O37 := O34.wr W37 g_b7
  have N37 := Fr.snoc X37 N34 g_b7
  refine Go.st (V' := T37.setTop (mkF m 69 #[.val (.int p0), .unset, .unset, .unset, .unset] [(.ref b7)])) (fun t k => st37 t k) ?_
  refine Go.st (V' := T37.setTop (mkF m 72 #[.val (.int p0), .unset, .unset, .unset, .unset] [(.int (10 : Int32)), (.ref b7), (.ref b7)])) (fun t k => ?_) ?_
  · refine XS.dup X37.here hx rfl (hb hby at_69) rfl rfl ?_
    show Steps p.tables e below (T37.setTop (mkF m 70 #[.val (.int p0), .unset, .unset, .unset, .unset] [(.ref b7), (.ref b7)])) _
    refine XS.bipush X37.here hx rfl (hb hby at_70) ?_
    show Steps p.tables e below (T37.setTop (mkF m 72 #[.val (.int p0), .unset, .unset, .unset, .unset] [(.int (10 : Int32)), (.ref b7), (.ref b7)])) _
    exact k
  obtain ⟨T38, X38, e38, st38⟩ := getS2 X37 hx hZ hown (host := "") (Or.inl (hw _ (List.mem_of_getElem? (i := 24) rfl))) Via.refl e37 (S_KATAKANA.ext O37.2) (g := (mkF m 72 #[.val (.int p0), .unset, .unset, .unset, .unset] [(.int (10 : Int32)), (.ref b7), (.ref b7)])) rfl (hb hby at_72)
  refine Go.st (V' := T38.setTop (mkF m 75 #[.val (.int p0), .unset, .unset, .unset, .unset] [(.ref s_KATAKANA), (.int (10 : Int32)), (.ref b7), (.ref b7)])) (fun t k => st38 t k) ?_
  obtain ⟨cl39, Ar39, q39, Sz39, Nn39, Ha39, Ga39⟩ := id (V37)
  obtain ⟨T40, h40, X40, e40, W40, st40⟩ := stR X38 hx hZ e38 Ar39 (j := (10 : Int32)) (inb_of Sz39 ⟨by decide, by decide⟩) rfl (Sto.ofV Ar39 q39 Ov7 (Ins.self (E_KATAKANA.ext O37.2))) (g := (mkF m 75 #[.val (.int p0), .unset, .unset, .unset, .unset] [(.ref s_KATAKANA), (.int (10 : Int32)), (.ref b7), (.ref b7)])) rfl rfl (hb hby at_75)
  have V40 : Arv Z h40 b7 k7 (.object "com/example/hits_from_terms/hitsfromterms/analysis/WordBreak") (19 : Int32) [(.ref s_OTHER), (.ref s_CR), (.ref s_LF), (.ref s_NEWLINE), (.ref s_EXTEND), (.ref s_FORMAT), (.ref s_ZWJ), (.ref s_ALETTER), (.ref s_HEBREW_LETTER), (.ref s_NUMERIC), (.ref s_KATAKANA), .null, .null, .null, .null, .null, .null, .null, .null] .null := Arv.set Ar39 q39 Sz39 Nn39 Ha39 Ga39 rfl W40 10 rfl (Nat.le_of_ble_eq_true rfl)
  have O40 := O37.wr W40 g_b7
  have N40 := Fr.snoc X40 N37 g_b7
  refine Go.st (V' := T40.setTop (mkF m 76 #[.val (.int p0), .unset, .unset, .unset, .unset] [(.ref b7)])) (fun t k => st40 t k) ?_
  refine Go.st (V' := T40.setTop (mkF m 79 #[.val (.int p0), .unset, .unset, .unset, .unset] [(.int (11 : Int32)), (.ref b7), (.ref b7)])) (fun t k => ?_) ?_
  · refine XS.dup X40.here hx rfl (hb hby at_76) rfl rfl ?_
    show Steps p.tables e below (T40.setTop (mkF m 77 #[.val (.int p0), .unset, .unset, .unset, .unset] [(.ref b7), (.ref b7)])) _
    refine XS.bipush X40.here hx rfl (hb hby at_77) ?_
    show Steps p.tables e below (T40.setTop (mkF m 79 #[.val (.int p0), .unset, .unset, .unset, .unset] [(.int (11 : Int32)), (.ref b7), (.ref b7)])) _
    exact k
  obtain ⟨T41, X41, e41, st41⟩ := getS2 X40 hx hZ hown (host := "") (Or.inl (hw _ (List.mem_of_getElem? (i := 26) rfl))) Via.refl e40 (S_EXTEND_NUM_LET.ext O40.2) (g := (mkF m 79 #[.val (.int p0), .unset, .unset, .unset, .unset] [(.int (11 : Int32)), (.ref b7), (.ref b7)])) rfl (hb hby at_79)
  refine Go.st (V' := T41.setTop (mkF m 82 #[.val (.int p0), .unset, .unset, .unset, .unset] [(.ref s_EXTEND_NUM_LET), (.int (11 : Int32)), (.ref b7), (.ref b7)])) (fun t k => st41 t k) ?_
  obtain ⟨cl42, Ar42, q42, Sz42, Nn42, Ha42, Ga42⟩ := id (V40)
  obtain ⟨T43, h43, X43, e43, W43, st43⟩ := stR X41 hx hZ e41 Ar42 (j := (11 : Int32)) (inb_of Sz42 ⟨by decide, by decide⟩) rfl (Sto.ofV Ar42 q42 Ov7 (Ins.self (E_EXTEND_NUM_LET.ext O40.2))) (g := (mkF m 82 #[.val (.int p0), .unset, .unset, .unset, .unset] [(.ref s_EXTEND_NUM_LET), (.int (11 : Int32)), (.ref b7), (.ref b7)])) rfl rfl (hb hby at_82)
  have V43 : Arv Z h43 b7 k7 (.object "com/example/hits_from_terms/hitsfromterms/analysis/WordBreak") (19 : Int32) [(.ref s_OTHER), (.ref s_CR), (.ref s_LF), (.ref s_NEWLINE), (.ref s_EXTEND), (.ref s_FORMAT), (.ref s_ZWJ), (.ref s_ALETTER), (.ref s_HEBREW_LETTER), (.ref s_NUMERIC), (.ref s_KATAKANA), (.ref s_EXTEND_NUM_LET), .null, .null, .null, .null, .null, .null, .null] .null := Arv.set Ar42 q42 Sz42 Nn42 Ha42 Ga42 rfl W43 11 rfl (Nat.le_of_ble_eq_true rfl)
  have O43 := O40.wr W43 g_b7
  have N43 := Fr.snoc X43 N40 g_b7
  refine Go.st (V' := T43.setTop (mkF m 83 #[.val (.int p0), .unset, .unset, .unset, .unset] [(.ref b7)])) (fun t k => st43 t k) ?_
  refine Go.st (V' := T43.setTop (mkF m 86 #[.val (.int p0), .unset, .unset, .unset, .unset] [(.int (12 : Int32)), (.ref b7), (.ref b7)])) (fun t k => ?_) ?_
  · refine XS.dup X43.here hx rfl (hb hby at_83) rfl rfl ?_
    show Steps p.tables e below (T43.setTop (mkF m 84 #[.val (.int p0), .unset, .unset, .unset, .unset] [(.ref b7), (.ref b7)])) _
    refine XS.bipush X43.here hx rfl (hb hby at_84) ?_
    show Steps p.tables e below (T43.setTop (mkF m 86 #[.val (.int p0), .unset, .unset, .unset, .unset] [(.int (12 : Int32)), (.ref b7), (.ref b7)])) _
    exact k
  obtain ⟨T44, X44, e44, st44⟩ := getS2 X43 hx hZ hown (host := "") (Or.inl (hw _ (List.mem_of_getElem? (i := 28) rfl))) Via.refl e43 (S_MID_LETTER.ext O43.2) (g := (mkF m 86 #[.val (.int p0), .unset, .unset, .unset, .unset] [(.int (12 : Int32)), (.ref b7), (.ref b7)])) rfl (hb hby at_86)
  refine Go.st (V' := T44.setTop (mkF m 89 #[.val (.int p0), .unset, .unset, .unset, .unset] [(.ref s_MID_LETTER), (.int (12 : Int32)), (.ref b7), (.ref b7)])) (fun t k => st44 t k) ?_
  obtain ⟨cl45, Ar45, q45, Sz45, Nn45, Ha45, Ga45⟩ := id (V43)
  obtain ⟨T46, h46, X46, e46, W46, st46⟩ := stR X44 hx hZ e44 Ar45 (j := (12 : Int32)) (inb_of Sz45 ⟨by decide, by decide⟩) rfl (Sto.ofV Ar45 q45 Ov7 (Ins.self (E_MID_LETTER.ext O43.2))) (g := (mkF m 89 #[.val (.int p0), .unset, .unset, .unset, .unset] [(.ref s_MID_LETTER), (.int (12 : Int32)), (.ref b7), (.ref b7)])) rfl rfl (hb hby at_89)
  have V46 : Arv Z h46 b7 k7 (.object "com/example/hits_from_terms/hitsfromterms/analysis/WordBreak") (19 : Int32) [(.ref s_OTHER), (.ref s_CR), (.ref s_LF), (.ref s_NEWLINE), (.ref s_EXTEND), (.ref s_FORMAT), (.ref s_ZWJ), (.ref s_ALETTER), (.ref s_HEBREW_LETTER), (.ref s_NUMERIC), (.ref s_KATAKANA), (.ref s_EXTEND_NUM_LET), (.ref s_MID_LETTER), .null, .null, .null, .null, .null, .null] .null := Arv.set Ar45 q45 Sz45 Nn45 Ha45 Ga45 rfl W46 12 rfl (Nat.le_of_ble_eq_true rfl)
  have O46 := O43.wr W46 g_b7
  have N46 := Fr.snoc X46 N43 g_b7
  refine Go.st (V' := T46.setTop (mkF m 90 #[.val (.int p0), .unset, .unset, .unset, .unset] [(.ref b7)])) (fun t k => st46 t k) ?_
  refine Go.st (V' := T46.setTop (mkF m 93 #[.val (.int p0), .unset, .unset, .unset, .unset] [(.int (13 : Int32)), (.ref b7), (.ref b7)])) (fun t k => ?_) ?_
  · refine XS.dup X46.here hx rfl (hb hby at_90) rfl rfl ?_
    show Steps p.tables e below (T46.setTop (mkF m 91 #[.val (.int p0), .unset, .unset, .unset, .unset] [(.ref b7), (.ref b7)])) _
    refine XS.bipush X46.here hx rfl (hb hby at_91) ?_
    show Steps p.tables e below (T46.setTop (mkF m 93 #[.val (.int p0), .unset, .unset, .unset, .unset] [(.int (13 : Int32)), (.ref b7), (.ref b7)])) _
    exact k
  obtain ⟨T47, X47, e47, st47⟩ := getS2 X46 hx hZ hown (host := "") (Or.inl (hw _ (List.mem_of_getElem? (i := 30) rfl))) Via.refl e46 (S_MID_NUM.ext O46.2) (g := (mkF m 93 #[.val (.int p0), .unset, .unset, .unset, .unset] [(.int (13 : Int32)), (.ref b7), (.ref b7)])) rfl (hb hby at_93)
  refine Go.st (V' := T47.setTop (mkF m 96 #[.val (.int p0), .unset, .unset, .unset, .unset] [(.ref s_MID_NUM), (.int (13 : Int32)), (.ref b7), (.ref b7)])) (fun t k => st47 t k) ?_
  obtain ⟨cl48, Ar48, q48, Sz48, Nn48, Ha48, Ga48⟩ := id (V46)
  obtain ⟨T49, h49, X49, e49, W49, st49⟩ := stR X47 hx hZ e47 Ar48 (j := (13 : Int32)) (inb_of Sz48 ⟨by decide, by decide⟩) rfl (Sto.ofV Ar48 q48 Ov7 (Ins.self (E_MID_NUM.ext O46.2))) (g := (mkF m 96 #[.val (.int p0), .unset, .unset, .unset, .unset] [(.ref s_MID_NUM), (.int (13 : Int32)), (.ref b7), (.ref b7)])) rfl rfl (hb hby at_96)
  have V49 : Arv Z h49 b7 k7 (.object "com/example/hits_from_terms/hitsfromterms/analysis/WordBreak") (19 : Int32) [(.ref s_OTHER), (.ref s_CR), (.ref s_LF), (.ref s_NEWLINE), (.ref s_EXTEND), (.ref s_FORMAT), (.ref s_ZWJ), (.ref s_ALETTER), (.ref s_HEBREW_LETTER), (.ref s_NUMERIC), (.ref s_KATAKANA), (.ref s_EXTEND_NUM_LET), (.ref s_MID_LETTER), (.ref s_MID_NUM), .null, .null, .null, .null, .null] .null := Arv.set Ar48 q48 Sz48 Nn48 Ha48 Ga48 rfl W49 13 rfl (Nat.le_of_ble_eq_true rfl)
  have O49 := O46.wr W49 g_b7
  have N49 := Fr.snoc X49 N46 g_b7
  refine Go.st (V' := T49.setTop (mkF m 97 #[.val (.int p0), .unset, .unset, .unset, .unset] [(.ref b7)])) (fun t k => st49 t k) ?_
  refine Go.st (V' := T49.setTop (mkF m 100 #[.val (.int p0), .unset, .unset, .unset, .unset] [(.int (14 : Int32)), (.ref b7), (.ref b7)])) (fun t k => ?_) ?_
  · refine XS.dup X49.here hx rfl (hb hby at_97) rfl rfl ?_
    show Steps p.tables e below (T49.setTop (mkF m 98 #[.val (.int p0), .unset, .unset, .unset, .unset] [(.ref b7), (.ref b7)])) _
    refine XS.bipush X49.here hx rfl (hb hby at_98) ?_
    show Steps p.tables e below (T49.setTop (mkF m 100 #[.val (.int p0), .unset, .unset, .unset, .unset] [(.int (14 : Int32)), (.ref b7), (.ref b7)])) _
    exact k
  obtain ⟨T50, X50, e50, st50⟩ := getS2 X49 hx hZ hown (host := "") (Or.inl (hw _ (List.mem_of_getElem? (i := 32) rfl))) Via.refl e49 (S_MID_NUM_LET.ext O49.2) (g := (mkF m 100 #[.val (.int p0), .unset, .unset, .unset, .unset] [(.int (14 : Int32)), (.ref b7), (.ref b7)])) rfl (hb hby at_100)
  refine Go.st (V' := T50.setTop (mkF m 103 #[.val (.int p0), .unset, .unset, .unset, .unset] [(.ref s_MID_NUM_LET), (.int (14 : Int32)), (.ref b7), (.ref b7)])) (fun t k => st50 t k) ?_
  obtain ⟨cl51, Ar51, q51, Sz51, Nn51, Ha51, Ga51⟩ := id (V49)
  obtain ⟨T52, h52, X52, e52, W52, st52⟩ := stR X50 hx hZ e50 Ar51 (j := (14 : Int32)) (inb_of Sz51 ⟨by decide, by decide⟩) rfl (Sto.ofV Ar51 q51 Ov7 (Ins.self (E_MID_NUM_LET.ext O49.2))) (g := (mkF m 103 #[.val (.int p0), .unset, .unset, .unset, .unset] [(.ref s_MID_NUM_LET), (.int (14 : Int32)), (.ref b7), (.ref b7)])) rfl rfl (hb hby at_103)
  have V52 : Arv Z h52 b7 k7 (.object "com/example/hits_from_terms/hitsfromterms/analysis/WordBreak") (19 : Int32) [(.ref s_OTHER), (.ref s_CR), (.ref s_LF), (.ref s_NEWLINE), (.ref s_EXTEND), (.ref s_FORMAT), (.ref s_ZWJ), (.ref s_ALETTER), (.ref s_HEBREW_LETTER), (.ref s_NUMERIC), (.ref s_KATAKANA), (.ref s_EXTEND_NUM_LET), (.ref s_MID_LETTER), (.ref s_MID_NUM), (.ref s_MID_NUM_LET), .null, .null, .null, .null] .null := Arv.set Ar51 q51 Sz51 Nn51 Ha51 Ga51 rfl W52 14 rfl (Nat.le_of_ble_eq_true rfl)
  have O52 := O49.wr W52 g_b7
  have N52 := Fr.snoc X52 N49 g_b7
  refine Go.st (V' := T52.setTop (mkF m 104 #[.val (.int p0), .unset, .unset, .unset, .unset] [(.ref b7)])) (fun t k => st52 t k) ?_
  refine Go.st (V' := T52.setTop (mkF m 107 #[.val (.int p0), .unset, .unset, .unset, .unset] [(.int (15 : Int32)), (.ref b7), (.ref b7)])) (fun t k => ?_) ?_
  · refine XS.dup X52.here hx rfl (hb hby at_104) rfl rfl ?_
    show Steps p.tables e below (T52.setTop (mkF m 105 #[.val (.int p0), .unset, .unset, .unset, .unset] [(.ref b7), (.ref b7)])) _
    refine XS.bipush X52.here hx rfl (hb hby at_105) ?_
    show Steps p.tables e below (T52.setTop (mkF m 107 #[.val (.int p0), .unset, .unset, .unset, .unset] [(.int (15 : Int32)), (.ref b7), (.ref b7)])) _
    exact k
  obtain ⟨T53, X53, e53, st53⟩ := getS2 X52 hx hZ hown (host := "") (Or.inl (hw _ (List.mem_of_getElem? (i := 34) rfl))) Via.refl e52 (S_SINGLE_QUOTE.ext O52.2) (g := (mkF m 107 #[.val (.int p0), .unset, .unset, .unset, .unset] [(.int (15 : Int32)), (.ref b7), (.ref b7)])) rfl (hb hby at_107)
  refine Go.st (V' := T53.setTop (mkF m 110 #[.val (.int p0), .unset, .unset, .unset, .unset] [(.ref s_SINGLE_QUOTE), (.int (15 : Int32)), (.ref b7), (.ref b7)])) (fun t k => st53 t k) ?_
  obtain ⟨cl54, Ar54, q54, Sz54, Nn54, Ha54, Ga54⟩ := id (V52)
  obtain ⟨T55, h55, X55, e55, W55, st55⟩ := stR X53 hx hZ e53 Ar54 (j := (15 : Int32)) (inb_of Sz54 ⟨by decide, by decide⟩) rfl (Sto.ofV Ar54 q54 Ov7 (Ins.self (E_SINGLE_QUOTE.ext O52.2))) (g := (mkF m 110 #[.val (.int p0), .unset, .unset, .unset, .unset] [(.ref s_SINGLE_QUOTE), (.int (15 : Int32)), (.ref b7), (.ref b7)])) rfl rfl (hb hby at_110)
  have V55 : Arv Z h55 b7 k7 (.object "com/example/hits_from_terms/hitsfromterms/analysis/WordBreak") (19 : Int32) [(.ref s_OTHER), (.ref s_CR), (.ref s_LF), (.ref s_NEWLINE), (.ref s_EXTEND), (.ref s_FORMAT), (.ref s_ZWJ), (.ref s_ALETTER), (.ref s_HEBREW_LETTER), (.ref s_NUMERIC), (.ref s_KATAKANA), (.ref s_EXTEND_NUM_LET), (.ref s_MID_LETTER), (.ref s_MID_NUM), (.ref s_MID_NUM_LET), (.ref s_SINGLE_QUOTE), .null, .null, .null] .null := Arv.set Ar54 q54 Sz54 Nn54 Ha54 Ga54 rfl W55 15 rfl (Nat.le_of_ble_eq_true rfl)
  have O55 := O52.wr W55 g_b7
  have N55 := Fr.snoc X55 N52 g_b7
  refine Go.st (V' := T55.setTop (mkF m 111 #[.val (.int p0), .unset, .unset, .unset, .unset] [(.ref b7)])) (fun t k => st55 t k) ?_
  refine Go.st (V' := T55.setTop (mkF m 114 #[.val (.int p0), .unset, .unset, .unset, .unset] [(.int (16 : Int32)), (.ref b7), (.ref b7)])) (fun t k => ?_) ?_
  · refine XS.dup X55.here hx rfl (hb hby at_111) rfl rfl ?_
    show Steps p.tables e below (T55.setTop (mkF m 112 #[.val (.int p0), .unset, .unset, .unset, .unset] [(.ref b7), (.ref b7)])) _
    refine XS.bipush X55.here hx rfl (hb hby at_112) ?_
    show Steps p.tables e below (T55.setTop (mkF m 114 #[.val (.int p0), .unset, .unset, .unset, .unset] [(.int (16 : Int32)), (.ref b7), (.ref b7)])) _
    exact k
  obtain ⟨T56, X56, e56, st56⟩ := getS2 X55 hx hZ hown (host := "") (Or.inl (hw _ (List.mem_of_getElem? (i := 36) rfl))) Via.refl e55 (S_DOUBLE_QUOTE.ext O55.2) (g := (mkF m 114 #[.val (.int p0), .unset, .unset, .unset, .unset] [(.int (16 : Int32)), (.ref b7), (.ref b7)])) rfl (hb hby at_114)
  refine Go.st (V' := T56.setTop (mkF m 117 #[.val (.int p0), .unset, .unset, .unset, .unset] [(.ref s_DOUBLE_QUOTE), (.int (16 : Int32)), (.ref b7), (.ref b7)])) (fun t k => st56 t k) ?_
  obtain ⟨cl57, Ar57, q57, Sz57, Nn57, Ha57, Ga57⟩ := id (V55)
  obtain ⟨T58, h58, X58, e58, W58, st58⟩ := stR X56 hx hZ e56 Ar57 (j := (16 : Int32)) (inb_of Sz57 ⟨by decide, by decide⟩) rfl (Sto.ofV Ar57 q57 Ov7 (Ins.self (E_DOUBLE_QUOTE.ext O55.2))) (g := (mkF m 117 #[.val (.int p0), .unset, .unset, .unset, .unset] [(.ref s_DOUBLE_QUOTE), (.int (16 : Int32)), (.ref b7), (.ref b7)])) rfl rfl (hb hby at_117)
  have V58 : Arv Z h58 b7 k7 (.object "com/example/hits_from_terms/hitsfromterms/analysis/WordBreak") (19 : Int32) [(.ref s_OTHER), (.ref s_CR), (.ref s_LF), (.ref s_NEWLINE), (.ref s_EXTEND), (.ref s_FORMAT), (.ref s_ZWJ), (.ref s_ALETTER), (.ref s_HEBREW_LETTER), (.ref s_NUMERIC), (.ref s_KATAKANA), (.ref s_EXTEND_NUM_LET), (.ref s_MID_LETTER), (.ref s_MID_NUM), (.ref s_MID_NUM_LET), (.ref s_SINGLE_QUOTE), (.ref s_DOUBLE_QUOTE), .null, .null] .null := Arv.set Ar57 q57 Sz57 Nn57 Ha57 Ga57 rfl W58 16 rfl (Nat.le_of_ble_eq_true rfl)
  have O58 := O55.wr W58 g_b7
  have N58 := Fr.snoc X58 N55 g_b7
  refine Go.st (V' := T58.setTop (mkF m 118 #[.val (.int p0), .unset, .unset, .unset, .unset] [(.ref b7)])) (fun t k => st58 t k) ?_
  refine Go.st (V' := T58.setTop (mkF m 121 #[.val (.int p0), .unset, .unset, .unset, .unset] [(.int (17 : Int32)), (.ref b7), (.ref b7)])) (fun t k => ?_) ?_
  · refine XS.dup X58.here hx rfl (hb hby at_118) rfl rfl ?_
    show Steps p.tables e below (T58.setTop (mkF m 119 #[.val (.int p0), .unset, .unset, .unset, .unset] [(.ref b7), (.ref b7)])) _
    refine XS.bipush X58.here hx rfl (hb hby at_119) ?_
    show Steps p.tables e below (T58.setTop (mkF m 121 #[.val (.int p0), .unset, .unset, .unset, .unset] [(.int (17 : Int32)), (.ref b7), (.ref b7)])) _
    exact k
  obtain ⟨T59, X59, e59, st59⟩ := getS2 X58 hx hZ hown (host := "") (Or.inl (hw _ (List.mem_of_getElem? (i := 38) rfl))) Via.refl e58 (S_REGIONAL_INDICATOR.ext O58.2) (g := (mkF m 121 #[.val (.int p0), .unset, .unset, .unset, .unset] [(.int (17 : Int32)), (.ref b7), (.ref b7)])) rfl (hb hby at_121)
  refine Go.st (V' := T59.setTop (mkF m 124 #[.val (.int p0), .unset, .unset, .unset, .unset] [(.ref s_REGIONAL_INDICATOR), (.int (17 : Int32)), (.ref b7), (.ref b7)])) (fun t k => st59 t k) ?_
  obtain ⟨cl60, Ar60, q60, Sz60, Nn60, Ha60, Ga60⟩ := id (V58)
  obtain ⟨T61, h61, X61, e61, W61, st61⟩ := stR X59 hx hZ e59 Ar60 (j := (17 : Int32)) (inb_of Sz60 ⟨by decide, by decide⟩) rfl (Sto.ofV Ar60 q60 Ov7 (Ins.self (E_REGIONAL_INDICATOR.ext O58.2))) (g := (mkF m 124 #[.val (.int p0), .unset, .unset, .unset, .unset] [(.ref s_REGIONAL_INDICATOR), (.int (17 : Int32)), (.ref b7), (.ref b7)])) rfl rfl (hb hby at_124)
  have V61 : Arv Z h61 b7 k7 (.object "com/example/hits_from_terms/hitsfromterms/analysis/WordBreak") (19 : Int32) [(.ref s_OTHER), (.ref s_CR), (.ref s_LF), (.ref s_NEWLINE), (.ref s_EXTEND), (.ref s_FORMAT), (.ref s_ZWJ), (.ref s_ALETTER), (.ref s_HEBREW_LETTER), (.ref s_NUMERIC), (.ref s_KATAKANA), (.ref s_EXTEND_NUM_LET), (.ref s_MID_LETTER), (.ref s_MID_NUM), (.ref s_MID_NUM_LET), (.ref s_SINGLE_QUOTE), (.ref s_DOUBLE_QUOTE), (.ref s_REGIONAL_INDICATOR), .null] .null := Arv.set Ar60 q60 Sz60 Nn60 Ha60 Ga60 rfl W61 17 rfl (Nat.le_of_ble_eq_true rfl)
  have O61 := O58.wr W61 g_b7
  have N61 := Fr.snoc X61 N58 g_b7
  refine Go.st (V' := T61.setTop (mkF m 125 #[.val (.int p0), .unset, .unset, .unset, .unset] [(.ref b7)])) (fun t k => st61 t k) ?_
  refine Go.st (V' := T61.setTop (mkF m 128 #[.val (.int p0), .unset, .unset, .unset, .unset] [(.int (18 : Int32)), (.ref b7), (.ref b7)])) (fun t k => ?_) ?_
  · refine XS.dup X61.here hx rfl (hb hby at_125) rfl rfl ?_
    show Steps p.tables e below (T61.setTop (mkF m 126 #[.val (.int p0), .unset, .unset, .unset, .unset] [(.ref b7), (.ref b7)])) _
    refine XS.bipush X61.here hx rfl (hb hby at_126) ?_
    show Steps p.tables e below (T61.setTop (mkF m 128 #[.val (.int p0), .unset, .unset, .unset, .unset] [(.int (18 : Int32)), (.ref b7), (.ref b7)])) _
    exact k
  obtain ⟨T62, X62, e62, st62⟩ := getS2 X61 hx hZ hown (host := "") (Or.inl (hw _ (List.mem_of_getElem? (i := 40) rfl))) Via.refl e61 (S_WSEG_SPACE.ext O61.2) (g := (mkF m 128 #[.val (.int p0), .unset, .unset, .unset, .unset] [(.int (18 : Int32)), (.ref b7), (.ref b7)])) rfl (hb hby at_128)
  refine Go.st (V' := T62.setTop (mkF m 131 #[.val (.int p0), .unset, .unset, .unset, .unset] [(.ref s_WSEG_SPACE), (.int (18 : Int32)), (.ref b7), (.ref b7)])) (fun t k => st62 t k) ?_
  obtain ⟨cl63, Ar63, q63, Sz63, Nn63, Ha63, Ga63⟩ := id (V61)
  obtain ⟨T64, h64, X64, e64, W64, st64⟩ := stR X62 hx hZ e62 Ar63 (j := (18 : Int32)) (inb_of Sz63 ⟨by decide, by decide⟩) rfl (Sto.ofV Ar63 q63 Ov7 (Ins.self (E_WSEG_SPACE.ext O61.2))) (g := (mkF m 131 #[.val (.int p0), .unset, .unset, .unset, .unset] [(.ref s_WSEG_SPACE), (.int (18 : Int32)), (.ref b7), (.ref b7)])) rfl rfl (hb hby at_131)
  have V64 : Arv Z h64 b7 k7 (.object "com/example/hits_from_terms/hitsfromterms/analysis/WordBreak") (19 : Int32) [(.ref s_OTHER), (.ref s_CR), (.ref s_LF), (.ref s_NEWLINE), (.ref s_EXTEND), (.ref s_FORMAT), (.ref s_ZWJ), (.ref s_ALETTER), (.ref s_HEBREW_LETTER), (.ref s_NUMERIC), (.ref s_KATAKANA), (.ref s_EXTEND_NUM_LET), (.ref s_MID_LETTER), (.ref s_MID_NUM), (.ref s_MID_NUM_LET), (.ref s_SINGLE_QUOTE), (.ref s_DOUBLE_QUOTE), (.ref s_REGIONAL_INDICATOR), (.ref s_WSEG_SPACE)] .null := Arv.set Ar63 q63 Sz63 Nn63 Ha63 Ga63 rfl W64 18 rfl (Nat.le_of_ble_eq_true rfl)
  have O64 := O61.wr W64 g_b7
  have N64 := Fr.snoc X64 N61 g_b7
  refine Go.st (V' := T64.setTop (mkF m 132 #[.val (.int p0), .unset, .unset, .unset, .unset] [(.ref b7)])) (fun t k => st64 t k) ?_
  refine Go.st (V' := T64.setTop (mkF m 141 #[.val (.int p0), .val (.ref b7), .val (.int ((p0 &&& (2147483647 : Int32)) % (19 : Int32))), .unset, .unset] [])) (fun t k => ?_) ?_
  · refine XS.astoreN X64.here hx rfl (hb hby at_132) rfl rfl (l' := #[.val (.int p0), .val (.ref b7), .unset, .unset, .unset]) rfl ?_
    show Steps p.tables e below (T64.setTop (mkF m 133 #[.val (.int p0), .val (.ref b7), .unset, .unset, .unset] [])) _
    refine XS.iloadN X64.here hx rfl (hb hby at_133) rfl  ?_
    show Steps p.tables e below (T64.setTop (mkF m 134 #[.val (.int p0), .val (.ref b7), .unset, .unset, .unset] [(.int p0)])) _
    refine X64.ldcInt hx hown (mvT hZ (hw _ (List.mem_of_getElem? (i := 42) rfl))) (g := (mkF m 134 #[.val (.int p0), .val (.ref b7), .unset, .unset, .unset] [(.int p0)])) rfl (hb hby at_134) _ ?_
    show Steps p.tables e below (T64.setTop (mkF m 136 #[.val (.int p0), .val (.ref b7), .unset, .unset, .unset] [(.int (2147483647 : Int32)), (.int p0)])) _
    refine XS.iand X64.here hx rfl (hb hby at_136) rfl ?_
    show Steps p.tables e below (T64.setTop (mkF m 137 #[.val (.int p0), .val (.ref b7), .unset, .unset, .unset] [(.int (p0 &&& (2147483647 : Int32)))])) _
    refine XS.bipush X64.here hx rfl (hb hby at_137) ?_
    show Steps p.tables e below (T64.setTop (mkF m 139 #[.val (.int p0), .val (.ref b7), .unset, .unset, .unset] [(.int (19 : Int32)), (.int (p0 &&& (2147483647 : Int32)))])) _
    refine iremM X64 hx rfl (hb hby at_139) rfl (by decide) ?_
    show Steps p.tables e below (T64.setTop (mkF m 140 #[.val (.int p0), .val (.ref b7), .unset, .unset, .unset] [(.int ((p0 &&& (2147483647 : Int32)) % (19 : Int32)))])) _
    refine XS.istoreN X64.here hx rfl (hb hby at_140) rfl (l' := #[.val (.int p0), .val (.ref b7), .val (.int ((p0 &&& (2147483647 : Int32)) % (19 : Int32))), .unset, .unset]) rfl ?_
    show Steps p.tables e below (T64.setTop (mkF m 141 #[.val (.int p0), .val (.ref b7), .val (.int ((p0 &&& (2147483647 : Int32)) % (19 : Int32))), .unset, .unset] [])) _
    exact k
  obtain ⟨Lg65, X65, N65⟩ : ∃ L, Stand p l e room_1 s m #[(.int p0)] below meth c T64 L 1 19 ∧ Fr n0 L := ⟨_, X64, N64⟩
  obtain ⟨k_2, h_k_2⟩ : ∃ z, z = ((p0 &&& (2147483647 : Int32)) % (19 : Int32)) := ⟨_, rfl⟩
  rw [← h_k_2]
  have hrg_k_2 : 0 ≤ k_2.toInt ∧ k_2.toInt < 19 := by rw [h_k_2]; exact own_rng _ _ _ (by decide) (by decide)
  rcases own_cases19 hrg_k_2 with rfl | rfl | rfl | rfl | rfl | rfl | rfl | rfl | rfl | rfl | rfl | rfl | rfl | rfl | rfl | rfl | rfl | rfl | rfl
  · show Go p e below _ (T64.setTop (mkF m 141 #[.val (.int p0), .val (.ref b7), .val (.int (0 : Int32)), .unset, .unset] []))
    refine Go.st (V' := T64.setTop (mkF m 143 #[.val (.int p0), .val (.ref b7), .val (.int (0 : Int32)), .unset, .unset] [(.int (0 : Int32)), (.ref b7)])) (fun t k => ?_) ?_
    · refine XS.aloadN X65.here hx rfl (hb hby at_141) rfl rfl ?_
      show Steps p.tables e below (T64.setTop (mkF m 142 #[.val (.int p0), .val (.ref b7), .val (.int (0 : Int32)), .unset, .unset] [(.ref b7)])) _
      refine XS.iloadN X65.here hx rfl (hb hby at_142) rfl  ?_
      show Steps p.tables e below (T64.setTop (mkF m 143 #[.val (.int p0), .val (.ref b7), .val (.int (0 : Int32)), .unset, .unset] [(.int (0 : Int32)), (.ref b7)])) _
      exact k
    obtain ⟨cl66, Ar66, q66, Sz66, Nn66, Ha66, Ga66⟩ := id (V64)
    have hin66 : ¬ ((0 : Int32) < 0 ∨ cl66.slots.size ≤ ((0 : Int32)).toNatClampNeg) := inb_of Sz66 ⟨by decide, by decide⟩
    refine Go.st (V' := T64.setTop (mkF m 146 #[.val (.int p0), .val (.ref b7), .val (.int (0 : Int32)), .val (.ref s_OTHER), .unset] [(.ref s_OTHER)])) (fun t k => ?_) ?_
    · show Steps p.tables e below (T64.setTop (mkF m 143 #[.val (.int p0), .val (.ref b7), .val (.int (0 : Int32)), .unset, .unset] [(.int (0 : Int32)), (.ref b7)])) _
      refine X65.aaload hx (j := (0 : Int32)) (v := (.ref s_OTHER)) (own_eT e64 Ar66) (State.isArrayOf_alike hZ.alike Ar66.2.1) rfl Ar66.2.2 hin66 (Ha66.at hin66 rfl) (g := (mkF m 143 #[.val (.int p0), .val (.ref b7), .val (.int (0 : Int32)), .unset, .unset] [(.int (0 : Int32)), (.ref b7)])) rfl rfl (hb hby at_143) _ ?_
      show Steps p.tables e below (T64.setTop (mkF m 144 #[.val (.int p0), .val (.ref b7), .val (.int (0 : Int32)), .unset, .unset] [(.ref s_OTHER)])) _
      refine XS.astoreN X65.here hx rfl (hb hby at_144) rfl rfl (l' := #[.val (.int p0), .val (.ref b7), .val (.int (0 : Int32)), .val (.ref s_OTHER), .unset]) rfl ?_
      show Steps p.tables e below (T64.setTop (mkF m 145 #[.val (.int p0), .val (.ref b7), .val (.int (0 : Int32)), .val (.ref s_OTHER), .unset] [])) _
      refine XS.aloadN X65.here hx rfl (hb hby at_145) rfl rfl ?_
      show Steps p.tables e below (T64.setTop (mkF m 146 #[.val (.int p0), .val (.ref b7), .val (.int (0 : Int32)), .val (.ref s_OTHER), .unset] [(.ref s_OTHER)])) _
      exact k
    obtain ⟨T67, X67, e67, st67⟩ := getS2 X65 hx hZ hown (host := "") (Or.inl (hw _ (List.mem_of_getElem? (i := 28) rfl))) Via.refl e64 (S_MID_LETTER.ext O64.2) (g := (mkF m 146 #[.val (.int p0), .val (.ref b7), .val (.int (0 : Int32)), .val (.ref s_OTHER), .unset] [(.ref s_OTHER)])) rfl (hb hby at_146)
    refine Go.st (V' := T67.setTop (mkF m 149 #[.val (.int p0), .val (.ref b7), .val (.int (0 : Int32)), .val (.ref s_OTHER), .unset] [(.ref s_MID_LETTER), (.ref s_OTHER)])) (fun t k => st67 t k) ?_
    refine Go.st (V' := T67.setTop (mkF m 153 #[.val (.int p0), .val (.ref b7), .val (.int (0 : Int32)), .val (.ref s_OTHER), .unset] [(.ref s_OTHER)])) (fun t k => ?_) ?_
    · refine Jvm.RoadKit.acmp (g := (mkF m 149 #[.val (.int p0), .val (.ref b7), .val (.int (0 : Int32)), .val (.ref s_OTHER), .unset] [(.ref s_MID_LETTER), (.ref s_OTHER)])) X67 hx rfl rfl rfl (pc0 := 149) (pc' := 152) (same := false) rfl (hb hby at_149) rfl (decide_eq_false fun q => (Fld.ne (F_OTHER_ordinal.ext O64.2) (F_MID_LETTER_ordinal.ext O64.2) (by decide)) (Value.ref.inj q)) (by decide) (by decide) ?_
      show Steps p.tables e below (T67.setTop (mkF m 152 #[.val (.int p0), .val (.ref b7), .val (.int (0 : Int32)), .val (.ref s_OTHER), .unset] [])) _
      refine XS.aloadN X67.here hx rfl (hb hby at_152) rfl rfl ?_
      show Steps p.tables e below (T67.setTop (mkF m 153 #[.val (.int p0), .val (.ref b7), .val (.int (0 : Int32)), .val (.ref s_OTHER), .unset] [(.ref s_OTHER)])) _
      exact k
    obtain ⟨T68, X68, e68, st68⟩ := getS2 X67 hx hZ hown (host := "") (Or.inl (hw _ (List.mem_of_getElem? (i := 32) rfl))) Via.refl e67 (S_MID_NUM_LET.ext O64.2) (g := (mkF m 153 #[.val (.int p0), .val (.ref b7), .val (.int (0 : Int32)), .val (.ref s_OTHER), .unset] [(.ref s_OTHER)])) rfl (hb hby at_153)
    refine Go.st (V' := T68.setTop (mkF m 156 #[.val (.int p0), .val (.ref b7), .val (.int (0 : Int32)), .val (.ref s_OTHER), .unset] [(.ref s_MID_NUM_LET), (.ref s_OTHER)])) (fun t k => st68 t k) ?_
    refine Go.st (V' := T68.setTop (mkF m 160 #[.val (.int p0), .val (.ref b7), .val (.int (0 : Int32)), .val (.ref s_OTHER), .unset] [(.ref s_OTHER)])) (fun t k => ?_) ?_
    · refine Jvm.RoadKit.acmp (g := (mkF m 156 #[.val (.int p0), .val (.ref b7), .val (.int (0 : Int32)), .val (.ref s_OTHER), .unset] [(.ref s_MID_NUM_LET), (.ref s_OTHER)])) X68 hx rfl rfl rfl (pc0 := 156) (pc' := 159) (same := false) rfl (hb hby at_156) rfl (decide_eq_false fun q => (Fld.ne (F_OTHER_ordinal.ext O64.2) (F_MID_NUM_LET_ordinal.ext O64.2) (by decide)) (Value.ref.inj q)) (by decide) (by decide) ?_
      show Steps p.tables e below (T68.setTop (mkF m 159 #[.val (.int p0), .val (.ref b7), .val (.int (0 : Int32)), .val (.ref s_OTHER), .unset] [])) _
      refine XS.aloadN X68.here hx rfl (hb hby at_159) rfl rfl ?_
      show Steps p.tables e below (T68.setTop (mkF m 160 #[.val (.int p0), .val (.ref b7), .val (.int (0 : Int32)), .val (.ref s_OTHER), .unset] [(.ref s_OTHER)])) _
      exact k
    obtain ⟨T69, X69, e69, st69⟩ := getS2 X68 hx hZ hown (host := "") (Or.inl (hw _ (List.mem_of_getElem? (i := 34) rfl))) Via.refl e68 (S_SINGLE_QUOTE.ext O64.2) (g := (mkF m 160 #[.val (.int p0), .val (.ref b7), .val (.int (0 : Int32)), .val (.ref s_OTHER), .unset] [(.ref s_OTHER)])) rfl (hb hby at_160)
    refine Go.st (V' := T69.setTop (mkF m 163 #[.val (.int p0), .val (.ref b7), .val (.int (0 : Int32)), .val (.ref s_OTHER), .unset] [(.ref s_SINGLE_QUOTE), (.ref s_OTHER)])) (fun t k => st69 t k) ?_
    refine Go.st (V' := T69.setTop (mkF m 174 #[.val (.int p0), .val (.ref b7), .val (.int (0 : Int32)), .val (.ref s_OTHER), .val (.int (0 : Int32))] [(.ref s_OTHER)])) (fun t k => ?_) ?_
    · refine Jvm.RoadKit.acmp (g := (mkF m 163 #[.val (.int p0), .val (.ref b7), .val (.int (0 : Int32)), .val (.ref s_OTHER), .unset] [(.ref s_SINGLE_QUOTE), (.ref s_OTHER)])) X69 hx rfl rfl rfl (pc0 := 163) (pc' := 170) (same := false) rfl (hb hby at_163) rfl (decide_eq_false fun q => (Fld.ne (F_OTHER_ordinal.ext O64.2) (F_SINGLE_QUOTE_ordinal.ext O64.2) (by decide)) (Value.ref.inj q)) (by decide) (by decide) ?_
      show Steps p.tables e below (T69.setTop (mkF m 170 #[.val (.int p0), .val (.ref b7), .val (.int (0 : Int32)), .val (.ref s_OTHER), .unset] [])) _
      refine XS.iconst X69.here hx rfl (hb hby at_170) ?_
      show Steps p.tables e below (T69.setTop (mkF m 171 #[.val (.int p0), .val (.ref b7), .val (.int (0 : Int32)), .val (.ref s_OTHER), .unset] [(.int (0 : Int32))])) _
      refine XS.istore X69.here hx rfl (hb hby at_171) rfl (l' := #[.val (.int p0), .val (.ref b7), .val (.int (0 : Int32)), .val (.ref s_OTHER), .val (.int (0 : Int32))]) rfl ?_
      show Steps p.tables e below (T69.setTop (mkF m 173 #[.val (.int p0), .val (.ref b7), .val (.int (0 : Int32)), .val (.ref s_OTHER), .val (.int (0 : Int32))] [])) _
      refine XS.aloadN X69.here hx rfl (hb hby at_173) rfl rfl ?_
      show Steps p.tables e below (T69.setTop (mkF m 174 #[.val (.int p0), .val (.ref b7), .val (.int (0 : Int32)), .val (.ref s_OTHER), .val (.int (0 : Int32))] [(.ref s_OTHER)])) _
      exact k
    obtain ⟨cq70, kq70, q70a, q70b, q70c⟩ := isOf hZ e69 (E_OTHER.ext O64.2)
    obtain ⟨_, _, ⟨T70, L70, k70, n70⟩, -, X70, ⟨Lc70, hQ70, l70, y70, z70⟩, st70⟩ := X69.virtualBack hx (y := (⟨"com/example/hits_from_terms/hitsfromterms/analysis/WordBreak", "isMidLetter", "()Z"⟩ : MethodName)) (z := (⟨"com/example/hits_from_terms/hitsfromterms/analysis/WordBreak", "isMidLetter", "()Z"⟩ : MethodName)) hown (mvT hZ (hw _ (List.mem_of_getElem? (i := 43) rfl))) (mvT hZ (hw _ (List.mem_of_getElem? (i := 44) rfl))) (notFace_of_selects (args := #[]) (mvT hZ (hw _ (List.mem_of_getElem? (i := 46) rfl)))) (mvT hZ (hw _ (List.mem_of_getElem? (i := 46) rfl))) (mvT hZ (hw _ (List.mem_of_getElem? (i := 45) rfl))) (by decide) (backOf (W := 0) (rm1 l Z a0 hw [] s_OTHER s_CR s_LF s_NEWLINE s_EXTEND s_FORMAT s_ZWJ s_ALETTER s_HEBREW_LETTER s_NUMERIC s_KATAKANA s_EXTEND_NUM_LET s_MID_LETTER s_MID_NUM s_MID_NUM_LET s_SINGLE_QUOTE s_DOUBLE_QUOTE s_REGIONAL_INDICATOR s_WSEG_SPACE HW s_OTHER h64 n0 O64) hZ (hw _ (List.mem_of_getElem? (i := 47) rfl)) (hw _ (List.mem_of_getElem? (i := 3) rfl)) (by decide) (by decide)) q70a q70c (g := (mkF m 174 #[.val (.int p0), .val (.ref b7), .val (.int (0 : Int32)), .val (.ref s_OTHER), .val (.int (0 : Int32))] [(.ref s_OTHER)])) rfl (by rw [hml]; rfl) (Steps.refl _) (argsL := []) (rest := []) (lenOf own_pd13 rfl) rfl (by show 2 * 0 + _ ≤ _; exact Nat.le_of_eq rfl) (hb hby at_174) (fun _ _ => ⟨rfl, e69, (by decide : 1 + 0 ≤ _), (by decide : 19 + 0 ≤ _)⟩)
    dsimp only [Pt.U, Pt.locs, Pt.cells, Pt.slots] at X70 l70 y70 z70 st70 hQ70
    subst l70 y70 z70
    obtain ⟨rfl, N70q, e70⟩ := hQ70
    have N70 := Fr.app N65 N70q
    refine Go.st (V' := T70.setTop (mkF m 177 #[.val (.int p0), .val (.ref b7), .val (.int (0 : Int32)), .val (.ref s_OTHER), .val (.int (0 : Int32))] [(.int (f1 s_MID_LETTER s_MID_NUM_LET s_SINGLE_QUOTE s_OTHER))])) (fun t k => st70.trans k) ?_
    have r71 : (f1 s_MID_LETTER s_MID_NUM_LET s_SINGLE_QUOTE s_OTHER) = (0 : Int32) := by rw [f1, if_neg (Fld.ne (F_OTHER_ordinal.ext O64.2) (F_MID_LETTER_ordinal.ext O64.2) (by decide)), if_neg (Fld.ne (F_OTHER_ordinal.ext O64.2) (F_MID_NUM_LET_ordinal.ext O64.2) (by decide)), if_neg (Fld.ne (F_OTHER_ordinal.ext O64.2) (F_SINGLE_QUOTE_ordinal.ext O64.2) (by decide))]
    rw [r71]
    refine Go.st (V' := T70.setTop (mkF m 187 #[.val (.int p0), .val (.ref b7), .val (.int (0 : Int32)), .val (.ref s_OTHER), .val (.int (0 : Int32))] [(.int (1 : Int32))])) (fun t k => ?_) ?_
    · refine XS.iload X70.here hx rfl (hb hby at_177) rfl  ?_
      show Steps p.tables e below (T70.setTop (mkF m 179 #[.val (.int p0), .val (.ref b7), .val (.int (0 : Int32)), .val (.ref s_OTHER), .val (.int (0 : Int32))] [(.int (0 : Int32)), (.int (0 : Int32))])) _
      refine XS.icmpNo X70.here hx rfl (hb hby at_179) rfl (teq (by decide : ((0 : Int32) = (0 : Int32)))).2 ?_
      show Steps p.tables e below (T70.setTop (mkF m 182 #[.val (.int p0), .val (.ref b7), .val (.int (0 : Int32)), .val (.ref s_OTHER), .val (.int (0 : Int32))] [])) _
      refine XS.iconst X70.here hx rfl (hb hby at_182) ?_
      show Steps p.tables e below (T70.setTop (mkF m 183 #[.val (.int p0), .val (.ref b7), .val (.int (0 : Int32)), .val (.ref s_OTHER), .val (.int (0 : Int32))] [(.int (1 : Int32))])) _
      refine XS.goto X70.here hx rfl (pc0 := 183) (pc' := 187) rfl (hb hby at_183) (by decide) (by decide) ?_
      show Steps p.tables e below (T70.setTop (mkF m 187 #[.val (.int p0), .val (.ref b7), .val (.int (0 : Int32)), .val (.ref s_OTHER), .val (.int (0 : Int32))] [(.int (1 : Int32))])) _
      exact k
    obtain ⟨fs, hr, hrun, hended, hW, hsame⟩ := X70.leave (v := some (.int (1 : Int32))) (fun h => by rw [Bd.returns] at h; cases h)
    refine Go.mk' ⟨_, _, retN X70 hx (t := .boolean) Bd.returns (by simp) (hb hby at_187) hr, hrun, hended, _, _, rfl, ?_, ⟨_, rfl⟩, hW, hsame.mono (by decide) (by decide)⟩
    show Q0 Z p0 h0 n0 _ T70.heap _
    rw [e70]
    exact ⟨rfl, N70⟩
  · show Go p e below _ (T64.setTop (mkF m 141 #[.val (.int p0), .val (.ref b7), .val (.int (1 : Int32)), .unset, .unset] []))
    refine Go.st (V' := T64.setTop (mkF m 143 #[.val (.int p0), .val (.ref b7), .val (.int (1 : Int32)), .unset, .unset] [(.int (1 : Int32)), (.ref b7)])) (fun t k => ?_) ?_
    · refine XS.aloadN X65.here hx rfl (hb hby at_141) rfl rfl ?_
      show Steps p.tables e below (T64.setTop (mkF m 142 #[.val (.int p0), .val (.ref b7), .val (.int (1 : Int32)), .unset, .unset] [(.ref b7)])) _
      refine XS.iloadN X65.here hx rfl (hb hby at_142) rfl  ?_
      show Steps p.tables e below (T64.setTop (mkF m 143 #[.val (.int p0), .val (.ref b7), .val (.int (1 : Int32)), .unset, .unset] [(.int (1 : Int32)), (.ref b7)])) _
      exact k
    obtain ⟨cl72, Ar72, q72, Sz72, Nn72, Ha72, Ga72⟩ := id (V64)
    have hin72 : ¬ ((1 : Int32) < 0 ∨ cl72.slots.size ≤ ((1 : Int32)).toNatClampNeg) := inb_of Sz72 ⟨by decide, by decide⟩
    refine Go.st (V' := T64.setTop (mkF m 146 #[.val (.int p0), .val (.ref b7), .val (.int (1 : Int32)), .val (.ref s_CR), .unset] [(.ref s_CR)])) (fun t k => ?_) ?_
    · show Steps p.tables e below (T64.setTop (mkF m 143 #[.val (.int p0), .val (.ref b7), .val (.int (1 : Int32)), .unset, .unset] [(.int (1 : Int32)), (.ref b7)])) _
      refine X65.aaload hx (j := (1 : Int32)) (v := (.ref s_CR)) (own_eT e64 Ar72) (State.isArrayOf_alike hZ.alike Ar72.2.1) rfl Ar72.2.2 hin72 (Ha72.at hin72 rfl) (g := (mkF m 143 #[.val (.int p0), .val (.ref b7), .val (.int (1 : Int32)), .unset, .unset] [(.int (1 : Int32)), (.ref b7)])) rfl rfl (hb hby at_143) _ ?_
      show Steps p.tables e below (T64.setTop (mkF m 144 #[.val (.int p0), .val (.ref b7), .val (.int (1 : Int32)), .unset, .unset] [(.ref s_CR)])) _
      refine XS.astoreN X65.here hx rfl (hb hby at_144) rfl rfl (l' := #[.val (.int p0), .val (.ref b7), .val (.int (1 : Int32)), .val (.ref s_CR), .unset]) rfl ?_
      show Steps p.tables e below (T64.setTop (mkF m 145 #[.val (.int p0), .val (.ref b7), .val (.int (1 : Int32)), .val (.ref s_CR), .unset] [])) _
      refine XS.aloadN X65.here hx rfl (hb hby at_145) rfl rfl ?_
      show Steps p.tables e below (T64.setTop (mkF m 146 #[.val (.int p0), .val (.ref b7), .val (.int (1 : Int32)), .val (.ref s_CR), .unset] [(.ref s_CR)])) _
      exact k
    obtain ⟨T73, X73, e73, st73⟩ := getS2 X65 hx hZ hown (host := "") (Or.inl (hw _ (List.mem_of_getElem? (i := 28) rfl))) Via.refl e64 (S_MID_LETTER.ext O64.2) (g := (mkF m 146 #[.val (.int p0), .val (.ref b7), .val (.int (1 : Int32)), .val (.ref s_CR), .unset] [(.ref s_CR)])) rfl (hb hby at_146)
    refine Go.st (V' := T73.setTop (mkF m 149 #[.val (.int p0), .val (.ref b7), .val (.int (1 : Int32)), .val (.ref s_CR), .unset] [(.ref s_MID_LETTER), (.ref s_CR)])) (fun t k => st73 t k) ?_
    refine Go.st (V' := T73.setTop (mkF m 153 #[.val (.int p0), .val (.ref b7), .val (.int (1 : Int32)), .val (.ref s_CR), .unset] [(.ref s_CR)])) (fun t k => ?_) ?_
    · refine Jvm.RoadKit.acmp (g := (mkF m 149 #[.val (.int p0), .val (.ref b7), .val (.int (1 : Int32)), .val (.ref s_CR), .unset] [(.ref s_MID_LETTER), (.ref s_CR)])) X73 hx rfl rfl rfl (pc0 := 149) (pc' := 152) (same := false) rfl (hb hby at_149) rfl (decide_eq_false fun q => (Fld.ne (F_CR_ordinal.ext O64.2) (F_MID_LETTER_ordinal.ext O64.2) (by decide)) (Value.ref.inj q)) (by decide) (by decide) ?_
      show Steps p.tables e below (T73.setTop (mkF m 152 #[.val (.int p0), .val (.ref b7), .val (.int (1 : Int32)), .val (.ref s_CR), .unset] [])) _
      refine XS.aloadN X73.here hx rfl (hb hby at_152) rfl rfl ?_
      show Steps p.tables e below (T73.setTop (mkF m 153 #[.val (.int p0), .val (.ref b7), .val (.int (1 : Int32)), .val (.ref s_CR), .unset] [(.ref s_CR)])) _
      exact k
    obtain ⟨T74, X74, e74, st74⟩ := getS2 X73 hx hZ hown (host := "") (Or.inl (hw _ (List.mem_of_getElem? (i := 32) rfl))) Via.refl e73 (S_MID_NUM_LET.ext O64.2) (g := (mkF m 153 #[.val (.int p0), .val (.ref b7), .val (.int (1 : Int32)), .val (.ref s_CR), .unset] [(.ref s_CR)])) rfl (hb hby at_153)
    refine Go.st (V' := T74.setTop (mkF m 156 #[.val (.int p0), .val (.ref b7), .val (.int (1 : Int32)), .val (.ref s_CR), .unset] [(.ref s_MID_NUM_LET), (.ref s_CR)])) (fun t k => st74 t k) ?_
    refine Go.st (V' := T74.setTop (mkF m 160 #[.val (.int p0), .val (.ref b7), .val (.int (1 : Int32)), .val (.ref s_CR), .unset] [(.ref s_CR)])) (fun t k => ?_) ?_
    · refine Jvm.RoadKit.acmp (g := (mkF m 156 #[.val (.int p0), .val (.ref b7), .val (.int (1 : Int32)), .val (.ref s_CR), .unset] [(.ref s_MID_NUM_LET), (.ref s_CR)])) X74 hx rfl rfl rfl (pc0 := 156) (pc' := 159) (same := false) rfl (hb hby at_156) rfl (decide_eq_false fun q => (Fld.ne (F_CR_ordinal.ext O64.2) (F_MID_NUM_LET_ordinal.ext O64.2) (by decide)) (Value.ref.inj q)) (by decide) (by decide) ?_
      show Steps p.tables e below (T74.setTop (mkF m 159 #[.val (.int p0), .val (.ref b7), .val (.int (1 : Int32)), .val (.ref s_CR), .unset] [])) _
      refine XS.aloadN X74.here hx rfl (hb hby at_159) rfl rfl ?_
      show Steps p.tables e below (T74.setTop (mkF m 160 #[.val (.int p0), .val (.ref b7), .val (.int (1 : Int32)), .val (.ref s_CR), .unset] [(.ref s_CR)])) _
      exact k
    obtain ⟨T75, X75, e75, st75⟩ := getS2 X74 hx hZ hown (host := "") (Or.inl (hw _ (List.mem_of_getElem? (i := 34) rfl))) Via.refl e74 (S_SINGLE_QUOTE.ext O64.2) (g := (mkF m 160 #[.val (.int p0), .val (.ref b7), .val (.int (1 : Int32)), .val (.ref s_CR), .unset] [(.ref s_CR)])) rfl (hb hby at_160)
    refine Go.st (V' := T75.setTop (mkF m 163 #[.val (.int p0), .val (.ref b7), .val (.int (1 : Int32)), .val (.ref s_CR), .unset] [(.ref s_SINGLE_QUOTE), (.ref s_CR)])) (fun t k => st75 t k) ?_
    refine Go.st (V' := T75.setTop (mkF m 174 #[.val (.int p0), .val (.ref b7), .val (.int (1 : Int32)), .val (.ref s_CR), .val (.int (0 : Int32))] [(.ref s_CR)])) (fun t k => ?_) ?_
    · refine Jvm.RoadKit.acmp (g := (mkF m 163 #[.val (.int p0), .val (.ref b7), .val (.int (1 : Int32)), .val (.ref s_CR), .unset] [(.ref s_SINGLE_QUOTE), (.ref s_CR)])) X75 hx rfl rfl rfl (pc0 := 163) (pc' := 170) (same := false) rfl (hb hby at_163) rfl (decide_eq_false fun q => (Fld.ne (F_CR_ordinal.ext O64.2) (F_SINGLE_QUOTE_ordinal.ext O64.2) (by decide)) (Value.ref.inj q)) (by decide) (by decide) ?_
      show Steps p.tables e below (T75.setTop (mkF m 170 #[.val (.int p0), .val (.ref b7), .val (.int (1 : Int32)), .val (.ref s_CR), .unset] [])) _
      refine XS.iconst X75.here hx rfl (hb hby at_170) ?_
      show Steps p.tables e below (T75.setTop (mkF m 171 #[.val (.int p0), .val (.ref b7), .val (.int (1 : Int32)), .val (.ref s_CR), .unset] [(.int (0 : Int32))])) _
      refine XS.istore X75.here hx rfl (hb hby at_171) rfl (l' := #[.val (.int p0), .val (.ref b7), .val (.int (1 : Int32)), .val (.ref s_CR), .val (.int (0 : Int32))]) rfl ?_
      show Steps p.tables e below (T75.setTop (mkF m 173 #[.val (.int p0), .val (.ref b7), .val (.int (1 : Int32)), .val (.ref s_CR), .val (.int (0 : Int32))] [])) _
      refine XS.aloadN X75.here hx rfl (hb hby at_173) rfl rfl ?_
      show Steps p.tables e below (T75.setTop (mkF m 174 #[.val (.int p0), .val (.ref b7), .val (.int (1 : Int32)), .val (.ref s_CR), .val (.int (0 : Int32))] [(.ref s_CR)])) _
      exact k
    obtain ⟨cq76, kq76, q76a, q76b, q76c⟩ := isOf hZ e75 (E_CR.ext O64.2)
    obtain ⟨_, _, ⟨T76, L76, k76, n76⟩, -, X76, ⟨Lc76, hQ76, l76, y76, z76⟩, st76⟩ := X75.virtualBack hx (y := (⟨"com/example/hits_from_terms/hitsfromterms/analysis/WordBreak", "isMidLetter", "()Z"⟩ : MethodName)) (z := (⟨"com/example/hits_from_terms/hitsfromterms/analysis/WordBreak", "isMidLetter", "()Z"⟩ : MethodName)) hown (mvT hZ (hw _ (List.mem_of_getElem? (i := 43) rfl))) (mvT hZ (hw _ (List.mem_of_getElem? (i := 44) rfl))) (notFace_of_selects (args := #[]) (mvT hZ (hw _ (List.mem_of_getElem? (i := 46) rfl)))) (mvT hZ (hw _ (List.mem_of_getElem? (i := 46) rfl))) (mvT hZ (hw _ (List.mem_of_getElem? (i := 45) rfl))) (by decide) (backOf (W := 0) (rm1 l Z a0 hw [] s_OTHER s_CR s_LF s_NEWLINE s_EXTEND s_FORMAT s_ZWJ s_ALETTER s_HEBREW_LETTER s_NUMERIC s_KATAKANA s_EXTEND_NUM_LET s_MID_LETTER s_MID_NUM s_MID_NUM_LET s_SINGLE_QUOTE s_DOUBLE_QUOTE s_REGIONAL_INDICATOR s_WSEG_SPACE HW s_CR h64 n0 O64) hZ (hw _ (List.mem_of_getElem? (i := 47) rfl)) (hw _ (List.mem_of_getElem? (i := 3) rfl)) (by decide) (by decide)) q76a q76c (g := (mkF m 174 #[.val (.int p0), .val (.ref b7), .val (.int (1 : Int32)), .val (.ref s_CR), .val (.int (0 : Int32))] [(.ref s_CR)])) rfl (by rw [hml]; rfl) (Steps.refl _) (argsL := []) (rest := []) (lenOf own_pd13 rfl) rfl (by show 2 * 0 + _ ≤ _; exact Nat.le_of_eq rfl) (hb hby at_174) (fun _ _ => ⟨rfl, e75, (by decide : 1 + 0 ≤ _), (by decide : 19 + 0 ≤ _)⟩)
    dsimp only [Pt.U, Pt.locs, Pt.cells, Pt.slots] at X76 l76 y76 z76 st76 hQ76
    subst l76 y76 z76
    obtain ⟨rfl, N76q, e76⟩ := hQ76
    have N76 := Fr.app N65 N76q
    refine Go.st (V' := T76.setTop (mkF m 177 #[.val (.int p0), .val (.ref b7), .val (.int (1 : Int32)), .val (.ref s_CR), .val (.int (0 : Int32))] [(.int (f1 s_MID_LETTER s_MID_NUM_LET s_SINGLE_QUOTE s_CR))])) (fun t k => st76.trans k) ?_
    have r77 : (f1 s_MID_LETTER s_MID_NUM_LET s_SINGLE_QUOTE s_CR) = (0 : Int32) := by rw [f1, if_neg (Fld.ne (F_CR_ordinal.ext O64.2) (F_MID_LETTER_ordinal.ext O64.2) (by decide)), if_neg (Fld.ne (F_CR_ordinal.ext O64.2) (F_MID_NUM_LET_ordinal.ext O64.2) (by decide)), if_neg (Fld.ne (F_CR_ordinal.ext O64.2) (F_SINGLE_QUOTE_ordinal.ext O64.2) (by decide))]
    rw [r77]
    refine Go.st (V' := T76.setTop (mkF m 187 #[.val (.int p0), .val (.ref b7), .val (.int (1 : Int32)), .val (.ref s_CR), .val (.int (0 : Int32))] [(.int (1 : Int32))])) (fun t k => ?_) ?_
    · refine XS.iload X76.here hx rfl (hb hby at_177) rfl  ?_
      show Steps p.tables e below (T76.setTop (mkF m 179 #[.val (.int p0), .val (.ref b7), .val (.int (1 : Int32)), .val (.ref s_CR), .val (.int (0 : Int32))] [(.int (0 : Int32)), (.int (0 : Int32))])) _
      refine XS.icmpNo X76.here hx rfl (hb hby at_179) rfl (teq (by decide : ((0 : Int32) = (0 : Int32)))).2 ?_
      show Steps p.tables e below (T76.setTop (mkF m 182 #[.val (.int p0), .val (.ref b7), .val (.int (1 : Int32)), .val (.ref s_CR), .val (.int (0 : Int32))] [])) _
      refine XS.iconst X76.here hx rfl (hb hby at_182) ?_
      show Steps p.tables e below (T76.setTop (mkF m 183 #[.val (.int p0), .val (.ref b7), .val (.int (1 : Int32)), .val (.ref s_CR), .val (.int (0 : Int32))] [(.int (1 : Int32))])) _
      refine XS.goto X76.here hx rfl (pc0 := 183) (pc' := 187) rfl (hb hby at_183) (by decide) (by decide) ?_
      show Steps p.tables e below (T76.setTop (mkF m 187 #[.val (.int p0), .val (.ref b7), .val (.int (1 : Int32)), .val (.ref s_CR), .val (.int (0 : Int32))] [(.int (1 : Int32))])) _
      exact k
    obtain ⟨fs, hr, hrun, hended, hW, hsame⟩ := X76.leave (v := some (.int (1 : Int32))) (fun h => by rw [Bd.returns] at h; cases h)
    refine Go.mk' ⟨_, _, retN X76 hx (t := .boolean) Bd.returns (by simp) (hb hby at_187) hr, hrun, hended, _, _, rfl, ?_, ⟨_, rfl⟩, hW, hsame.mono (by decide) (by decide)⟩
    show Q0 Z p0 h0 n0 _ T76.heap _
    rw [e76]
    exact ⟨rfl, N76⟩
  · show Go p e below _ (T64.setTop (mkF m 141 #[.val (.int p0), .val (.ref b7), .val (.int (2 : Int32)), .unset, .unset] []))
    refine Go.st (V' := T64.setTop (mkF m 143 #[.val (.int p0), .val (.ref b7), .val (.int (2 : Int32)), .unset, .unset] [(.int (2 : Int32)), (.ref b7)])) (fun t k => ?_) ?_
    · refine XS.aloadN X65.here hx rfl (hb hby at_141) rfl rfl ?_
      show Steps p.tables e below (T64.setTop (mkF m 142 #[.val (.int p0), .val (.ref b7), .val (.int (2 : Int32)), .unset, .unset] [(.ref b7)])) _
      refine XS.iloadN X65.here hx rfl (hb hby at_142) rfl  ?_
      show Steps p.tables e below (T64.setTop (mkF m 143 #[.val (.int p0), .val (.ref b7), .val (.int (2 : Int32)), .unset, .unset] [(.int (2 : Int32)), (.ref b7)])) _
      exact k
    obtain ⟨cl78, Ar78, q78, Sz78, Nn78, Ha78, Ga78⟩ := id (V64)
    have hin78 : ¬ ((2 : Int32) < 0 ∨ cl78.slots.size ≤ ((2 : Int32)).toNatClampNeg) := inb_of Sz78 ⟨by decide, by decide⟩
    refine Go.st (V' := T64.setTop (mkF m 146 #[.val (.int p0), .val (.ref b7), .val (.int (2 : Int32)), .val (.ref s_LF), .unset] [(.ref s_LF)])) (fun t k => ?_) ?_
    · show Steps p.tables e below (T64.setTop (mkF m 143 #[.val (.int p0), .val (.ref b7), .val (.int (2 : Int32)), .unset, .unset] [(.int (2 : Int32)), (.ref b7)])) _
      refine X65.aaload hx (j := (2 : Int32)) (v := (.ref s_LF)) (own_eT e64 Ar78) (State.isArrayOf_alike hZ.alike Ar78.2.1) rfl Ar78.2.2 hin78 (Ha78.at hin78 rfl) (g := (mkF m 143 #[.val (.int p0), .val (.ref b7), .val (.int (2 : Int32)), .unset, .unset] [(.int (2 : Int32)), (.ref b7)])) rfl rfl (hb hby at_143) _ ?_
      show Steps p.tables e below (T64.setTop (mkF m 144 #[.val (.int p0), .val (.ref b7), .val (.int (2 : Int32)), .unset, .unset] [(.ref s_LF)])) _
      refine XS.astoreN X65.here hx rfl (hb hby at_144) rfl rfl (l' := #[.val (.int p0), .val (.ref b7), .val (.int (2 : Int32)), .val (.ref s_LF), .unset]) rfl ?_
      show Steps p.tables e below (T64.setTop (mkF m 145 #[.val (.int p0), .val (.ref b7), .val (.int (2 : Int32)), .val (.ref s_LF), .unset] [])) _
      refine XS.aloadN X65.here hx rfl (hb hby at_145) rfl rfl ?_
      show Steps p.tables e below (T64.setTop (mkF m 146 #[.val (.int p0), .val (.ref b7), .val (.int (2 : Int32)), .val (.ref s_LF), .unset] [(.ref s_LF)])) _
      exact k
    obtain ⟨T79, X79, e79, st79⟩ := getS2 X65 hx hZ hown (host := "") (Or.inl (hw _ (List.mem_of_getElem? (i := 28) rfl))) Via.refl e64 (S_MID_LETTER.ext O64.2) (g := (mkF m 146 #[.val (.int p0), .val (.ref b7), .val (.int (2 : Int32)), .val (.ref s_LF), .unset] [(.ref s_LF)])) rfl (hb hby at_146)
    refine Go.st (V' := T79.setTop (mkF m 149 #[.val (.int p0), .val (.ref b7), .val (.int (2 : Int32)), .val (.ref s_LF), .unset] [(.ref s_MID_LETTER), (.ref s_LF)])) (fun t k => st79 t k) ?_
    refine Go.st (V' := T79.setTop (mkF m 153 #[.val (.int p0), .val (.ref b7), .val (.int (2 : Int32)), .val (.ref s_LF), .unset] [(.ref s_LF)])) (fun t k => ?_) ?_
    · refine Jvm.RoadKit.acmp (g := (mkF m 149 #[.val (.int p0), .val (.ref b7), .val (.int (2 : Int32)), .val (.ref s_LF), .unset] [(.ref s_MID_LETTER), (.ref s_LF)])) X79 hx rfl rfl rfl (pc0 := 149) (pc' := 152) (same := false) rfl (hb hby at_149) rfl (decide_eq_false fun q => (Fld.ne (F_LF_ordinal.ext O64.2) (F_MID_LETTER_ordinal.ext O64.2) (by decide)) (Value.ref.inj q)) (by decide) (by decide) ?_
      show Steps p.tables e below (T79.setTop (mkF m 152 #[.val (.int p0), .val (.ref b7), .val (.int (2 : Int32)), .val (.ref s_LF), .unset] [])) _
      refine XS.aloadN X79.here hx rfl (hb hby at_152) rfl rfl ?_
      show Steps p.tables e below (T79.setTop (mkF m 153 #[.val (.int p0), .val (.ref b7), .val (.int (2 : Int32)), .val (.ref s_LF), .unset] [(.ref s_LF)])) _
      exact k
    obtain ⟨T80, X80, e80, st80⟩ := getS2 X79 hx hZ hown (host := "") (Or.inl (hw _ (List.mem_of_getElem? (i := 32) rfl))) Via.refl e79 (S_MID_NUM_LET.ext O64.2) (g := (mkF m 153 #[.val (.int p0), .val (.ref b7), .val (.int (2 : Int32)), .val (.ref s_LF), .unset] [(.ref s_LF)])) rfl (hb hby at_153)
    refine Go.st (V' := T80.setTop (mkF m 156 #[.val (.int p0), .val (.ref b7), .val (.int (2 : Int32)), .val (.ref s_LF), .unset] [(.ref s_MID_NUM_LET), (.ref s_LF)])) (fun t k => st80 t k) ?_
    refine Go.st (V' := T80.setTop (mkF m 160 #[.val (.int p0), .val (.ref b7), .val (.int (2 : Int32)), .val (.ref s_LF), .unset] [(.ref s_LF)])) (fun t k => ?_) ?_
    · refine Jvm.RoadKit.acmp (g := (mkF m 156 #[.val (.int p0), .val (.ref b7), .val (.int (2 : Int32)), .val (.ref s_LF), .unset] [(.ref s_MID_NUM_LET), (.ref s_LF)])) X80 hx rfl rfl rfl (pc0 := 156) (pc' := 159) (same := false) rfl (hb hby at_156) rfl (decide_eq_false fun q => (Fld.ne (F_LF_ordinal.ext O64.2) (F_MID_NUM_LET_ordinal.ext O64.2) (by decide)) (Value.ref.inj q)) (by decide) (by decide) ?_
      show Steps p.tables e below (T80.setTop (mkF m 159 #[.val (.int p0), .val (.ref b7), .val (.int (2 : Int32)), .val (.ref s_LF), .unset] [])) _
      refine XS.aloadN X80.here hx rfl (hb hby at_159) rfl rfl ?_
      show Steps p.tables e below (T80.setTop (mkF m 160 #[.val (.int p0), .val (.ref b7), .val (.int (2 : Int32)), .val (.ref s_LF), .unset] [(.ref s_LF)])) _
      exact k
    obtain ⟨T81, X81, e81, st81⟩ := getS2 X80 hx hZ hown (host := "") (Or.inl (hw _ (List.mem_of_getElem? (i := 34) rfl))) Via.refl e80 (S_SINGLE_QUOTE.ext O64.2) (g := (mkF m 160 #[.val (.int p0), .val (.ref b7), .val (.int (2 : Int32)), .val (.ref s_LF), .unset] [(.ref s_LF)])) rfl (hb hby at_160)
    refine Go.st (V' := T81.setTop (mkF m 163 #[.val (.int p0), .val (.ref b7), .val (.int (2 : Int32)), .val (.ref s_LF), .unset] [(.ref s_SINGLE_QUOTE), (.ref s_LF)])) (fun t k => st81 t k) ?_
    refine Go.st (V' := T81.setTop (mkF m 174 #[.val (.int p0), .val (.ref b7), .val (.int (2 : Int32)), .val (.ref s_LF), .val (.int (0 : Int32))] [(.ref s_LF)])) (fun t k => ?_) ?_
    · refine Jvm.RoadKit.acmp (g := (mkF m 163 #[.val (.int p0), .val (.ref b7), .val (.int (2 : Int32)), .val (.ref s_LF), .unset] [(.ref s_SINGLE_QUOTE), (.ref s_LF)])) X81 hx rfl rfl rfl (pc0 := 163) (pc' := 170) (same := false) rfl (hb hby at_163) rfl (decide_eq_false fun q => (Fld.ne (F_LF_ordinal.ext O64.2) (F_SINGLE_QUOTE_ordinal.ext O64.2) (by decide)) (Value.ref.inj q)) (by decide) (by decide) ?_
      show Steps p.tables e below (T81.setTop (mkF m 170 #[.val (.int p0), .val (.ref b7), .val (.int (2 : Int32)), .val (.ref s_LF), .unset] [])) _
      refine XS.iconst X81.here hx rfl (hb hby at_170) ?_
      show Steps p.tables e below (T81.setTop (mkF m 171 #[.val (.int p0), .val (.ref b7), .val (.int (2 : Int32)), .val (.ref s_LF), .unset] [(.int (0 : Int32))])) _
      refine XS.istore X81.here hx rfl (hb hby at_171) rfl (l' := #[.val (.int p0), .val (.ref b7), .val (.int (2 : Int32)), .val (.ref s_LF), .val (.int (0 : Int32))]) rfl ?_
      show Steps p.tables e below (T81.setTop (mkF m 173 #[.val (.int p0), .val (.ref b7), .val (.int (2 : Int32)), .val (.ref s_LF), .val (.int (0 : Int32))] [])) _
      refine XS.aloadN X81.here hx rfl (hb hby at_173) rfl rfl ?_
      show Steps p.tables e below (T81.setTop (mkF m 174 #[.val (.int p0), .val (.ref b7), .val (.int (2 : Int32)), .val (.ref s_LF), .val (.int (0 : Int32))] [(.ref s_LF)])) _
      exact k
    obtain ⟨cq82, kq82, q82a, q82b, q82c⟩ := isOf hZ e81 (E_LF.ext O64.2)
    obtain ⟨_, _, ⟨T82, L82, k82, n82⟩, -, X82, ⟨Lc82, hQ82, l82, y82, z82⟩, st82⟩ := X81.virtualBack hx (y := (⟨"com/example/hits_from_terms/hitsfromterms/analysis/WordBreak", "isMidLetter", "()Z"⟩ : MethodName)) (z := (⟨"com/example/hits_from_terms/hitsfromterms/analysis/WordBreak", "isMidLetter", "()Z"⟩ : MethodName)) hown (mvT hZ (hw _ (List.mem_of_getElem? (i := 43) rfl))) (mvT hZ (hw _ (List.mem_of_getElem? (i := 44) rfl))) (notFace_of_selects (args := #[]) (mvT hZ (hw _ (List.mem_of_getElem? (i := 46) rfl)))) (mvT hZ (hw _ (List.mem_of_getElem? (i := 46) rfl))) (mvT hZ (hw _ (List.mem_of_getElem? (i := 45) rfl))) (by decide) (backOf (W := 0) (rm1 l Z a0 hw [] s_OTHER s_CR s_LF s_NEWLINE s_EXTEND s_FORMAT s_ZWJ s_ALETTER s_HEBREW_LETTER s_NUMERIC s_KATAKANA s_EXTEND_NUM_LET s_MID_LETTER s_MID_NUM s_MID_NUM_LET s_SINGLE_QUOTE s_DOUBLE_QUOTE s_REGIONAL_INDICATOR s_WSEG_SPACE HW s_LF h64 n0 O64) hZ (hw _ (List.mem_of_getElem? (i := 47) rfl)) (hw _ (List.mem_of_getElem? (i := 3) rfl)) (by decide) (by decide)) q82a q82c (g := (mkF m 174 #[.val (.int p0), .val (.ref b7), .val (.int (2 : Int32)), .val (.ref s_LF), .val (.int (0 : Int32))] [(.ref s_LF)])) rfl (by rw [hml]; rfl) (Steps.refl _) (argsL := []) (rest := []) (lenOf own_pd13 rfl) rfl (by show 2 * 0 + _ ≤ _; exact Nat.le_of_eq rfl) (hb hby at_174) (fun _ _ => ⟨rfl, e81, (by decide : 1 + 0 ≤ _), (by decide : 19 + 0 ≤ _)⟩)
    dsimp only [Pt.U, Pt.locs, Pt.cells, Pt.slots] at X82 l82 y82 z82 st82 hQ82
    subst l82 y82 z82
    obtain ⟨rfl, N82q, e82⟩ := hQ82
    have N82 := Fr.app N65 N82q
    refine Go.st (V' := T82.setTop (mkF m 177 #[.val (.int p0), .val (.ref b7), .val (.int (2 : Int32)), .val (.ref s_LF), .val (.int (0 : Int32))] [(.int (f1 s_MID_LETTER s_MID_NUM_LET s_SINGLE_QUOTE s_LF))])) (fun t k => st82.trans k) ?_
    have r83 : (f1 s_MID_LETTER s_MID_NUM_LET s_SINGLE_QUOTE s_LF) = (0 : Int32) := by rw [f1, if_neg (Fld.ne (F_LF_ordinal.ext O64.2) (F_MID_LETTER_ordinal.ext O64.2) (by decide)), if_neg (Fld.ne (F_LF_ordinal.ext O64.2) (F_MID_NUM_LET_ordinal.ext O64.2) (by decide)), if_neg (Fld.ne (F_LF_ordinal.ext O64.2) (F_SINGLE_QUOTE_ordinal.ext O64.2) (by decide))]
    rw [r83]
    refine Go.st (V' := T82.setTop (mkF m 187 #[.val (.int p0), .val (.ref b7), .val (.int (2 : Int32)), .val (.ref s_LF), .val (.int (0 : Int32))] [(.int (1 : Int32))])) (fun t k => ?_) ?_
    · refine XS.iload X82.here hx rfl (hb hby at_177) rfl  ?_
      show Steps p.tables e below (T82.setTop (mkF m 179 #[.val (.int p0), .val (.ref b7), .val (.int (2 : Int32)), .val (.ref s_LF), .val (.int (0 : Int32))] [(.int (0 : Int32)), (.int (0 : Int32))])) _
      refine XS.icmpNo X82.here hx rfl (hb hby at_179) rfl (teq (by decide : ((0 : Int32) = (0 : Int32)))).2 ?_
      show Steps p.tables e below (T82.setTop (mkF m 182 #[.val (.int p0), .val (.ref b7), .val (.int (2 : Int32)), .val (.ref s_LF), .val (.int (0 : Int32))] [])) _
      refine XS.iconst X82.here hx rfl (hb hby at_182) ?_
      show Steps p.tables e below (T82.setTop (mkF m 183 #[.val (.int p0), .val (.ref b7), .val (.int (2 : Int32)), .val (.ref s_LF), .val (.int (0 : Int32))] [(.int (1 : Int32))])) _
      refine XS.goto X82.here hx rfl (pc0 := 183) (pc' := 187) rfl (hb hby at_183) (by decide) (by decide) ?_
      show Steps p.tables e below (T82.setTop (mkF m 187 #[.val (.int p0), .val (.ref b7), .val (.int (2 : Int32)), .val (.ref s_LF), .val (.int (0 : Int32))] [(.int (1 : Int32))])) _
      exact k
    obtain ⟨fs, hr, hrun, hended, hW, hsame⟩ := X82.leave (v := some (.int (1 : Int32))) (fun h => by rw [Bd.returns] at h; cases h)
    refine Go.mk' ⟨_, _, retN X82 hx (t := .boolean) Bd.returns (by simp) (hb hby at_187) hr, hrun, hended, _, _, rfl, ?_, ⟨_, rfl⟩, hW, hsame.mono (by decide) (by decide)⟩
    show Q0 Z p0 h0 n0 _ T82.heap _
    rw [e82]
    exact ⟨rfl, N82⟩
  · show Go p e below _ (T64.setTop (mkF m 141 #[.val (.int p0), .val (.ref b7), .val (.int (3 : Int32)), .unset, .unset] []))
    refine Go.st (V' := T64.setTop (mkF m 143 #[.val (.int p0), .val (.ref b7), .val (.int (3 : Int32)), .unset, .unset] [(.int (3 : Int32)), (.ref b7)])) (fun t k => ?_) ?_
    · refine XS.aloadN X65.here hx rfl (hb hby at_141) rfl rfl ?_
      show Steps p.tables e below (T64.setTop (mkF m 142 #[.val (.int p0), .val (.ref b7), .val (.int (3 : Int32)), .unset, .unset] [(.ref b7)])) _
      refine XS.iloadN X65.here hx rfl (hb hby at_142) rfl  ?_
      show Steps p.tables e below (T64.setTop (mkF m 143 #[.val (.int p0), .val (.ref b7), .val (.int (3 : Int32)), .unset, .unset] [(.int (3 : Int32)), (.ref b7)])) _
      exact k
    obtain ⟨cl84, Ar84, q84, Sz84, Nn84, Ha84, Ga84⟩ := id (V64)
    have hin84 : ¬ ((3 : Int32) < 0 ∨ cl84.slots.size ≤ ((3 : Int32)).toNatClampNeg) := inb_of Sz84 ⟨by decide, by decide⟩
    refine Go.st (V' := T64.setTop (mkF m 146 #[.val (.int p0), .val (.ref b7), .val (.int (3 : Int32)), .val (.ref s_NEWLINE), .unset] [(.ref s_NEWLINE)])) (fun t k => ?_) ?_
    · show Steps p.tables e below (T64.setTop (mkF m 143 #[.val (.int p0), .val (.ref b7), .val (.int (3 : Int32)), .unset, .unset] [(.int (3 : Int32)), (.ref b7)])) _
      refine X65.aaload hx (j := (3 : Int32)) (v := (.ref s_NEWLINE)) (own_eT e64 Ar84) (State.isArrayOf_alike hZ.alike Ar84.2.1) rfl Ar84.2.2 hin84 (Ha84.at hin84 rfl) (g := (mkF m 143 #[.val (.int p0), .val (.ref b7), .val (.int (3 : Int32)), .unset, .unset] [(.int (3 : Int32)), (.ref b7)])) rfl rfl (hb hby at_143) _ ?_
      show Steps p.tables e below (T64.setTop (mkF m 144 #[.val (.int p0), .val (.ref b7), .val (.int (3 : Int32)), .unset, .unset] [(.ref s_NEWLINE)])) _
      refine XS.astoreN X65.here hx rfl (hb hby at_144) rfl rfl (l' := #[.val (.int p0), .val (.ref b7), .val (.int (3 : Int32)), .val (.ref s_NEWLINE), .unset]) rfl ?_
      show Steps p.tables e below (T64.setTop (mkF m 145 #[.val (.int p0), .val (.ref b7), .val (.int (3 : Int32)), .val (.ref s_NEWLINE), .unset] [])) _
      refine XS.aloadN X65.here hx rfl (hb hby at_145) rfl rfl ?_
      show Steps p.tables e below (T64.setTop (mkF m 146 #[.val (.int p0), .val (.ref b7), .val (.int (3 : Int32)), .val (.ref s_NEWLINE), .unset] [(.ref s_NEWLINE)])) _
      exact k
    obtain ⟨T85, X85, e85, st85⟩ := getS2 X65 hx hZ hown (host := "") (Or.inl (hw _ (List.mem_of_getElem? (i := 28) rfl))) Via.refl e64 (S_MID_LETTER.ext O64.2) (g := (mkF m 146 #[.val (.int p0), .val (.ref b7), .val (.int (3 : Int32)), .val (.ref s_NEWLINE), .unset] [(.ref s_NEWLINE)])) rfl (hb hby at_146)
    refine Go.st (V' := T85.setTop (mkF m 149 #[.val (.int p0), .val (.ref b7), .val (.int (3 : Int32)), .val (.ref s_NEWLINE), .unset] [(.ref s_MID_LETTER), (.ref s_NEWLINE)])) (fun t k => st85 t k) ?_
    refine Go.st (V' := T85.setTop (mkF m 153 #[.val (.int p0), .val (.ref b7), .val (.int (3 : Int32)), .val (.ref s_NEWLINE), .unset] [(.ref s_NEWLINE)])) (fun t k => ?_) ?_
    · refine Jvm.RoadKit.acmp (g := (mkF m 149 #[.val (.int p0), .val (.ref b7), .val (.int (3 : Int32)), .val (.ref s_NEWLINE), .unset] [(.ref s_MID_LETTER), (.ref s_NEWLINE)])) X85 hx rfl rfl rfl (pc0 := 149) (pc' := 152) (same := false) rfl (hb hby at_149) rfl (decide_eq_false fun q => (Fld.ne (F_NEWLINE_ordinal.ext O64.2) (F_MID_LETTER_ordinal.ext O64.2) (by decide)) (Value.ref.inj q)) (by decide) (by decide) ?_
      show Steps p.tables e below (T85.setTop (mkF m 152 #[.val (.int p0), .val (.ref b7), .val (.int (3 : Int32)), .val (.ref s_NEWLINE), .unset] [])) _
      refine XS.aloadN X85.here hx rfl (hb hby at_152) rfl rfl ?_
      show Steps p.tables e below (T85.setTop (mkF m 153 #[.val (.int p0), .val (.ref b7), .val (.int (3 : Int32)), .val (.ref s_NEWLINE), .unset] [(.ref s_NEWLINE)])) _
      exact k
    obtain ⟨T86, X86, e86, st86⟩ := getS2 X85 hx hZ hown (host := "") (Or.inl (hw _ (List.mem_of_getElem? (i := 32) rfl))) Via.refl e85 (S_MID_NUM_LET.ext O64.2) (g := (mkF m 153 #[.val (.int p0), .val (.ref b7), .val (.int (3 : Int32)), .val (.ref s_NEWLINE), .unset] [(.ref s_NEWLINE)])) rfl (hb hby at_153)
    refine Go.st (V' := T86.setTop (mkF m 156 #[.val (.int p0), .val (.ref b7), .val (.int (3 : Int32)), .val (.ref s_NEWLINE), .unset] [(.ref s_MID_NUM_LET), (.ref s_NEWLINE)])) (fun t k => st86 t k) ?_
    refine Go.st (V' := T86.setTop (mkF m 160 #[.val (.int p0), .val (.ref b7), .val (.int (3 : Int32)), .val (.ref s_NEWLINE), .unset] [(.ref s_NEWLINE)])) (fun t k => ?_) ?_
    · refine Jvm.RoadKit.acmp (g := (mkF m 156 #[.val (.int p0), .val (.ref b7), .val (.int (3 : Int32)), .val (.ref s_NEWLINE), .unset] [(.ref s_MID_NUM_LET), (.ref s_NEWLINE)])) X86 hx rfl rfl rfl (pc0 := 156) (pc' := 159) (same := false) rfl (hb hby at_156) rfl (decide_eq_false fun q => (Fld.ne (F_NEWLINE_ordinal.ext O64.2) (F_MID_NUM_LET_ordinal.ext O64.2) (by decide)) (Value.ref.inj q)) (by decide) (by decide) ?_
      show Steps p.tables e below (T86.setTop (mkF m 159 #[.val (.int p0), .val (.ref b7), .val (.int (3 : Int32)), .val (.ref s_NEWLINE), .unset] [])) _
      refine XS.aloadN X86.here hx rfl (hb hby at_159) rfl rfl ?_
      show Steps p.tables e below (T86.setTop (mkF m 160 #[.val (.int p0), .val (.ref b7), .val (.int (3 : Int32)), .val (.ref s_NEWLINE), .unset] [(.ref s_NEWLINE)])) _
      exact k
    obtain ⟨T87, X87, e87, st87⟩ := getS2 X86 hx hZ hown (host := "") (Or.inl (hw _ (List.mem_of_getElem? (i := 34) rfl))) Via.refl e86 (S_SINGLE_QUOTE.ext O64.2) (g := (mkF m 160 #[.val (.int p0), .val (.ref b7), .val (.int (3 : Int32)), .val (.ref s_NEWLINE), .unset] [(.ref s_NEWLINE)])) rfl (hb hby at_160)
    refine Go.st (V' := T87.setTop (mkF m 163 #[.val (.int p0), .val (.ref b7), .val (.int (3 : Int32)), .val (.ref s_NEWLINE), .unset] [(.ref s_SINGLE_QUOTE), (.ref s_NEWLINE)])) (fun t k => st87 t k) ?_
    refine Go.st (V' := T87.setTop (mkF m 174 #[.val (.int p0), .val (.ref b7), .val (.int (3 : Int32)), .val (.ref s_NEWLINE), .val (.int (0 : Int32))] [(.ref s_NEWLINE)])) (fun t k => ?_) ?_
    · refine Jvm.RoadKit.acmp (g := (mkF m 163 #[.val (.int p0), .val (.ref b7), .val (.int (3 : Int32)), .val (.ref s_NEWLINE), .unset] [(.ref s_SINGLE_QUOTE), (.ref s_NEWLINE)])) X87 hx rfl rfl rfl (pc0 := 163) (pc' := 170) (same := false) rfl (hb hby at_163) rfl (decide_eq_false fun q => (Fld.ne (F_NEWLINE_ordinal.ext O64.2) (F_SINGLE_QUOTE_ordinal.ext O64.2) (by decide)) (Value.ref.inj q)) (by decide) (by decide) ?_
      show Steps p.tables e below (T87.setTop (mkF m 170 #[.val (.int p0), .val (.ref b7), .val (.int (3 : Int32)), .val (.ref s_NEWLINE), .unset] [])) _
      refine XS.iconst X87.here hx rfl (hb hby at_170) ?_
      show Steps p.tables e below (T87.setTop (mkF m 171 #[.val (.int p0), .val (.ref b7), .val (.int (3 : Int32)), .val (.ref s_NEWLINE), .unset] [(.int (0 : Int32))])) _
      refine XS.istore X87.here hx rfl (hb hby at_171) rfl (l' := #[.val (.int p0), .val (.ref b7), .val (.int (3 : Int32)), .val (.ref s_NEWLINE), .val (.int (0 : Int32))]) rfl ?_
      show Steps p.tables e below (T87.setTop (mkF m 173 #[.val (.int p0), .val (.ref b7), .val (.int (3 : Int32)), .val (.ref s_NEWLINE), .val (.int (0 : Int32))] [])) _
      refine XS.aloadN X87.here hx rfl (hb hby at_173) rfl rfl ?_
      show Steps p.tables e below (T87.setTop (mkF m 174 #[.val (.int p0), .val (.ref b7), .val (.int (3 : Int32)), .val (.ref s_NEWLINE), .val (.int (0 : Int32))] [(.ref s_NEWLINE)])) _
      exact k
    obtain ⟨cq88, kq88, q88a, q88b, q88c⟩ := isOf hZ e87 (E_NEWLINE.ext O64.2)
    obtain ⟨_, _, ⟨T88, L88, k88, n88⟩, -, X88, ⟨Lc88, hQ88, l88, y88, z88⟩, st88⟩ := X87.virtualBack hx (y := (⟨"com/example/hits_from_terms/hitsfromterms/analysis/WordBreak", "isMidLetter", "()Z"⟩ : MethodName)) (z := (⟨"com/example/hits_from_terms/hitsfromterms/analysis/WordBreak", "isMidLetter", "()Z"⟩ : MethodName)) hown (mvT hZ (hw _ (List.mem_of_getElem? (i := 43) rfl))) (mvT hZ (hw _ (List.mem_of_getElem? (i := 44) rfl))) (notFace_of_selects (args := #[]) (mvT hZ (hw _ (List.mem_of_getElem? (i := 46) rfl)))) (mvT hZ (hw _ (List.mem_of_getElem? (i := 46) rfl))) (mvT hZ (hw _ (List.mem_of_getElem? (i := 45) rfl))) (by decide) (backOf (W := 0) (rm1 l Z a0 hw [] s_OTHER s_CR s_LF s_NEWLINE s_EXTEND s_FORMAT s_ZWJ s_ALETTER s_HEBREW_LETTER s_NUMERIC s_KATAKANA s_EXTEND_NUM_LET s_MID_LETTER s_MID_NUM s_MID_NUM_LET s_SINGLE_QUOTE s_DOUBLE_QUOTE s_REGIONAL_INDICATOR s_WSEG_SPACE HW s_NEWLINE h64 n0 O64) hZ (hw _ (List.mem_of_getElem? (i := 47) rfl)) (hw _ (List.mem_of_getElem? (i := 3) rfl)) (by decide) (by decide)) q88a q88c (g := (mkF m 174 #[.val (.int p0), .val (.ref b7), .val (.int (3 : Int32)), .val (.ref s_NEWLINE), .val (.int (0 : Int32))] [(.ref s_NEWLINE)])) rfl (by rw [hml]; rfl) (Steps.refl _) (argsL := []) (rest := []) (lenOf own_pd13 rfl) rfl (by show 2 * 0 + _ ≤ _; exact Nat.le_of_eq rfl) (hb hby at_174) (fun _ _ => ⟨rfl, e87, (by decide : 1 + 0 ≤ _), (by decide : 19 + 0 ≤ _)⟩)
    dsimp only [Pt.U, Pt.locs, Pt.cells, Pt.slots] at X88 l88 y88 z88 st88 hQ88
    subst l88 y88 z88
    obtain ⟨rfl, N88q, e88⟩ := hQ88
    have N88 := Fr.app N65 N88q
    refine Go.st (V' := T88.setTop (mkF m 177 #[.val (.int p0), .val (.ref b7), .val (.int (3 : Int32)), .val (.ref s_NEWLINE), .val (.int (0 : Int32))] [(.int (f1 s_MID_LETTER s_MID_NUM_LET s_SINGLE_QUOTE s_NEWLINE))])) (fun t k => st88.trans k) ?_
    have r89 : (f1 s_MID_LETTER s_MID_NUM_LET s_SINGLE_QUOTE s_NEWLINE) = (0 : Int32) := by rw [f1, if_neg (Fld.ne (F_NEWLINE_ordinal.ext O64.2) (F_MID_LETTER_ordinal.ext O64.2) (by decide)), if_neg (Fld.ne (F_NEWLINE_ordinal.ext O64.2) (F_MID_NUM_LET_ordinal.ext O64.2) (by decide)), if_neg (Fld.ne (F_NEWLINE_ordinal.ext O64.2) (F_SINGLE_QUOTE_ordinal.ext O64.2) (by decide))]
    rw [r89]
    refine Go.st (V' := T88.setTop (mkF m 187 #[.val (.int p0), .val (.ref b7), .val (.int (3 : Int32)), .val (.ref s_NEWLINE), .val (.int (0 : Int32))] [(.int (1 : Int32))])) (fun t k => ?_) ?_
    · refine XS.iload X88.here hx rfl (hb hby at_177) rfl  ?_
      show Steps p.tables e below (T88.setTop (mkF m 179 #[.val (.int p0), .val (.ref b7), .val (.int (3 : Int32)), .val (.ref s_NEWLINE), .val (.int (0 : Int32))] [(.int (0 : Int32)), (.int (0 : Int32))])) _
      refine XS.icmpNo X88.here hx rfl (hb hby at_179) rfl (teq (by decide : ((0 : Int32) = (0 : Int32)))).2 ?_
      show Steps p.tables e below (T88.setTop (mkF m 182 #[.val (.int p0), .val (.ref b7), .val (.int (3 : Int32)), .val (.ref s_NEWLINE), .val (.int (0 : Int32))] [])) _
      refine XS.iconst X88.here hx rfl (hb hby at_182) ?_
      show Steps p.tables e below (T88.setTop (mkF m 183 #[.val (.int p0), .val (.ref b7), .val (.int (3 : Int32)), .val (.ref s_NEWLINE), .val (.int (0 : Int32))] [(.int (1 : Int32))])) _
      refine XS.goto X88.here hx rfl (pc0 := 183) (pc' := 187) rfl (hb hby at_183) (by decide) (by decide) ?_
      show Steps p.tables e below (T88.setTop (mkF m 187 #[.val (.int p0), .val (.ref b7), .val (.int (3 : Int32)), .val (.ref s_NEWLINE), .val (.int (0 : Int32))] [(.int (1 : Int32))])) _
      exact k
    obtain ⟨fs, hr, hrun, hended, hW, hsame⟩ := X88.leave (v := some (.int (1 : Int32))) (fun h => by rw [Bd.returns] at h; cases h)
    refine Go.mk' ⟨_, _, retN X88 hx (t := .boolean) Bd.returns (by simp) (hb hby at_187) hr, hrun, hended, _, _, rfl, ?_, ⟨_, rfl⟩, hW, hsame.mono (by decide) (by decide)⟩
    show Q0 Z p0 h0 n0 _ T88.heap _
    rw [e88]
    exact ⟨rfl, N88⟩
  · show Go p e below _ (T64.setTop (mkF m 141 #[.val (.int p0), .val (.ref b7), .val (.int (4 : Int32)), .unset, .unset] []))
    refine Go.st (V' := T64.setTop (mkF m 143 #[.val (.int p0), .val (.ref b7), .val (.int (4 : Int32)), .unset, .unset] [(.int (4 : Int32)), (.ref b7)])) (fun t k => ?_) ?_
    · refine XS.aloadN X65.here hx rfl (hb hby at_141) rfl rfl ?_
      show Steps p.tables e below (T64.setTop (mkF m 142 #[.val (.int p0), .val (.ref b7), .val (.int (4 : Int32)), .unset, .unset] [(.ref b7)])) _
      refine XS.iloadN X65.here hx rfl (hb hby at_142) rfl  ?_
      show Steps p.tables e below (T64.setTop (mkF m 143 #[.val (.int p0), .val (.ref b7), .val (.int (4 : Int32)), .unset, .unset] [(.int (4 : Int32)), (.ref b7)])) _
      exact k
    obtain ⟨cl90, Ar90, q90, Sz90, Nn90, Ha90, Ga90⟩ := id (V64)
    have hin90 : ¬ ((4 : Int32) < 0 ∨ cl90.slots.size ≤ ((4 : Int32)).toNatClampNeg) := inb_of Sz90 ⟨by decide, by decide⟩
    refine Go.st (V' := T64.setTop (mkF m 146 #[.val (.int p0), .val (.ref b7), .val (.int (4 : Int32)), .val (.ref s_EXTEND), .unset] [(.ref s_EXTEND)])) (fun t k => ?_) ?_
    · show Steps p.tables e below (T64.setTop (mkF m 143 #[.val (.int p0), .val (.ref b7), .val (.int (4 : Int32)), .unset, .unset] [(.int (4 : Int32)), (.ref b7)])) _
      refine X65.aaload hx (j := (4 : Int32)) (v := (.ref s_EXTEND)) (own_eT e64 Ar90) (State.isArrayOf_alike hZ.alike Ar90.2.1) rfl Ar90.2.2 hin90 (Ha90.at hin90 rfl) (g := (mkF m 143 #[.val (.int p0), .val (.ref b7), .val (.int (4 : Int32)), .unset, .unset] [(.int (4 : Int32)), (.ref b7)])) rfl rfl (hb hby at_143) _ ?_
      show Steps p.tables e below (T64.setTop (mkF m 144 #[.val (.int p0), .val (.ref b7), .val (.int (4 : Int32)), .unset, .unset] [(.ref s_EXTEND)])) _
      refine XS.astoreN X65.here hx rfl (hb hby at_144) rfl rfl (l' := #[.val (.int p0), .val (.ref b7), .val (.int (4 : Int32)), .val (.ref s_EXTEND), .unset]) rfl ?_
      show Steps p.tables e below (T64.setTop (mkF m 145 #[.val (.int p0), .val (.ref b7), .val (.int (4 : Int32)), .val (.ref s_EXTEND), .unset] [])) _
      refine XS.aloadN X65.here hx rfl (hb hby at_145) rfl rfl ?_
      show Steps p.tables e below (T64.setTop (mkF m 146 #[.val (.int p0), .val (.ref b7), .val (.int (4 : Int32)), .val (.ref s_EXTEND), .unset] [(.ref s_EXTEND)])) _
      exact k
    obtain ⟨T91, X91, e91, st91⟩ := getS2 X65 hx hZ hown (host := "") (Or.inl (hw _ (List.mem_of_getElem? (i := 28) rfl))) Via.refl e64 (S_MID_LETTER.ext O64.2) (g := (mkF m 146 #[.val (.int p0), .val (.ref b7), .val (.int (4 : Int32)), .val (.ref s_EXTEND), .unset] [(.ref s_EXTEND)])) rfl (hb hby at_146)
    refine Go.st (V' := T91.setTop (mkF m 149 #[.val (.int p0), .val (.ref b7), .val (.int (4 : Int32)), .val (.ref s_EXTEND), .unset] [(.ref s_MID_LETTER), (.ref s_EXTEND)])) (fun t k => st91 t k) ?_
    refine Go.st (V' := T91.setTop (mkF m 153 #[.val (.int p0), .val (.ref b7), .val (.int (4 : Int32)), .val (.ref s_EXTEND), .unset] [(.ref s_EXTEND)])) (fun t k => ?_) ?_
    · refine Jvm.RoadKit.acmp (g := (mkF m 149 #[.val (.int p0), .val (.ref b7), .val (.int (4 : Int32)), .val (.ref s_EXTEND), .unset] [(.ref s_MID_LETTER), (.ref s_EXTEND)])) X91 hx rfl rfl rfl (pc0 := 149) (pc' := 152) (same := false) rfl (hb hby at_149) rfl (decide_eq_false fun q => (Fld.ne (F_EXTEND_ordinal.ext O64.2) (F_MID_LETTER_ordinal.ext O64.2) (by decide)) (Value.ref.inj q)) (by decide) (by decide) ?_
      show Steps p.tables e below (T91.setTop (mkF m 152 #[.val (.int p0), .val (.ref b7), .val (.int (4 : Int32)), .val (.ref s_EXTEND), .unset] [])) _
      refine XS.aloadN X91.here hx rfl (hb hby at_152) rfl rfl ?_
      show Steps p.tables e below (T91.setTop (mkF m 153 #[.val (.int p0), .val (.ref b7), .val (.int (4 : Int32)), .val (.ref s_EXTEND), .unset] [(.ref s_EXTEND)])) _
      exact k
    obtain ⟨T92, X92, e92, st92⟩ := getS2 X91 hx hZ hown (host := "") (Or.inl (hw _ (List.mem_of_getElem? (i := 32) rfl))) Via.refl e91 (S_MID_NUM_LET.ext O64.2) (g := (mkF m 153 #[.val (.int p0), .val (.ref b7), .val (.int (4 : Int32)), .val (.ref s_EXTEND), .unset] [(.ref s_EXTEND)])) rfl (hb hby at_153)
    refine Go.st (V' := T92.setTop (mkF m 156 #[.val (.int p0), .val (.ref b7), .val (.int (4 : Int32)), .val (.ref s_EXTEND), .unset] [(.ref s_MID_NUM_LET), (.ref s_EXTEND)])) (fun t k => st92 t k) ?_
    refine Go.st (V' := T92.setTop (mkF m 160 #[.val (.int p0), .val (.ref b7), .val (.int (4 : Int32)), .val (.ref s_EXTEND), .unset] [(.ref s_EXTEND)])) (fun t k => ?_) ?_
    · refine Jvm.RoadKit.acmp (g := (mkF m 156 #[.val (.int p0), .val (.ref b7), .val (.int (4 : Int32)), .val (.ref s_EXTEND), .unset] [(.ref s_MID_NUM_LET), (.ref s_EXTEND)])) X92 hx rfl rfl rfl (pc0 := 156) (pc' := 159) (same := false) rfl (hb hby at_156) rfl (decide_eq_false fun q => (Fld.ne (F_EXTEND_ordinal.ext O64.2) (F_MID_NUM_LET_ordinal.ext O64.2) (by decide)) (Value.ref.inj q)) (by decide) (by decide) ?_
      show Steps p.tables e below (T92.setTop (mkF m 159 #[.val (.int p0), .val (.ref b7), .val (.int (4 : Int32)), .val (.ref s_EXTEND), .unset] [])) _
      refine XS.aloadN X92.here hx rfl (hb hby at_159) rfl rfl ?_
      show Steps p.tables e below (T92.setTop (mkF m 160 #[.val (.int p0), .val (.ref b7), .val (.int (4 : Int32)), .val (.ref s_EXTEND), .unset] [(.ref s_EXTEND)])) _
      exact k
    obtain ⟨T93, X93, e93, st93⟩ := getS2 X92 hx hZ hown (host := "") (Or.inl (hw _ (List.mem_of_getElem? (i := 34) rfl))) Via.refl e92 (S_SINGLE_QUOTE.ext O64.2) (g := (mkF m 160 #[.val (.int p0), .val (.ref b7), .val (.int (4 : Int32)), .val (.ref s_EXTEND), .unset] [(.ref s_EXTEND)])) rfl (hb hby at_160)
    refine Go.st (V' := T93.setTop (mkF m 163 #[.val (.int p0), .val (.ref b7), .val (.int (4 : Int32)), .val (.ref s_EXTEND), .unset] [(.ref s_SINGLE_QUOTE), (.ref s_EXTEND)])) (fun t k => st93 t k) ?_
    refine Go.st (V' := T93.setTop (mkF m 174 #[.val (.int p0), .val (.ref b7), .val (.int (4 : Int32)), .val (.ref s_EXTEND), .val (.int (0 : Int32))] [(.ref s_EXTEND)])) (fun t k => ?_) ?_
    · refine Jvm.RoadKit.acmp (g := (mkF m 163 #[.val (.int p0), .val (.ref b7), .val (.int (4 : Int32)), .val (.ref s_EXTEND), .unset] [(.ref s_SINGLE_QUOTE), (.ref s_EXTEND)])) X93 hx rfl rfl rfl (pc0 := 163) (pc' := 170) (same := false) rfl (hb hby at_163) rfl (decide_eq_false fun q => (Fld.ne (F_EXTEND_ordinal.ext O64.2) (F_SINGLE_QUOTE_ordinal.ext O64.2) (by decide)) (Value.ref.inj q)) (by decide) (by decide) ?_
      show Steps p.tables e below (T93.setTop (mkF m 170 #[.val (.int p0), .val (.ref b7), .val (.int (4 : Int32)), .val (.ref s_EXTEND), .unset] [])) _
      refine XS.iconst X93.here hx rfl (hb hby at_170) ?_
      show Steps p.tables e below (T93.setTop (mkF m 171 #[.val (.int p0), .val (.ref b7), .val (.int (4 : Int32)), .val (.ref s_EXTEND), .unset] [(.int (0 : Int32))])) _
      refine XS.istore X93.here hx rfl (hb hby at_171) rfl (l' := #[.val (.int p0), .val (.ref b7), .val (.int (4 : Int32)), .val (.ref s_EXTEND), .val (.int (0 : Int32))]) rfl ?_
      show Steps p.tables e below (T93.setTop (mkF m 173 #[.val (.int p0), .val (.ref b7), .val (.int (4 : Int32)), .val (.ref s_EXTEND), .val (.int (0 : Int32))] [])) _
      refine XS.aloadN X93.here hx rfl (hb hby at_173) rfl rfl ?_
      show Steps p.tables e below (T93.setTop (mkF m 174 #[.val (.int p0), .val (.ref b7), .val (.int (4 : Int32)), .val (.ref s_EXTEND), .val (.int (0 : Int32))] [(.ref s_EXTEND)])) _
      exact k
    obtain ⟨cq94, kq94, q94a, q94b, q94c⟩ := isOf hZ e93 (E_EXTEND.ext O64.2)
    obtain ⟨_, _, ⟨T94, L94, k94, n94⟩, -, X94, ⟨Lc94, hQ94, l94, y94, z94⟩, st94⟩ := X93.virtualBack hx (y := (⟨"com/example/hits_from_terms/hitsfromterms/analysis/WordBreak", "isMidLetter", "()Z"⟩ : MethodName)) (z := (⟨"com/example/hits_from_terms/hitsfromterms/analysis/WordBreak", "isMidLetter", "()Z"⟩ : MethodName)) hown (mvT hZ (hw _ (List.mem_of_getElem? (i := 43) rfl))) (mvT hZ (hw _ (List.mem_of_getElem? (i := 44) rfl))) (notFace_of_selects (args := #[]) (mvT hZ (hw _ (List.mem_of_getElem? (i := 46) rfl)))) (mvT hZ (hw _ (List.mem_of_getElem? (i := 46) rfl))) (mvT hZ (hw _ (List.mem_of_getElem? (i := 45) rfl))) (by decide) (backOf (W := 0) (rm1 l Z a0 hw [] s_OTHER s_CR s_LF s_NEWLINE s_EXTEND s_FORMAT s_ZWJ s_ALETTER s_HEBREW_LETTER s_NUMERIC s_KATAKANA s_EXTEND_NUM_LET s_MID_LETTER s_MID_NUM s_MID_NUM_LET s_SINGLE_QUOTE s_DOUBLE_QUOTE s_REGIONAL_INDICATOR s_WSEG_SPACE HW s_EXTEND h64 n0 O64) hZ (hw _ (List.mem_of_getElem? (i := 47) rfl)) (hw _ (List.mem_of_getElem? (i := 3) rfl)) (by decide) (by decide)) q94a q94c (g := (mkF m 174 #[.val (.int p0), .val (.ref b7), .val (.int (4 : Int32)), .val (.ref s_EXTEND), .val (.int (0 : Int32))] [(.ref s_EXTEND)])) rfl (by rw [hml]; rfl) (Steps.refl _) (argsL := []) (rest := []) (lenOf own_pd13 rfl) rfl (by show 2 * 0 + _ ≤ _; exact Nat.le_of_eq rfl) (hb hby at_174) (fun _ _ => ⟨rfl, e93, (by decide : 1 + 0 ≤ _), (by decide : 19 + 0 ≤ _)⟩)
    dsimp only [Pt.U, Pt.locs, Pt.cells, Pt.slots] at X94 l94 y94 z94 st94 hQ94
    subst l94 y94 z94
    obtain ⟨rfl, N94q, e94⟩ := hQ94
    have N94 := Fr.app N65 N94q
    refine Go.st (V' := T94.setTop (mkF m 177 #[.val (.int p0), .val (.ref b7), .val (.int (4 : Int32)), .val (.ref s_EXTEND), .val (.int (0 : Int32))] [(.int (f1 s_MID_LETTER s_MID_NUM_LET s_SINGLE_QUOTE s_EXTEND))])) (fun t k => st94.trans k) ?_
    have r95 : (f1 s_MID_LETTER s_MID_NUM_LET s_SINGLE_QUOTE s_EXTEND) = (0 : Int32) := by rw [f1, if_neg (Fld.ne (F_EXTEND_ordinal.ext O64.2) (F_MID_LETTER_ordinal.ext O64.2) (by decide)), if_neg (Fld.ne (F_EXTEND_ordinal.ext O64.2) (F_MID_NUM_LET_ordinal.ext O64.2) (by decide)), if_neg (Fld.ne (F_EXTEND_ordinal.ext O64.2) (F_SINGLE_QUOTE_ordinal.ext O64.2) (by decide))]
    rw [r95]
    refine Go.st (V' := T94.setTop (mkF m 187 #[.val (.int p0), .val (.ref b7), .val (.int (4 : Int32)), .val (.ref s_EXTEND), .val (.int (0 : Int32))] [(.int (1 : Int32))])) (fun t k => ?_) ?_
    · refine XS.iload X94.here hx rfl (hb hby at_177) rfl  ?_
      show Steps p.tables e below (T94.setTop (mkF m 179 #[.val (.int p0), .val (.ref b7), .val (.int (4 : Int32)), .val (.ref s_EXTEND), .val (.int (0 : Int32))] [(.int (0 : Int32)), (.int (0 : Int32))])) _
      refine XS.icmpNo X94.here hx rfl (hb hby at_179) rfl (teq (by decide : ((0 : Int32) = (0 : Int32)))).2 ?_
      show Steps p.tables e below (T94.setTop (mkF m 182 #[.val (.int p0), .val (.ref b7), .val (.int (4 : Int32)), .val (.ref s_EXTEND), .val (.int (0 : Int32))] [])) _
      refine XS.iconst X94.here hx rfl (hb hby at_182) ?_
      show Steps p.tables e below (T94.setTop (mkF m 183 #[.val (.int p0), .val (.ref b7), .val (.int (4 : Int32)), .val (.ref s_EXTEND), .val (.int (0 : Int32))] [(.int (1 : Int32))])) _
      refine XS.goto X94.here hx rfl (pc0 := 183) (pc' := 187) rfl (hb hby at_183) (by decide) (by decide) ?_
      show Steps p.tables e below (T94.setTop (mkF m 187 #[.val (.int p0), .val (.ref b7), .val (.int (4 : Int32)), .val (.ref s_EXTEND), .val (.int (0 : Int32))] [(.int (1 : Int32))])) _
      exact k
    obtain ⟨fs, hr, hrun, hended, hW, hsame⟩ := X94.leave (v := some (.int (1 : Int32))) (fun h => by rw [Bd.returns] at h; cases h)
    refine Go.mk' ⟨_, _, retN X94 hx (t := .boolean) Bd.returns (by simp) (hb hby at_187) hr, hrun, hended, _, _, rfl, ?_, ⟨_, rfl⟩, hW, hsame.mono (by decide) (by decide)⟩
    show Q0 Z p0 h0 n0 _ T94.heap _
    rw [e94]
    exact ⟨rfl, N94⟩
  · show Go p e below _ (T64.setTop (mkF m 141 #[.val (.int p0), .val (.ref b7), .val (.int (5 : Int32)), .unset, .unset] []))
    refine Go.st (V' := T64.setTop (mkF m 143 #[.val (.int p0), .val (.ref b7), .val (.int (5 : Int32)), .unset, .unset] [(.int (5 : Int32)), (.ref b7)])) (fun t k => ?_) ?_
    · refine XS.aloadN X65.here hx rfl (hb hby at_141) rfl rfl ?_
      show Steps p.tables e below (T64.setTop (mkF m 142 #[.val (.int p0), .val (.ref b7), .val (.int (5 : Int32)), .unset, .unset] [(.ref b7)])) _
      refine XS.iloadN X65.here hx rfl (hb hby at_142) rfl  ?_
      show Steps p.tables e below (T64.setTop (mkF m 143 #[.val (.int p0), .val (.ref b7), .val (.int (5 : Int32)), .unset, .unset] [(.int (5 : Int32)), (.ref b7)])) _
      exact k
    obtain ⟨cl96, Ar96, q96, Sz96, Nn96, Ha96, Ga96⟩ := id (V64)
    have hin96 : ¬ ((5 : Int32) < 0 ∨ cl96.slots.size ≤ ((5 : Int32)).toNatClampNeg) := inb_of Sz96 ⟨by decide, by decide⟩
    refine Go.st (V' := T64.setTop (mkF m 146 #[.val (.int p0), .val (.ref b7), .val (.int (5 : Int32)), .val (.ref s_FORMAT), .unset] [(.ref s_FORMAT)])) (fun t k => ?_) ?_
    · show Steps p.tables e below (T64.setTop (mkF m 143 #[.val (.int p0), .val (.ref b7), .val (.int (5 : Int32)), .unset, .unset] [(.int (5 : Int32)), (.ref b7)])) _
      refine X65.aaload hx (j := (5 : Int32)) (v := (.ref s_FORMAT)) (own_eT e64 Ar96) (State.isArrayOf_alike hZ.alike Ar96.2.1) rfl Ar96.2.2 hin96 (Ha96.at hin96 rfl) (g := (mkF m 143 #[.val (.int p0), .val (.ref b7), .val (.int (5 : Int32)), .unset, .unset] [(.int (5 : Int32)), (.ref b7)])) rfl rfl (hb hby at_143) _ ?_
      show Steps p.tables e below (T64.setTop (mkF m 144 #[.val (.int p0), .val (.ref b7), .val (.int (5 : Int32)), .unset, .unset] [(.ref s_FORMAT)])) _
      refine XS.astoreN X65.here hx rfl (hb hby at_144) rfl rfl (l' := #[.val (.int p0), .val (.ref b7), .val (.int (5 : Int32)), .val (.ref s_FORMAT), .unset]) rfl ?_
      show Steps p.tables e below (T64.setTop (mkF m 145 #[.val (.int p0), .val (.ref b7), .val (.int (5 : Int32)), .val (.ref s_FORMAT), .unset] [])) _
      refine XS.aloadN X65.here hx rfl (hb hby at_145) rfl rfl ?_
      show Steps p.tables e below (T64.setTop (mkF m 146 #[.val (.int p0), .val (.ref b7), .val (.int (5 : Int32)), .val (.ref s_FORMAT), .unset] [(.ref s_FORMAT)])) _
      exact k
    obtain ⟨T97, X97, e97, st97⟩ := getS2 X65 hx hZ hown (host := "") (Or.inl (hw _ (List.mem_of_getElem? (i := 28) rfl))) Via.refl e64 (S_MID_LETTER.ext O64.2) (g := (mkF m 146 #[.val (.int p0), .val (.ref b7), .val (.int (5 : Int32)), .val (.ref s_FORMAT), .unset] [(.ref s_FORMAT)])) rfl (hb hby at_146)
    refine Go.st (V' := T97.setTop (mkF m 149 #[.val (.int p0), .val (.ref b7), .val (.int (5 : Int32)), .val (.ref s_FORMAT), .unset] [(.ref s_MID_LETTER), (.ref s_FORMAT)])) (fun t k => st97 t k) ?_
    refine Go.st (V' := T97.setTop (mkF m 153 #[.val (.int p0), .val (.ref b7), .val (.int (5 : Int32)), .val (.ref s_FORMAT), .unset] [(.ref s_FORMAT)])) (fun t k => ?_) ?_
    · refine Jvm.RoadKit.acmp (g := (mkF m 149 #[.val (.int p0), .val (.ref b7), .val (.int (5 : Int32)), .val (.ref s_FORMAT), .unset] [(.ref s_MID_LETTER), (.ref s_FORMAT)])) X97 hx rfl rfl rfl (pc0 := 149) (pc' := 152) (same := false) rfl (hb hby at_149) rfl (decide_eq_false fun q => (Fld.ne (F_FORMAT_ordinal.ext O64.2) (F_MID_LETTER_ordinal.ext O64.2) (by decide)) (Value.ref.inj q)) (by decide) (by decide) ?_
      show Steps p.tables e below (T97.setTop (mkF m 152 #[.val (.int p0), .val (.ref b7), .val (.int (5 : Int32)), .val (.ref s_FORMAT), .unset] [])) _
      refine XS.aloadN X97.here hx rfl (hb hby at_152) rfl rfl ?_
      show Steps p.tables e below (T97.setTop (mkF m 153 #[.val (.int p0), .val (.ref b7), .val (.int (5 : Int32)), .val (.ref s_FORMAT), .unset] [(.ref s_FORMAT)])) _
      exact k
    obtain ⟨T98, X98, e98, st98⟩ := getS2 X97 hx hZ hown (host := "") (Or.inl (hw _ (List.mem_of_getElem? (i := 32) rfl))) Via.refl e97 (S_MID_NUM_LET.ext O64.2) (g := (mkF m 153 #[.val (.int p0), .val (.ref b7), .val (.int (5 : Int32)), .val (.ref s_FORMAT), .unset] [(.ref s_FORMAT)])) rfl (hb hby at_153)
    refine Go.st (V' := T98.setTop (mkF m 156 #[.val (.int p0), .val (.ref b7), .val (.int (5 : Int32)), .val (.ref s_FORMAT), .unset] [(.ref s_MID_NUM_LET), (.ref s_FORMAT)])) (fun t k => st98 t k) ?_
    refine Go.st (V' := T98.setTop (mkF m 160 #[.val (.int p0), .val (.ref b7), .val (.int (5 : Int32)), .val (.ref s_FORMAT), .unset] [(.ref s_FORMAT)])) (fun t k => ?_) ?_
    · refine Jvm.RoadKit.acmp (g := (mkF m 156 #[.val (.int p0), .val (.ref b7), .val (.int (5 : Int32)), .val (.ref s_FORMAT), .unset] [(.ref s_MID_NUM_LET), (.ref s_FORMAT)])) X98 hx rfl rfl rfl (pc0 := 156) (pc' := 159) (same := false) rfl (hb hby at_156) rfl (decide_eq_false fun q => (Fld.ne (F_FORMAT_ordinal.ext O64.2) (F_MID_NUM_LET_ordinal.ext O64.2) (by decide)) (Value.ref.inj q)) (by decide) (by decide) ?_
      show Steps p.tables e below (T98.setTop (mkF m 159 #[.val (.int p0), .val (.ref b7), .val (.int (5 : Int32)), .val (.ref s_FORMAT), .unset] [])) _
      refine XS.aloadN X98.here hx rfl (hb hby at_159) rfl rfl ?_
      show Steps p.tables e below (T98.setTop (mkF m 160 #[.val (.int p0), .val (.ref b7), .val (.int (5 : Int32)), .val (.ref s_FORMAT), .unset] [(.ref s_FORMAT)])) _
      exact k
    obtain ⟨T99, X99, e99, st99⟩ := getS2 X98 hx hZ hown (host := "") (Or.inl (hw _ (List.mem_of_getElem? (i := 34) rfl))) Via.refl e98 (S_SINGLE_QUOTE.ext O64.2) (g := (mkF m 160 #[.val (.int p0), .val (.ref b7), .val (.int (5 : Int32)), .val (.ref s_FORMAT), .unset] [(.ref s_FORMAT)])) rfl (hb hby at_160)
    refine Go.st (V' := T99.setTop (mkF m 163 #[.val (.int p0), .val (.ref b7), .val (.int (5 : Int32)), .val (.ref s_FORMAT), .unset] [(.ref s_SINGLE_QUOTE), (.ref s_FORMAT)])) (fun t k => st99 t k) ?_
    refine Go.st (V' := T99.setTop (mkF m 174 #[.val (.int p0), .val (.ref b7), .val (.int (5 : Int32)), .val (.ref s_FORMAT), .val (.int (0 : Int32))] [(.ref s_FORMAT)])) (fun t k => ?_) ?_
    · refine Jvm.RoadKit.acmp (g := (mkF m 163 #[.val (.int p0), .val (.ref b7), .val (.int (5 : Int32)), .val (.ref s_FORMAT), .unset] [(.ref s_SINGLE_QUOTE), (.ref s_FORMAT)])) X99 hx rfl rfl rfl (pc0 := 163) (pc' := 170) (same := false) rfl (hb hby at_163) rfl (decide_eq_false fun q => (Fld.ne (F_FORMAT_ordinal.ext O64.2) (F_SINGLE_QUOTE_ordinal.ext O64.2) (by decide)) (Value.ref.inj q)) (by decide) (by decide) ?_
      show Steps p.tables e below (T99.setTop (mkF m 170 #[.val (.int p0), .val (.ref b7), .val (.int (5 : Int32)), .val (.ref s_FORMAT), .unset] [])) _
      refine XS.iconst X99.here hx rfl (hb hby at_170) ?_
      show Steps p.tables e below (T99.setTop (mkF m 171 #[.val (.int p0), .val (.ref b7), .val (.int (5 : Int32)), .val (.ref s_FORMAT), .unset] [(.int (0 : Int32))])) _
      refine XS.istore X99.here hx rfl (hb hby at_171) rfl (l' := #[.val (.int p0), .val (.ref b7), .val (.int (5 : Int32)), .val (.ref s_FORMAT), .val (.int (0 : Int32))]) rfl ?_
      show Steps p.tables e below (T99.setTop (mkF m 173 #[.val (.int p0), .val (.ref b7), .val (.int (5 : Int32)), .val (.ref s_FORMAT), .val (.int (0 : Int32))] [])) _
      refine XS.aloadN X99.here hx rfl (hb hby at_173) rfl rfl ?_
      show Steps p.tables e below (T99.setTop (mkF m 174 #[.val (.int p0), .val (.ref b7), .val (.int (5 : Int32)), .val (.ref s_FORMAT), .val (.int (0 : Int32))] [(.ref s_FORMAT)])) _
      exact k
    obtain ⟨cq100, kq100, q100a, q100b, q100c⟩ := isOf hZ e99 (E_FORMAT.ext O64.2)
    obtain ⟨_, _, ⟨T100, L100, k100, n100⟩, -, X100, ⟨Lc100, hQ100, l100, y100, z100⟩, st100⟩ := X99.virtualBack hx (y := (⟨"com/example/hits_from_terms/hitsfromterms/analysis/WordBreak", "isMidLetter", "()Z"⟩ : MethodName)) (z := (⟨"com/example/hits_from_terms/hitsfromterms/analysis/WordBreak", "isMidLetter", "()Z"⟩ : MethodName)) hown (mvT hZ (hw _ (List.mem_of_getElem? (i := 43) rfl))) (mvT hZ (hw _ (List.mem_of_getElem? (i := 44) rfl))) (notFace_of_selects (args := #[]) (mvT hZ (hw _ (List.mem_of_getElem? (i := 46) rfl)))) (mvT hZ (hw _ (List.mem_of_getElem? (i := 46) rfl))) (mvT hZ (hw _ (List.mem_of_getElem? (i := 45) rfl))) (by decide) (backOf (W := 0) (rm1 l Z a0 hw [] s_OTHER s_CR s_LF s_NEWLINE s_EXTEND s_FORMAT s_ZWJ s_ALETTER s_HEBREW_LETTER s_NUMERIC s_KATAKANA s_EXTEND_NUM_LET s_MID_LETTER s_MID_NUM s_MID_NUM_LET s_SINGLE_QUOTE s_DOUBLE_QUOTE s_REGIONAL_INDICATOR s_WSEG_SPACE HW s_FORMAT h64 n0 O64) hZ (hw _ (List.mem_of_getElem? (i := 47) rfl)) (hw _ (List.mem_of_getElem? (i := 3) rfl)) (by decide) (by decide)) q100a q100c (g := (mkF m 174 #[.val (.int p0), .val (.ref b7), .val (.int (5 : Int32)), .val (.ref s_FORMAT), .val (.int (0 : Int32))] [(.ref s_FORMAT)])) rfl (by rw [hml]; rfl) (Steps.refl _) (argsL := []) (rest := []) (lenOf own_pd13 rfl) rfl (by show 2 * 0 + _ ≤ _; exact Nat.le_of_eq rfl) (hb hby at_174) (fun _ _ => ⟨rfl, e99, (by decide : 1 + 0 ≤ _), (by decide : 19 + 0 ≤ _)⟩)
    dsimp only [Pt.U, Pt.locs, Pt.cells, Pt.slots] at X100 l100 y100 z100 st100 hQ100
    subst l100 y100 z100
    obtain ⟨rfl, N100q, e100⟩ := hQ100
    have N100 := Fr.app N65 N100q
    refine Go.st (V' := T100.setTop (mkF m 177 #[.val (.int p0), .val (.ref b7), .val (.int (5 : Int32)), .val (.ref s_FORMAT), .val (.int (0 : Int32))] [(.int (f1 s_MID_LETTER s_MID_NUM_LET s_SINGLE_QUOTE s_FORMAT))])) (fun t k => st100.trans k) ?_
    have r101 : (f1 s_MID_LETTER s_MID_NUM_LET s_SINGLE_QUOTE s_FORMAT) = (0 : Int32) := by rw [f1, if_neg (Fld.ne (F_FORMAT_ordinal.ext O64.2) (F_MID_LETTER_ordinal.ext O64.2) (by decide)), if_neg (Fld.ne (F_FORMAT_ordinal.ext O64.2) (F_MID_NUM_LET_ordinal.ext O64.2) (by decide)), if_neg (Fld.ne (F_FORMAT_ordinal.ext O64.2) (F_SINGLE_QUOTE_ordinal.ext O64.2) (by decide))]
    rw [r101]
    refine Go.st (V' := T100.setTop (mkF m 187 #[.val (.int p0), .val (.ref b7), .val (.int (5 : Int32)), .val (.ref s_FORMAT), .val (.int (0 : Int32))] [(.int (1 : Int32))])) (fun t k => ?_) ?_
    · refine XS.iload X100.here hx rfl (hb hby at_177) rfl  ?_
      show Steps p.tables e below (T100.setTop (mkF m 179 #[.val (.int p0), .val (.ref b7), .val (.int (5 : Int32)), .val (.ref s_FORMAT), .val (.int (0 : Int32))] [(.int (0 : Int32)), (.int (0 : Int32))])) _
      refine XS.icmpNo X100.here hx rfl (hb hby at_179) rfl (teq (by decide : ((0 : Int32) = (0 : Int32)))).2 ?_
      show Steps p.tables e below (T100.setTop (mkF m 182 #[.val (.int p0), .val (.ref b7), .val (.int (5 : Int32)), .val (.ref s_FORMAT), .val (.int (0 : Int32))] [])) _
      refine XS.iconst X100.here hx rfl (hb hby at_182) ?_
      show Steps p.tables e below (T100.setTop (mkF m 183 #[.val (.int p0), .val (.ref b7), .val (.int (5 : Int32)), .val (.ref s_FORMAT), .val (.int (0 : Int32))] [(.int (1 : Int32))])) _
      refine XS.goto X100.here hx rfl (pc0 := 183) (pc' := 187) rfl (hb hby at_183) (by decide) (by decide) ?_
      show Steps p.tables e below (T100.setTop (mkF m 187 #[.val (.int p0), .val (.ref b7), .val (.int (5 : Int32)), .val (.ref s_FORMAT), .val (.int (0 : Int32))] [(.int (1 : Int32))])) _
      exact k
    obtain ⟨fs, hr, hrun, hended, hW, hsame⟩ := X100.leave (v := some (.int (1 : Int32))) (fun h => by rw [Bd.returns] at h; cases h)
    refine Go.mk' ⟨_, _, retN X100 hx (t := .boolean) Bd.returns (by simp) (hb hby at_187) hr, hrun, hended, _, _, rfl, ?_, ⟨_, rfl⟩, hW, hsame.mono (by decide) (by decide)⟩
    show Q0 Z p0 h0 n0 _ T100.heap _
    rw [e100]
    exact ⟨rfl, N100⟩
  · show Go p e below _ (T64.setTop (mkF m 141 #[.val (.int p0), .val (.ref b7), .val (.int (6 : Int32)), .unset, .unset] []))
    refine Go.st (V' := T64.setTop (mkF m 143 #[.val (.int p0), .val (.ref b7), .val (.int (6 : Int32)), .unset, .unset] [(.int (6 : Int32)), (.ref b7)])) (fun t k => ?_) ?_
    · refine XS.aloadN X65.here hx rfl (hb hby at_141) rfl rfl ?_
      show Steps p.tables e below (T64.setTop (mkF m 142 #[.val (.int p0), .val (.ref b7), .val (.int (6 : Int32)), .unset, .unset] [(.ref b7)])) _
      refine XS.iloadN X65.here hx rfl (hb hby at_142) rfl  ?_
      show Steps p.tables e below (T64.setTop (mkF m 143 #[.val (.int p0), .val (.ref b7), .val (.int (6 : Int32)), .unset, .unset] [(.int (6 : Int32)), (.ref b7)])) _
      exact k
    obtain ⟨cl102, Ar102, q102, Sz102, Nn102, Ha102, Ga102⟩ := id (V64)
    have hin102 : ¬ ((6 : Int32) < 0 ∨ cl102.slots.size ≤ ((6 : Int32)).toNatClampNeg) := inb_of Sz102 ⟨by decide, by decide⟩
    refine Go.st (V' := T64.setTop (mkF m 146 #[.val (.int p0), .val (.ref b7), .val (.int (6 : Int32)), .val (.ref s_ZWJ), .unset] [(.ref s_ZWJ)])) (fun t k => ?_) ?_
    · show Steps p.tables e below (T64.setTop (mkF m 143 #[.val (.int p0), .val (.ref b7), .val (.int (6 : Int32)), .unset, .unset] [(.int (6 : Int32)), (.ref b7)])) _
      refine X65.aaload hx (j := (6 : Int32)) (v := (.ref s_ZWJ)) (own_eT e64 Ar102) (State.isArrayOf_alike hZ.alike Ar102.2.1) rfl Ar102.2.2 hin102 (Ha102.at hin102 rfl) (g := (mkF m 143 #[.val (.int p0), .val (.ref b7), .val (.int (6 : Int32)), .unset, .unset] [(.int (6 : Int32)), (.ref b7)])) rfl rfl (hb hby at_143) _ ?_
      show Steps p.tables e below (T64.setTop (mkF m 144 #[.val (.int p0), .val (.ref b7), .val (.int (6 : Int32)), .unset, .unset] [(.ref s_ZWJ)])) _
      refine XS.astoreN X65.here hx rfl (hb hby at_144) rfl rfl (l' := #[.val (.int p0), .val (.ref b7), .val (.int (6 : Int32)), .val (.ref s_ZWJ), .unset]) rfl ?_
      show Steps p.tables e below (T64.setTop (mkF m 145 #[.val (.int p0), .val (.ref b7), .val (.int (6 : Int32)), .val (.ref s_ZWJ), .unset] [])) _
      refine XS.aloadN X65.here hx rfl (hb hby at_145) rfl rfl ?_
      show Steps p.tables e below (T64.setTop (mkF m 146 #[.val (.int p0), .val (.ref b7), .val (.int (6 : Int32)), .val (.ref s_ZWJ), .unset] [(.ref s_ZWJ)])) _
      exact k
    obtain ⟨T103, X103, e103, st103⟩ := getS2 X65 hx hZ hown (host := "") (Or.inl (hw _ (List.mem_of_getElem? (i := 28) rfl))) Via.refl e64 (S_MID_LETTER.ext O64.2) (g := (mkF m 146 #[.val (.int p0), .val (.ref b7), .val (.int (6 : Int32)), .val (.ref s_ZWJ), .unset] [(.ref s_ZWJ)])) rfl (hb hby at_146)
    refine Go.st (V' := T103.setTop (mkF m 149 #[.val (.int p0), .val (.ref b7), .val (.int (6 : Int32)), .val (.ref s_ZWJ), .unset] [(.ref s_MID_LETTER), (.ref s_ZWJ)])) (fun t k => st103 t k) ?_
    refine Go.st (V' := T103.setTop (mkF m 153 #[.val (.int p0), .val (.ref b7), .val (.int (6 : Int32)), .val (.ref s_ZWJ), .unset] [(.ref s_ZWJ)])) (fun t k => ?_) ?_
    · refine Jvm.RoadKit.acmp (g := (mkF m 149 #[.val (.int p0), .val (.ref b7), .val (.int (6 : Int32)), .val (.ref s_ZWJ), .unset] [(.ref s_MID_LETTER), (.ref s_ZWJ)])) X103 hx rfl rfl rfl (pc0 := 149) (pc' := 152) (same := false) rfl (hb hby at_149) rfl (decide_eq_false fun q => (Fld.ne (F_ZWJ_ordinal.ext O64.2) (F_MID_LETTER_ordinal.ext O64.2) (by decide)) (Value.ref.inj q)) (by decide) (by decide) ?_
      show Steps p.tables e below (T103.setTop (mkF m 152 #[.val (.int p0), .val (.ref b7), .val (.int (6 : Int32)), .val (.ref s_ZWJ), .unset] [])) _
      refine XS.aloadN X103.here hx rfl (hb hby at_152) rfl rfl ?_
      show Steps p.tables e below (T103.setTop (mkF m 153 #[.val (.int p0), .val (.ref b7), .val (.int (6 : Int32)), .val (.ref s_ZWJ), .unset] [(.ref s_ZWJ)])) _
      exact k
    obtain ⟨T104, X104, e104, st104⟩ := getS2 X103 hx hZ hown (host := "") (Or.inl (hw _ (List.mem_of_getElem? (i := 32) rfl))) Via.refl e103 (S_MID_NUM_LET.ext O64.2) (g := (mkF m 153 #[.val (.int p0), .val (.ref b7), .val (.int (6 : Int32)), .val (.ref s_ZWJ), .unset] [(.ref s_ZWJ)])) rfl (hb hby at_153)
    refine Go.st (V' := T104.setTop (mkF m 156 #[.val (.int p0), .val (.ref b7), .val (.int (6 : Int32)), .val (.ref s_ZWJ), .unset] [(.ref s_MID_NUM_LET), (.ref s_ZWJ)])) (fun t k => st104 t k) ?_
    refine Go.st (V' := T104.setTop (mkF m 160 #[.val (.int p0), .val (.ref b7), .val (.int (6 : Int32)), .val (.ref s_ZWJ), .unset] [(.ref s_ZWJ)])) (fun t k => ?_) ?_
    · refine Jvm.RoadKit.acmp (g := (mkF m 156 #[.val (.int p0), .val (.ref b7), .val (.int (6 : Int32)), .val (.ref s_ZWJ), .unset] [(.ref s_MID_NUM_LET), (.ref s_ZWJ)])) X104 hx rfl rfl rfl (pc0 := 156) (pc' := 159) (same := false) rfl (hb hby at_156) rfl (decide_eq_false fun q => (Fld.ne (F_ZWJ_ordinal.ext O64.2) (F_MID_NUM_LET_ordinal.ext O64.2) (by decide)) (Value.ref.inj q)) (by decide) (by decide) ?_
      show Steps p.tables e below (T104.setTop (mkF m 159 #[.val (.int p0), .val (.ref b7), .val (.int (6 : Int32)), .val (.ref s_ZWJ), .unset] [])) _
      refine XS.aloadN X104.here hx rfl (hb hby at_159) rfl rfl ?_
      show Steps p.tables e below (T104.setTop (mkF m 160 #[.val (.int p0), .val (.ref b7), .val (.int (6 : Int32)), .val (.ref s_ZWJ), .unset] [(.ref s_ZWJ)])) _
      exact k
    obtain ⟨T105, X105, e105, st105⟩ := getS2 X104 hx hZ hown (host := "") (Or.inl (hw _ (List.mem_of_getElem? (i := 34) rfl))) Via.refl e104 (S_SINGLE_QUOTE.ext O64.2) (g := (mkF m 160 #[.val (.int p0), .val (.ref b7), .val (.int (6 : Int32)), .val (.ref s_ZWJ), .unset] [(.ref s_ZWJ)])) rfl (hb hby at_160)
    refine Go.st (V' := T105.setTop (mkF m 163 #[.val (.int p0), .val (.ref b7), .val (.int (6 : Int32)), .val (.ref s_ZWJ), .unset] [(.ref s_SINGLE_QUOTE), (.ref s_ZWJ)])) (fun t k => st105 t k) ?_
    refine Go.st (V' := T105.setTop (mkF m 174 #[.val (.int p0), .val (.ref b7), .val (.int (6 : Int32)), .val (.ref s_ZWJ), .val (.int (0 : Int32))] [(.ref s_ZWJ)])) (fun t k => ?_) ?_
    · refine Jvm.RoadKit.acmp (g := (mkF m 163 #[.val (.int p0), .val (.ref b7), .val (.int (6 : Int32)), .val (.ref s_ZWJ), .unset] [(.ref s_SINGLE_QUOTE), (.ref s_ZWJ)])) X105 hx rfl rfl rfl (pc0 := 163) (pc' := 170) (same := false) rfl (hb hby at_163) rfl (decide_eq_false fun q => (Fld.ne (F_ZWJ_ordinal.ext O64.2) (F_SINGLE_QUOTE_ordinal.ext O64.2) (by decide)) (Value.ref.inj q)) (by decide) (by decide) ?_
      show Steps p.tables e below (T105.setTop (mkF m 170 #[.val (.int p0), .val (.ref b7), .val (.int (6 : Int32)), .val (.ref s_ZWJ), .unset] [])) _
      refine XS.iconst X105.here hx rfl (hb hby at_170) ?_
      show Steps p.tables e below (T105.setTop (mkF m 171 #[.val (.int p0), .val (.ref b7), .val (.int (6 : Int32)), .val (.ref s_ZWJ), .unset] [(.int (0 : Int32))])) _
      refine XS.istore X105.here hx rfl (hb hby at_171) rfl (l' := #[.val (.int p0), .val (.ref b7), .val (.int (6 : Int32)), .val (.ref s_ZWJ), .val (.int (0 : Int32))]) rfl ?_
      show Steps p.tables e below (T105.setTop (mkF m 173 #[.val (.int p0), .val (.ref b7), .val (.int (6 : Int32)), .val (.ref s_ZWJ), .val (.int (0 : Int32))] [])) _
      refine XS.aloadN X105.here hx rfl (hb hby at_173) rfl rfl ?_
      show Steps p.tables e below (T105.setTop (mkF m 174 #[.val (.int p0), .val (.ref b7), .val (.int (6 : Int32)), .val (.ref s_ZWJ), .val (.int (0 : Int32))] [(.ref s_ZWJ)])) _
      exact k
    obtain ⟨cq106, kq106, q106a, q106b, q106c⟩ := isOf hZ e105 (E_ZWJ.ext O64.2)
    obtain ⟨_, _, ⟨T106, L106, k106, n106⟩, -, X106, ⟨Lc106, hQ106, l106, y106, z106⟩, st106⟩ := X105.virtualBack hx (y := (⟨"com/example/hits_from_terms/hitsfromterms/analysis/WordBreak", "isMidLetter", "()Z"⟩ : MethodName)) (z := (⟨"com/example/hits_from_terms/hitsfromterms/analysis/WordBreak", "isMidLetter", "()Z"⟩ : MethodName)) hown (mvT hZ (hw _ (List.mem_of_getElem? (i := 43) rfl))) (mvT hZ (hw _ (List.mem_of_getElem? (i := 44) rfl))) (notFace_of_selects (args := #[]) (mvT hZ (hw _ (List.mem_of_getElem? (i := 46) rfl)))) (mvT hZ (hw _ (List.mem_of_getElem? (i := 46) rfl))) (mvT hZ (hw _ (List.mem_of_getElem? (i := 45) rfl))) (by decide) (backOf (W := 0) (rm1 l Z a0 hw [] s_OTHER s_CR s_LF s_NEWLINE s_EXTEND s_FORMAT s_ZWJ s_ALETTER s_HEBREW_LETTER s_NUMERIC s_KATAKANA s_EXTEND_NUM_LET s_MID_LETTER s_MID_NUM s_MID_NUM_LET s_SINGLE_QUOTE s_DOUBLE_QUOTE s_REGIONAL_INDICATOR s_WSEG_SPACE HW s_ZWJ h64 n0 O64) hZ (hw _ (List.mem_of_getElem? (i := 47) rfl)) (hw _ (List.mem_of_getElem? (i := 3) rfl)) (by decide) (by decide)) q106a q106c (g := (mkF m 174 #[.val (.int p0), .val (.ref b7), .val (.int (6 : Int32)), .val (.ref s_ZWJ), .val (.int (0 : Int32))] [(.ref s_ZWJ)])) rfl (by rw [hml]; rfl) (Steps.refl _) (argsL := []) (rest := []) (lenOf own_pd13 rfl) rfl (by show 2 * 0 + _ ≤ _; exact Nat.le_of_eq rfl) (hb hby at_174) (fun _ _ => ⟨rfl, e105, (by decide : 1 + 0 ≤ _), (by decide : 19 + 0 ≤ _)⟩)
    dsimp only [Pt.U, Pt.locs, Pt.cells, Pt.slots] at X106 l106 y106 z106 st106 hQ106
    subst l106 y106 z106
    obtain ⟨rfl, N106q, e106⟩ := hQ106
    have N106 := Fr.app N65 N106q
    refine Go.st (V' := T106.setTop (mkF m 177 #[.val (.int p0), .val (.ref b7), .val (.int (6 : Int32)), .val (.ref s_ZWJ), .val (.int (0 : Int32))] [(.int (f1 s_MID_LETTER s_MID_NUM_LET s_SINGLE_QUOTE s_ZWJ))])) (fun t k => st106.trans k) ?_
    have r107 : (f1 s_MID_LETTER s_MID_NUM_LET s_SINGLE_QUOTE s_ZWJ) = (0 : Int32) := by rw [f1, if_neg (Fld.ne (F_ZWJ_ordinal.ext O64.2) (F_MID_LETTER_ordinal.ext O64.2) (by decide)), if_neg (Fld.ne (F_ZWJ_ordinal.ext O64.2) (F_MID_NUM_LET_ordinal.ext O64.2) (by decide)), if_neg (Fld.ne (F_ZWJ_ordinal.ext O64.2) (F_SINGLE_QUOTE_ordinal.ext O64.2) (by decide))]
    rw [r107]
    refine Go.st (V' := T106.setTop (mkF m 187 #[.val (.int p0), .val (.ref b7), .val (.int (6 : Int32)), .val (.ref s_ZWJ), .val (.int (0 : Int32))] [(.int (1 : Int32))])) (fun t k => ?_) ?_
    · refine XS.iload X106.here hx rfl (hb hby at_177) rfl  ?_
      show Steps p.tables e below (T106.setTop (mkF m 179 #[.val (.int p0), .val (.ref b7), .val (.int (6 : Int32)), .val (.ref s_ZWJ), .val (.int (0 : Int32))] [(.int (0 : Int32)), (.int (0 : Int32))])) _
      refine XS.icmpNo X106.here hx rfl (hb hby at_179) rfl (teq (by decide : ((0 : Int32) = (0 : Int32)))).2 ?_
      show Steps p.tables e below (T106.setTop (mkF m 182 #[.val (.int p0), .val (.ref b7), .val (.int (6 : Int32)), .val (.ref s_ZWJ), .val (.int (0 : Int32))] [])) _
      refine XS.iconst X106.here hx rfl (hb hby at_182) ?_
      show Steps p.tables e below (T106.setTop (mkF m 183 #[.val (.int p0), .val (.ref b7), .val (.int (6 : Int32)), .val (.ref s_ZWJ), .val (.int (0 : Int32))] [(.int (1 : Int32))])) _
      refine XS.goto X106.here hx rfl (pc0 := 183) (pc' := 187) rfl (hb hby at_183) (by decide) (by decide) ?_
      show Steps p.tables e below (T106.setTop (mkF m 187 #[.val (.int p0), .val (.ref b7), .val (.int (6 : Int32)), .val (.ref s_ZWJ), .val (.int (0 : Int32))] [(.int (1 : Int32))])) _
      exact k
    obtain ⟨fs, hr, hrun, hended, hW, hsame⟩ := X106.leave (v := some (.int (1 : Int32))) (fun h => by rw [Bd.returns] at h; cases h)
    refine Go.mk' ⟨_, _, retN X106 hx (t := .boolean) Bd.returns (by simp) (hb hby at_187) hr, hrun, hended, _, _, rfl, ?_, ⟨_, rfl⟩, hW, hsame.mono (by decide) (by decide)⟩
    show Q0 Z p0 h0 n0 _ T106.heap _
    rw [e106]
    exact ⟨rfl, N106⟩
  · show Go p e below _ (T64.setTop (mkF m 141 #[.val (.int p0), .val (.ref b7), .val (.int (7 : Int32)), .unset, .unset] []))
    refine Go.st (V' := T64.setTop (mkF m 143 #[.val (.int p0), .val (.ref b7), .val (.int (7 : Int32)), .unset, .unset] [(.int (7 : Int32)), (.ref b7)])) (fun t k => ?_) ?_
    · refine XS.aloadN X65.here hx rfl (hb hby at_141) rfl rfl ?_
      show Steps p.tables e below (T64.setTop (mkF m 142 #[.val (.int p0), .val (.ref b7), .val (.int (7 : Int32)), .unset, .unset] [(.ref b7)])) _
      refine XS.iloadN X65.here hx rfl (hb hby at_142) rfl  ?_
      show Steps p.tables e below (T64.setTop (mkF m 143 #[.val (.int p0), .val (.ref b7), .val (.int (7 : Int32)), .unset, .unset] [(.int (7 : Int32)), (.ref b7)])) _
      exact k
    obtain ⟨cl108, Ar108, q108, Sz108, Nn108, Ha108, Ga108⟩ := id (V64)
    have hin108 : ¬ ((7 : Int32) < 0 ∨ cl108.slots.size ≤ ((7 : Int32)).toNatClampNeg) := inb_of Sz108 ⟨by decide, by decide⟩
    refine Go.st (V' := T64.setTop (mkF m 146 #[.val (.int p0), .val (.ref b7), .val (.int (7 : Int32)), .val (.ref s_ALETTER), .unset] [(.ref s_ALETTER)])) (fun t k => ?_) ?_
    · show Steps p.tables e below (T64.setTop (mkF m 143 #[.val (.int p0), .val (.ref b7), .val (.int (7 : Int32)), .unset, .unset] [(.int (7 : Int32)), (.ref b7)])) _
      refine X65.aaload hx (j := (7 : Int32)) (v := (.ref s_ALETTER)) (own_eT e64 Ar108) (State.isArrayOf_alike hZ.alike Ar108.2.1) rfl Ar108.2.2 hin108 (Ha108.at hin108 rfl) (g := (mkF m 143 #[.val (.int p0), .val (.ref b7), .val (.int (7 : Int32)), .unset, .unset] [(.int (7 : Int32)), (.ref b7)])) rfl rfl (hb hby at_143) _ ?_
      show Steps p.tables e below (T64.setTop (mkF m 144 #[.val (.int p0), .val (.ref b7), .val (.int (7 : Int32)), .unset, .unset] [(.ref s_ALETTER)])) _
      refine XS.astoreN X65.here hx rfl (hb hby at_144) rfl rfl (l' := #[.val (.int p0), .val (.ref b7), .val (.int (7 : Int32)), .val (.ref s_ALETTER), .unset]) rfl ?_
      show Steps p.tables e below (T64.setTop (mkF m 145 #[.val (.int p0), .val (.ref b7), .val (.int (7 : Int32)), .val (.ref s_ALETTER), .unset] [])) _
      refine XS.aloadN X65.here hx rfl (hb hby at_145) rfl rfl ?_
      show Steps p.tables e below (T64.setTop (mkF m 146 #[.val (.int p0), .val (.ref b7), .val (.int (7 : Int32)), .val (.ref s_ALETTER), .unset] [(.ref s_ALETTER)])) _
      exact k
    obtain ⟨T109, X109, e109, st109⟩ := getS2 X65 hx hZ hown (host := "") (Or.inl (hw _ (List.mem_of_getElem? (i := 28) rfl))) Via.refl e64 (S_MID_LETTER.ext O64.2) (g := (mkF m 146 #[.val (.int p0), .val (.ref b7), .val (.int (7 : Int32)), .val (.ref s_ALETTER), .unset] [(.ref s_ALETTER)])) rfl (hb hby at_146)
    refine Go.st (V' := T109.setTop (mkF m 149 #[.val (.int p0), .val (.ref b7), .val (.int (7 : Int32)), .val (.ref s_ALETTER), .unset] [(.ref s_MID_LETTER), (.ref s_ALETTER)])) (fun t k => st109 t k) ?_
    refine Go.st (V' := T109.setTop (mkF m 153 #[.val (.int p0), .val (.ref b7), .val (.int (7 : Int32)), .val (.ref s_ALETTER), .unset] [(.ref s_ALETTER)])) (fun t k => ?_) ?_
    · refine Jvm.RoadKit.acmp (g := (mkF m 149 #[.val (.int p0), .val (.ref b7), .val (.int (7 : Int32)), .val (.ref s_ALETTER), .unset] [(.ref s_MID_LETTER), (.ref s_ALETTER)])) X109 hx rfl rfl rfl (pc0 := 149) (pc' := 152) (same := false) rfl (hb hby at_149) rfl (decide_eq_false fun q => (Fld.ne (F_ALETTER_ordinal.ext O64.2) (F_MID_LETTER_ordinal.ext O64.2) (by decide)) (Value.ref.inj q)) (by decide) (by decide) ?_
      show Steps p.tables e below (T109.setTop (mkF m 152 #[.val (.int p0), .val (.ref b7), .val (.int (7 : Int32)), .val (.ref s_ALETTER), .unset] [])) _
      refine XS.aloadN X109.here hx rfl (hb hby at_152) rfl rfl ?_
      show Steps p.tables e below (T109.setTop (mkF m 153 #[.val (.int p0), .val (.ref b7), .val (.int (7 : Int32)), .val (.ref s_ALETTER), .unset] [(.ref s_ALETTER)])) _
      exact k
    obtain ⟨T110, X110, e110, st110⟩ := getS2 X109 hx hZ hown (host := "") (Or.inl (hw _ (List.mem_of_getElem? (i := 32) rfl))) Via.refl e109 (S_MID_NUM_LET.ext O64.2) (g := (mkF m 153 #[.val (.int p0), .val (.ref b7), .val (.int (7 : Int32)), .val (.ref s_ALETTER), .unset] [(.ref s_ALETTER)])) rfl (hb hby at_153)
    refine Go.st (V' := T110.setTop (mkF m 156 #[.val (.int p0), .val (.ref b7), .val (.int (7 : Int32)), .val (.ref s_ALETTER), .unset] [(.ref s_MID_NUM_LET), (.ref s_ALETTER)])) (fun t k => st110 t k) ?_
    refine Go.st (V' := T110.setTop (mkF m 160 #[.val (.int p0), .val (.ref b7), .val (.int (7 : Int32)), .val (.ref s_ALETTER), .unset] [(.ref s_ALETTER)])) (fun t k => ?_) ?_
    · refine Jvm.RoadKit.acmp (g := (mkF m 156 #[.val (.int p0), .val (.ref b7), .val (.int (7 : Int32)), .val (.ref s_ALETTER), .unset] [(.ref s_MID_NUM_LET), (.ref s_ALETTER)])) X110 hx rfl rfl rfl (pc0 := 156) (pc' := 159) (same := false) rfl (hb hby at_156) rfl (decide_eq_false fun q => (Fld.ne (F_ALETTER_ordinal.ext O64.2) (F_MID_NUM_LET_ordinal.ext O64.2) (by decide)) (Value.ref.inj q)) (by decide) (by decide) ?_
      show Steps p.tables e below (T110.setTop (mkF m 159 #[.val (.int p0), .val (.ref b7), .val (.int (7 : Int32)), .val (.ref s_ALETTER), .unset] [])) _
      refine XS.aloadN X110.here hx rfl (hb hby at_159) rfl rfl ?_
      show Steps p.tables e below (T110.setTop (mkF m 160 #[.val (.int p0), .val (.ref b7), .val (.int (7 : Int32)), .val (.ref s_ALETTER), .unset] [(.ref s_ALETTER)])) _
      exact k
    obtain ⟨T111, X111, e111, st111⟩ := getS2 X110 hx hZ hown (host := "") (Or.inl (hw _ (List.mem_of_getElem? (i := 34) rfl))) Via.refl e110 (S_SINGLE_QUOTE.ext O64.2) (g := (mkF m 160 #[.val (.int p0), .val (.ref b7), .val (.int (7 : Int32)), .val (.ref s_ALETTER), .unset] [(.ref s_ALETTER)])) rfl (hb hby at_160)
    refine Go.st (V' := T111.setTop (mkF m 163 #[.val (.int p0), .val (.ref b7), .val (.int (7 : Int32)), .val (.ref s_ALETTER), .unset] [(.ref s_SINGLE_QUOTE), (.ref s_ALETTER)])) (fun t k => st111 t k) ?_
    refine Go.st (V' := T111.setTop (mkF m 174 #[.val (.int p0), .val (.ref b7), .val (.int (7 : Int32)), .val (.ref s_ALETTER), .val (.int (0 : Int32))] [(.ref s_ALETTER)])) (fun t k => ?_) ?_
    · refine Jvm.RoadKit.acmp (g := (mkF m 163 #[.val (.int p0), .val (.ref b7), .val (.int (7 : Int32)), .val (.ref s_ALETTER), .unset] [(.ref s_SINGLE_QUOTE), (.ref s_ALETTER)])) X111 hx rfl rfl rfl (pc0 := 163) (pc' := 170) (same := false) rfl (hb hby at_163) rfl (decide_eq_false fun q => (Fld.ne (F_ALETTER_ordinal.ext O64.2) (F_SINGLE_QUOTE_ordinal.ext O64.2) (by decide)) (Value.ref.inj q)) (by decide) (by decide) ?_
      show Steps p.tables e below (T111.setTop (mkF m 170 #[.val (.int p0), .val (.ref b7), .val (.int (7 : Int32)), .val (.ref s_ALETTER), .unset] [])) _
      refine XS.iconst X111.here hx rfl (hb hby at_170) ?_
      show Steps p.tables e below (T111.setTop (mkF m 171 #[.val (.int p0), .val (.ref b7), .val (.int (7 : Int32)), .val (.ref s_ALETTER), .unset] [(.int (0 : Int32))])) _
      refine XS.istore X111.here hx rfl (hb hby at_171) rfl (l' := #[.val (.int p0), .val (.ref b7), .val (.int (7 : Int32)), .val (.ref s_ALETTER), .val (.int (0 : Int32))]) rfl ?_
      show Steps p.tables e below (T111.setTop (mkF m 173 #[.val (.int p0), .val (.ref b7), .val (.int (7 : Int32)), .val (.ref s_ALETTER), .val (.int (0 : Int32))] [])) _
      refine XS.aloadN X111.here hx rfl (hb hby at_173) rfl rfl ?_
      show Steps p.tables e below (T111.setTop (mkF m 174 #[.val (.int p0), .val (.ref b7), .val (.int (7 : Int32)), .val (.ref s_ALETTER), .val (.int (0 : Int32))] [(.ref s_ALETTER)])) _
      exact k
    obtain ⟨cq112, kq112, q112a, q112b, q112c⟩ := isOf hZ e111 (E_ALETTER.ext O64.2)
    obtain ⟨_, _, ⟨T112, L112, k112, n112⟩, -, X112, ⟨Lc112, hQ112, l112, y112, z112⟩, st112⟩ := X111.virtualBack hx (y := (⟨"com/example/hits_from_terms/hitsfromterms/analysis/WordBreak", "isMidLetter", "()Z"⟩ : MethodName)) (z := (⟨"com/example/hits_from_terms/hitsfromterms/analysis/WordBreak", "isMidLetter", "()Z"⟩ : MethodName)) hown (mvT hZ (hw _ (List.mem_of_getElem? (i := 43) rfl))) (mvT hZ (hw _ (List.mem_of_getElem? (i := 44) rfl))) (notFace_of_selects (args := #[]) (mvT hZ (hw _ (List.mem_of_getElem? (i := 46) rfl)))) (mvT hZ (hw _ (List.mem_of_getElem? (i := 46) rfl))) (mvT hZ (hw _ (List.mem_of_getElem? (i := 45) rfl))) (by decide) (backOf (W := 0) (rm1 l Z a0 hw [] s_OTHER s_CR s_LF s_NEWLINE s_EXTEND s_FORMAT s_ZWJ s_ALETTER s_HEBREW_LETTER s_NUMERIC s_KATAKANA s_EXTEND_NUM_LET s_MID_LETTER s_MID_NUM s_MID_NUM_LET s_SINGLE_QUOTE s_DOUBLE_QUOTE s_REGIONAL_INDICATOR s_WSEG_SPACE HW s_ALETTER h64 n0 O64) hZ (hw _ (List.mem_of_getElem? (i := 47) rfl)) (hw _ (List.mem_of_getElem? (i := 3) rfl)) (by decide) (by decide)) q112a q112c (g := (mkF m 174 #[.val (.int p0), .val (.ref b7), .val (.int (7 : Int32)), .val (.ref s_ALETTER), .val (.int (0 : Int32))] [(.ref s_ALETTER)])) rfl (by rw [hml]; rfl) (Steps.refl _) (argsL := []) (rest := []) (lenOf own_pd13 rfl) rfl (by show 2 * 0 + _ ≤ _; exact Nat.le_of_eq rfl) (hb hby at_174) (fun _ _ => ⟨rfl, e111, (by decide : 1 + 0 ≤ _), (by decide : 19 + 0 ≤ _)⟩)
    dsimp only [Pt.U, Pt.locs, Pt.cells, Pt.slots] at X112 l112 y112 z112 st112 hQ112
    subst l112 y112 z112
    obtain ⟨rfl, N112q, e112⟩ := hQ112
    have N112 := Fr.app N65 N112q
    refine Go.st (V' := T112.setTop (mkF m 177 #[.val (.int p0), .val (.ref b7), .val (.int (7 : Int32)), .val (.ref s_ALETTER), .val (.int (0 : Int32))] [(.int (f1 s_MID_LETTER s_MID_NUM_LET s_SINGLE_QUOTE s_ALETTER))])) (fun t k => st112.trans k) ?_
    have r113 : (f1 s_MID_LETTER s_MID_NUM_LET s_SINGLE_QUOTE s_ALETTER) = (0 : Int32) := by rw [f1, if_neg (Fld.ne (F_ALETTER_ordinal.ext O64.2) (F_MID_LETTER_ordinal.ext O64.2) (by decide)), if_neg (Fld.ne (F_ALETTER_ordinal.ext O64.2) (F_MID_NUM_LET_ordinal.ext O64.2) (by decide)), if_neg (Fld.ne (F_ALETTER_ordinal.ext O64.2) (F_SINGLE_QUOTE_ordinal.ext O64.2) (by decide))]
    rw [r113]
    refine Go.st (V' := T112.setTop (mkF m 187 #[.val (.int p0), .val (.ref b7), .val (.int (7 : Int32)), .val (.ref s_ALETTER), .val (.int (0 : Int32))] [(.int (1 : Int32))])) (fun t k => ?_) ?_
    · refine XS.iload X112.here hx rfl (hb hby at_177) rfl  ?_
      show Steps p.tables e below (T112.setTop (mkF m 179 #[.val (.int p0), .val (.ref b7), .val (.int (7 : Int32)), .val (.ref s_ALETTER), .val (.int (0 : Int32))] [(.int (0 : Int32)), (.int (0 : Int32))])) _
      refine XS.icmpNo X112.here hx rfl (hb hby at_179) rfl (teq (by decide : ((0 : Int32) = (0 : Int32)))).2 ?_
      show Steps p.tables e below (T112.setTop (mkF m 182 #[.val (.int p0), .val (.ref b7), .val (.int (7 : Int32)), .val (.ref s_ALETTER), .val (.int (0 : Int32))] [])) _
      refine XS.iconst X112.here hx rfl (hb hby at_182) ?_
      show Steps p.tables e below (T112.setTop (mkF m 183 #[.val (.int p0), .val (.ref b7), .val (.int (7 : Int32)), .val (.ref s_ALETTER), .val (.int (0 : Int32))] [(.int (1 : Int32))])) _
      refine XS.goto X112.here hx rfl (pc0 := 183) (pc' := 187) rfl (hb hby at_183) (by decide) (by decide) ?_
      show Steps p.tables e below (T112.setTop (mkF m 187 #[.val (.int p0), .val (.ref b7), .val (.int (7 : Int32)), .val (.ref s_ALETTER), .val (.int (0 : Int32))] [(.int (1 : Int32))])) _
      exact k
    obtain ⟨fs, hr, hrun, hended, hW, hsame⟩ := X112.leave (v := some (.int (1 : Int32))) (fun h => by rw [Bd.returns] at h; cases h)
    refine Go.mk' ⟨_, _, retN X112 hx (t := .boolean) Bd.returns (by simp) (hb hby at_187) hr, hrun, hended, _, _, rfl, ?_, ⟨_, rfl⟩, hW, hsame.mono (by decide) (by decide)⟩
    show Q0 Z p0 h0 n0 _ T112.heap _
    rw [e112]
    exact ⟨rfl, N112⟩
  · show Go p e below _ (T64.setTop (mkF m 141 #[.val (.int p0), .val (.ref b7), .val (.int (8 : Int32)), .unset, .unset] []))
    refine Go.st (V' := T64.setTop (mkF m 143 #[.val (.int p0), .val (.ref b7), .val (.int (8 : Int32)), .unset, .unset] [(.int (8 : Int32)), (.ref b7)])) (fun t k => ?_) ?_
    · refine XS.aloadN X65.here hx rfl (hb hby at_141) rfl rfl ?_
      show Steps p.tables e below (T64.setTop (mkF m 142 #[.val (.int p0), .val (.ref b7), .val (.int (8 : Int32)), .unset, .unset] [(.ref b7)])) _
      refine XS.iloadN X65.here hx rfl (hb hby at_142) rfl  ?_
      show Steps p.tables e below (T64.setTop (mkF m 143 #[.val (.int p0), .val (.ref b7), .val (.int (8 : Int32)), .unset, .unset] [(.int (8 : Int32)), (.ref b7)])) _
      exact k
    obtain ⟨cl114, Ar114, q114, Sz114, Nn114, Ha114, Ga114⟩ := id (V64)
    have hin114 : ¬ ((8 : Int32) < 0 ∨ cl114.slots.size ≤ ((8 : Int32)).toNatClampNeg) := inb_of Sz114 ⟨by decide, by decide⟩
    refine Go.st (V' := T64.setTop (mkF m 146 #[.val (.int p0), .val (.ref b7), .val (.int (8 : Int32)), .val (.ref s_HEBREW_LETTER), .unset] [(.ref s_HEBREW_LETTER)])) (fun t k => ?_) ?_
    · show Steps p.tables e below (T64.setTop (mkF m 143 #[.val (.int p0), .val (.ref b7), .val (.int (8 : Int32)), .unset, .unset] [(.int (8 : Int32)), (.ref b7)])) _
      refine X65.aaload hx (j := (8 : Int32)) (v := (.ref s_HEBREW_LETTER)) (own_eT e64 Ar114) (State.isArrayOf_alike hZ.alike Ar114.2.1) rfl Ar114.2.2 hin114 (Ha114.at hin114 rfl) (g := (mkF m 143 #[.val (.int p0), .val (.ref b7), .val (.int (8 : Int32)), .unset, .unset] [(.int (8 : Int32)), (.ref b7)])) rfl rfl (hb hby at_143) _ ?_
      show Steps p.tables e below (T64.setTop (mkF m 144 #[.val (.int p0), .val (.ref b7), .val (.int (8 : Int32)), .unset, .unset] [(.ref s_HEBREW_LETTER)])) _
      refine XS.astoreN X65.here hx rfl (hb hby at_144) rfl rfl (l' := #[.val (.int p0), .val (.ref b7), .val (.int (8 : Int32)), .val (.ref s_HEBREW_LETTER), .unset]) rfl ?_
      show Steps p.tables e below (T64.setTop (mkF m 145 #[.val (.int p0), .val (.ref b7), .val (.int (8 : Int32)), .val (.ref s_HEBREW_LETTER), .unset] [])) _
      refine XS.aloadN X65.here hx rfl (hb hby at_145) rfl rfl ?_
      show Steps p.tables e below (T64.setTop (mkF m 146 #[.val (.int p0), .val (.ref b7), .val (.int (8 : Int32)), .val (.ref s_HEBREW_LETTER), .unset] [(.ref s_HEBREW_LETTER)])) _
      exact k
    obtain ⟨T115, X115, e115, st115⟩ := getS2 X65 hx hZ hown (host := "") (Or.inl (hw _ (List.mem_of_getElem? (i := 28) rfl))) Via.refl e64 (S_MID_LETTER.ext O64.2) (g := (mkF m 146 #[.val (.int p0), .val (.ref b7), .val (.int (8 : Int32)), .val (.ref s_HEBREW_LETTER), .unset] [(.ref s_HEBREW_LETTER)])) rfl (hb hby at_146)
    refine Go.st (V' := T115.setTop (mkF m 149 #[.val (.int p0), .val (.ref b7), .val (.int (8 : Int32)), .val (.ref s_HEBREW_LETTER), .unset] [(.ref s_MID_LETTER), (.ref s_HEBREW_LETTER)])) (fun t k => st115 t k) ?_
    refine Go.st (V' := T115.setTop (mkF m 153 #[.val (.int p0), .val (.ref b7), .val (.int (8 : Int32)), .val (.ref s_HEBREW_LETTER), .unset] [(.ref s_HEBREW_LETTER)])) (fun t k => ?_) ?_
    · refine Jvm.RoadKit.acmp (g := (mkF m 149 #[.val (.int p0), .val (.ref b7), .val (.int (8 : Int32)), .val (.ref s_HEBREW_LETTER), .unset] [(.ref s_MID_LETTER), (.ref s_HEBREW_LETTER)])) X115 hx rfl rfl rfl (pc0 := 149) (pc' := 152) (same := false) rfl (hb hby at_149) rfl (decide_eq_false fun q => (Fld.ne (F_HEBREW_LETTER_ordinal.ext O64.2) (F_MID_LETTER_ordinal.ext O64.2) (by decide)) (Value.ref.inj q)) (by decide) (by decide) ?_
      show Steps p.tables e below (T115.setTop (mkF m 152 #[.val (.int p0), .val (.ref b7), .val (.int (8 : Int32)), .val (.ref s_HEBREW_LETTER), .unset] [])) _
      refine XS.aloadN X115.here hx rfl (hb hby at_152) rfl rfl ?_
      show Steps p.tables e below (T115.setTop (mkF m 153 #[.val (.int p0), .val (.ref b7), .val (.int (8 : Int32)), .val (.ref s_HEBREW_LETTER), .unset] [(.ref s_HEBREW_LETTER)])) _
      exact k
    obtain ⟨T116, X116, e116, st116⟩ := getS2 X115 hx hZ hown (host := "") (Or.inl (hw _ (List.mem_of_getElem? (i := 32) rfl))) Via.refl e115 (S_MID_NUM_LET.ext O64.2) (g := (mkF m 153 #[.val (.int p0), .val (.ref b7), .val (.int (8 : Int32)), .val (.ref s_HEBREW_LETTER), .unset] [(.ref s_HEBREW_LETTER)])) rfl (hb hby at_153)
    refine Go.st (V' := T116.setTop (mkF m 156 #[.val (.int p0), .val (.ref b7), .val (.int (8 : Int32)), .val (.ref s_HEBREW_LETTER), .unset] [(.ref s_MID_NUM_LET), (.ref s_HEBREW_LETTER)])) (fun t k => st116 t k) ?_
    refine Go.st (V' := T116.setTop (mkF m 160 #[.val (.int p0), .val (.ref b7), .val (.int (8 : Int32)), .val (.ref s_HEBREW_LETTER), .unset] [(.ref s_HEBREW_LETTER)])) (fun t k => ?_) ?_
    · refine Jvm.RoadKit.acmp (g := (mkF m 156 #[.val (.int p0), .val (.ref b7), .val (.int (8 : Int32)), .val (.ref s_HEBREW_LETTER), .unset] [(.ref s_MID_NUM_LET), (.ref s_HEBREW_LETTER)])) X116 hx rfl rfl rfl (pc0 := 156) (pc' := 159) (same := false) rfl (hb hby at_156) rfl (decide_eq_false fun q => (Fld.ne (F_HEBREW_LETTER_ordinal.ext O64.2) (F_MID_NUM_LET_ordinal.ext O64.2) (by decide)) (Value.ref.inj q)) (by decide) (by decide) ?_
      show Steps p.tables e below (T116.setTop (mkF m 159 #[.val (.int p0), .val (.ref b7), .val (.int (8 : Int32)), .val (.ref s_HEBREW_LETTER), .unset] [])) _
      refine XS.aloadN X116.here hx rfl (hb hby at_159) rfl rfl ?_
      show Steps p.tables e below (T116.setTop (mkF m 160 #[.val (.int p0), .val (.ref b7), .val (.int (8 : Int32)), .val (.ref s_HEBREW_LETTER), .unset] [(.ref s_HEBREW_LETTER)])) _
      exact k
    obtain ⟨T117, X117, e117, st117⟩ := getS2 X116 hx hZ hown (host := "") (Or.inl (hw _ (List.mem_of_getElem? (i := 34) rfl))) Via.refl e116 (S_SINGLE_QUOTE.ext O64.2) (g := (mkF m 160 #[.val (.int p0), .val (.ref b7), .val (.int (8 : Int32)), .val (.ref s_HEBREW_LETTER), .unset] [(.ref s_HEBREW_LETTER)])) rfl (hb hby at_160)
    refine Go.st (V' := T117.setTop (mkF m 163 #[.val (.int p0), .val (.ref b7), .val (.int (8 : Int32)), .val (.ref s_HEBREW_LETTER), .unset] [(.ref s_SINGLE_QUOTE), (.ref s_HEBREW_LETTER)])) (fun t k => st117 t k) ?_
    refine Go.st (V' := T117.setTop (mkF m 174 #[.val (.int p0), .val (.ref b7), .val (.int (8 : Int32)), .val (.ref s_HEBREW_LETTER), .val (.int (0 : Int32))] [(.ref s_HEBREW_LETTER)])) (fun t k => ?_) ?_
    · refine Jvm.RoadKit.acmp (g := (mkF m 163 #[.val (.int p0), .val (.ref b7), .val (.int (8 : Int32)), .val (.ref s_HEBREW_LETTER), .unset] [(.ref s_SINGLE_QUOTE), (.ref s_HEBREW_LETTER)])) X117 hx rfl rfl rfl (pc0 := 163) (pc' := 170) (same := false) rfl (hb hby at_163) rfl (decide_eq_false fun q => (Fld.ne (F_HEBREW_LETTER_ordinal.ext O64.2) (F_SINGLE_QUOTE_ordinal.ext O64.2) (by decide)) (Value.ref.inj q)) (by decide) (by decide) ?_
      show Steps p.tables e below (T117.setTop (mkF m 170 #[.val (.int p0), .val (.ref b7), .val (.int (8 : Int32)), .val (.ref s_HEBREW_LETTER), .unset] [])) _
      refine XS.iconst X117.here hx rfl (hb hby at_170) ?_
      show Steps p.tables e below (T117.setTop (mkF m 171 #[.val (.int p0), .val (.ref b7), .val (.int (8 : Int32)), .val (.ref s_HEBREW_LETTER), .unset] [(.int (0 : Int32))])) _
      refine XS.istore X117.here hx rfl (hb hby at_171) rfl (l' := #[.val (.int p0), .val (.ref b7), .val (.int (8 : Int32)), .val (.ref s_HEBREW_LETTER), .val (.int (0 : Int32))]) rfl ?_
      show Steps p.tables e below (T117.setTop (mkF m 173 #[.val (.int p0), .val (.ref b7), .val (.int (8 : Int32)), .val (.ref s_HEBREW_LETTER), .val (.int (0 : Int32))] [])) _
      refine XS.aloadN X117.here hx rfl (hb hby at_173) rfl rfl ?_
      show Steps p.tables e below (T117.setTop (mkF m 174 #[.val (.int p0), .val (.ref b7), .val (.int (8 : Int32)), .val (.ref s_HEBREW_LETTER), .val (.int (0 : Int32))] [(.ref s_HEBREW_LETTER)])) _
      exact k
    obtain ⟨cq118, kq118, q118a, q118b, q118c⟩ := isOf hZ e117 (E_HEBREW_LETTER.ext O64.2)
    obtain ⟨_, _, ⟨T118, L118, k118, n118⟩, -, X118, ⟨Lc118, hQ118, l118, y118, z118⟩, st118⟩ := X117.virtualBack hx (y := (⟨"com/example/hits_from_terms/hitsfromterms/analysis/WordBreak", "isMidLetter", "()Z"⟩ : MethodName)) (z := (⟨"com/example/hits_from_terms/hitsfromterms/analysis/WordBreak", "isMidLetter", "()Z"⟩ : MethodName)) hown (mvT hZ (hw _ (List.mem_of_getElem? (i := 43) rfl))) (mvT hZ (hw _ (List.mem_of_getElem? (i := 44) rfl))) (notFace_of_selects (args := #[]) (mvT hZ (hw _ (List.mem_of_getElem? (i := 46) rfl)))) (mvT hZ (hw _ (List.mem_of_getElem? (i := 46) rfl))) (mvT hZ (hw _ (List.mem_of_getElem? (i := 45) rfl))) (by decide) (backOf (W := 0) (rm1 l Z a0 hw [] s_OTHER s_CR s_LF s_NEWLINE s_EXTEND s_FORMAT s_ZWJ s_ALETTER s_HEBREW_LETTER s_NUMERIC s_KATAKANA s_EXTEND_NUM_LET s_MID_LETTER s_MID_NUM s_MID_NUM_LET s_SINGLE_QUOTE s_DOUBLE_QUOTE s_REGIONAL_INDICATOR s_WSEG_SPACE HW s_HEBREW_LETTER h64 n0 O64) hZ (hw _ (List.mem_of_getElem? (i := 47) rfl)) (hw _ (List.mem_of_getElem? (i := 3) rfl)) (by decide) (by decide)) q118a q118c (g := (mkF m 174 #[.val (.int p0), .val (.ref b7), .val (.int (8 : Int32)), .val (.ref s_HEBREW_LETTER), .val (.int (0 : Int32))] [(.ref s_HEBREW_LETTER)])) rfl (by rw [hml]; rfl) (Steps.refl _) (argsL := []) (rest := []) (lenOf own_pd13 rfl) rfl (by show 2 * 0 + _ ≤ _; exact Nat.le_of_eq rfl) (hb hby at_174) (fun _ _ => ⟨rfl, e117, (by decide : 1 + 0 ≤ _), (by decide : 19 + 0 ≤ _)⟩)
    dsimp only [Pt.U, Pt.locs, Pt.cells, Pt.slots] at X118 l118 y118 z118 st118 hQ118
    subst l118 y118 z118
    obtain ⟨rfl, N118q, e118⟩ := hQ118
    have N118 := Fr.app N65 N118q
    refine Go.st (V' := T118.setTop (mkF m 177 #[.val (.int p0), .val (.ref b7), .val (.int (8 : Int32)), .val (.ref s_HEBREW_LETTER), .val (.int (0 : Int32))] [(.int (f1 s_MID_LETTER s_MID_NUM_LET s_SINGLE_QUOTE s_HEBREW_LETTER))])) (fun t k => st118.trans k) ?_
    have r119 : (f1 s_MID_LETTER s_MID_NUM_LET s_SINGLE_QUOTE s_HEBREW_LETTER) = (0 : Int32) := by rw [f1, if_neg (Fld.ne (F_HEBREW_LETTER_ordinal.ext O64.2) (F_MID_LETTER_ordinal.ext O64.2) (by decide)), if_neg (Fld.ne (F_HEBREW_LETTER_ordinal.ext O64.2) (F_MID_NUM_LET_ordinal.ext O64.2) (by decide)), if_neg (Fld.ne (F_HEBREW_LETTER_ordinal.ext O64.2) (F_SINGLE_QUOTE_ordinal.ext O64.2) (by decide))]
    rw [r119]
    refine Go.st (V' := T118.setTop (mkF m 187 #[.val (.int p0), .val (.ref b7), .val (.int (8 : Int32)), .val (.ref s_HEBREW_LETTER), .val (.int (0 : Int32))] [(.int (1 : Int32))])) (fun t k => ?_) ?_
    · refine XS.iload X118.here hx rfl (hb hby at_177) rfl  ?_
      show Steps p.tables e below (T118.setTop (mkF m 179 #[.val (.int p0), .val (.ref b7), .val (.int (8 : Int32)), .val (.ref s_HEBREW_LETTER), .val (.int (0 : Int32))] [(.int (0 : Int32)), (.int (0 : Int32))])) _
      refine XS.icmpNo X118.here hx rfl (hb hby at_179) rfl (teq (by decide : ((0 : Int32) = (0 : Int32)))).2 ?_
      show Steps p.tables e below (T118.setTop (mkF m 182 #[.val (.int p0), .val (.ref b7), .val (.int (8 : Int32)), .val (.ref s_HEBREW_LETTER), .val (.int (0 : Int32))] [])) _
      refine XS.iconst X118.here hx rfl (hb hby at_182) ?_
      show Steps p.tables e below (T118.setTop (mkF m 183 #[.val (.int p0), .val (.ref b7), .val (.int (8 : Int32)), .val (.ref s_HEBREW_LETTER), .val (.int (0 : Int32))] [(.int (1 : Int32))])) _
      refine XS.goto X118.here hx rfl (pc0 := 183) (pc' := 187) rfl (hb hby at_183) (by decide) (by decide) ?_
      show Steps p.tables e below (T118.setTop (mkF m 187 #[.val (.int p0), .val (.ref b7), .val (.int (8 : Int32)), .val (.ref s_HEBREW_LETTER), .val (.int (0 : Int32))] [(.int (1 : Int32))])) _
      exact k
    obtain ⟨fs, hr, hrun, hended, hW, hsame⟩ := X118.leave (v := some (.int (1 : Int32))) (fun h => by rw [Bd.returns] at h; cases h)
    refine Go.mk' ⟨_, _, retN X118 hx (t := .boolean) Bd.returns (by simp) (hb hby at_187) hr, hrun, hended, _, _, rfl, ?_, ⟨_, rfl⟩, hW, hsame.mono (by decide) (by decide)⟩
    show Q0 Z p0 h0 n0 _ T118.heap _
    rw [e118]
    exact ⟨rfl, N118⟩
  · show Go p e below _ (T64.setTop (mkF m 141 #[.val (.int p0), .val (.ref b7), .val (.int (9 : Int32)), .unset, .unset] []))
    refine Go.st (V' := T64.setTop (mkF m 143 #[.val (.int p0), .val (.ref b7), .val (.int (9 : Int32)), .unset, .unset] [(.int (9 : Int32)), (.ref b7)])) (fun t k => ?_) ?_
    · refine XS.aloadN X65.here hx rfl (hb hby at_141) rfl rfl ?_
      show Steps p.tables e below (T64.setTop (mkF m 142 #[.val (.int p0), .val (.ref b7), .val (.int (9 : Int32)), .unset, .unset] [(.ref b7)])) _
      refine XS.iloadN X65.here hx rfl (hb hby at_142) rfl  ?_
      show Steps p.tables e below (T64.setTop (mkF m 143 #[.val (.int p0), .val (.ref b7), .val (.int (9 : Int32)), .unset, .unset] [(.int (9 : Int32)), (.ref b7)])) _
      exact k
    obtain ⟨cl120, Ar120, q120, Sz120, Nn120, Ha120, Ga120⟩ := id (V64)
    have hin120 : ¬ ((9 : Int32) < 0 ∨ cl120.slots.size ≤ ((9 : Int32)).toNatClampNeg) := inb_of Sz120 ⟨by decide, by decide⟩
    refine Go.st (V' := T64.setTop (mkF m 146 #[.val (.int p0), .val (.ref b7), .val (.int (9 : Int32)), .val (.ref s_NUMERIC), .unset] [(.ref s_NUMERIC)])) (fun t k => ?_) ?_
    · show Steps p.tables e below (T64.setTop (mkF m 143 #[.val (.int p0), .val (.ref b7), .val (.int (9 : Int32)), .unset, .unset] [(.int (9 : Int32)), (.ref b7)])) _
      refine X65.aaload hx (j := (9 : Int32)) (v := (.ref s_NUMERIC)) (own_eT e64 Ar120) (State.isArrayOf_alike hZ.alike Ar120.2.1) rfl Ar120.2.2 hin120 (Ha120.at hin120 rfl) (g := (mkF m 143 #[.val (.int p0), .val (.ref b7), .val (.int (9 : Int32)), .unset, .unset] [(.int (9 : Int32)), (.ref b7)])) rfl rfl (hb hby at_143) _ ?_
      show Steps p.tables e below (T64.setTop (mkF m 144 #[.val (.int p0), .val (.ref b7), .val (.int (9 : Int32)), .unset, .unset] [(.ref s_NUMERIC)])) _
      refine XS.astoreN X65.here hx rfl (hb hby at_144) rfl rfl (l' := #[.val (.int p0), .val (.ref b7), .val (.int (9 : Int32)), .val (.ref s_NUMERIC), .unset]) rfl ?_
      show Steps p.tables e below (T64.setTop (mkF m 145 #[.val (.int p0), .val (.ref b7), .val (.int (9 : Int32)), .val (.ref s_NUMERIC), .unset] [])) _
      refine XS.aloadN X65.here hx rfl (hb hby at_145) rfl rfl ?_
      show Steps p.tables e below (T64.setTop (mkF m 146 #[.val (.int p0), .val (.ref b7), .val (.int (9 : Int32)), .val (.ref s_NUMERIC), .unset] [(.ref s_NUMERIC)])) _
      exact k
    obtain ⟨T121, X121, e121, st121⟩ := getS2 X65 hx hZ hown (host := "") (Or.inl (hw _ (List.mem_of_getElem? (i := 28) rfl))) Via.refl e64 (S_MID_LETTER.ext O64.2) (g := (mkF m 146 #[.val (.int p0), .val (.ref b7), .val (.int (9 : Int32)), .val (.ref s_NUMERIC), .unset] [(.ref s_NUMERIC)])) rfl (hb hby at_146)
    refine Go.st (V' := T121.setTop (mkF m 149 #[.val (.int p0), .val (.ref b7), .val (.int (9 : Int32)), .val (.ref s_NUMERIC), .unset] [(.ref s_MID_LETTER), (.ref s_NUMERIC)])) (fun t k => st121 t k) ?_
    refine Go.st (V' := T121.setTop (mkF m 153 #[.val (.int p0), .val (.ref b7), .val (.int (9 : Int32)), .val (.ref s_NUMERIC), .unset] [(.ref s_NUMERIC)])) (fun t k => ?_) ?_
    · refine Jvm.RoadKit.acmp (g := (mkF m 149 #[.val (.int p0), .val (.ref b7), .val (.int (9 : Int32)), .val (.ref s_NUMERIC), .unset] [(.ref s_MID_LETTER), (.ref s_NUMERIC)])) X121 hx rfl rfl rfl (pc0 := 149) (pc' := 152) (same := false) rfl (hb hby at_149) rfl (decide_eq_false fun q => (Fld.ne (F_NUMERIC_ordinal.ext O64.2) (F_MID_LETTER_ordinal.ext O64.2) (by decide)) (Value.ref.inj q)) (by decide) (by decide) ?_
      show Steps p.tables e below (T121.setTop (mkF m 152 #[.val (.int p0), .val (.ref b7), .val (.int (9 : Int32)), .val (.ref s_NUMERIC), .unset] [])) _
      refine XS.aloadN X121.here hx rfl (hb hby at_152) rfl rfl ?_
      show Steps p.tables e below (T121.setTop (mkF m 153 #[.val (.int p0), .val (.ref b7), .val (.int (9 : Int32)), .val (.ref s_NUMERIC), .unset] [(.ref s_NUMERIC)])) _
      exact k
    obtain ⟨T122, X122, e122, st122⟩ := getS2 X121 hx hZ hown (host := "") (Or.inl (hw _ (List.mem_of_getElem? (i := 32) rfl))) Via.refl e121 (S_MID_NUM_LET.ext O64.2) (g := (mkF m 153 #[.val (.int p0), .val (.ref b7), .val (.int (9 : Int32)), .val (.ref s_NUMERIC), .unset] [(.ref s_NUMERIC)])) rfl (hb hby at_153)
    refine Go.st (V' := T122.setTop (mkF m 156 #[.val (.int p0), .val (.ref b7), .val (.int (9 : Int32)), .val (.ref s_NUMERIC), .unset] [(.ref s_MID_NUM_LET), (.ref s_NUMERIC)])) (fun t k => st122 t k) ?_
    refine Go.st (V' := T122.setTop (mkF m 160 #[.val (.int p0), .val (.ref b7), .val (.int (9 : Int32)), .val (.ref s_NUMERIC), .unset] [(.ref s_NUMERIC)])) (fun t k => ?_) ?_
    · refine Jvm.RoadKit.acmp (g := (mkF m 156 #[.val (.int p0), .val (.ref b7), .val (.int (9 : Int32)), .val (.ref s_NUMERIC), .unset] [(.ref s_MID_NUM_LET), (.ref s_NUMERIC)])) X122 hx rfl rfl rfl (pc0 := 156) (pc' := 159) (same := false) rfl (hb hby at_156) rfl (decide_eq_false fun q => (Fld.ne (F_NUMERIC_ordinal.ext O64.2) (F_MID_NUM_LET_ordinal.ext O64.2) (by decide)) (Value.ref.inj q)) (by decide) (by decide) ?_
      show Steps p.tables e below (T122.setTop (mkF m 159 #[.val (.int p0), .val (.ref b7), .val (.int (9 : Int32)), .val (.ref s_NUMERIC), .unset] [])) _
      refine XS.aloadN X122.here hx rfl (hb hby at_159) rfl rfl ?_
      show Steps p.tables e below (T122.setTop (mkF m 160 #[.val (.int p0), .val (.ref b7), .val (.int (9 : Int32)), .val (.ref s_NUMERIC), .unset] [(.ref s_NUMERIC)])) _
      exact k
    obtain ⟨T123, X123, e123, st123⟩ := getS2 X122 hx hZ hown (host := "") (Or.inl (hw _ (List.mem_of_getElem? (i := 34) rfl))) Via.refl e122 (S_SINGLE_QUOTE.ext O64.2) (g := (mkF m 160 #[.val (.int p0), .val (.ref b7), .val (.int (9 : Int32)), .val (.ref s_NUMERIC), .unset] [(.ref s_NUMERIC)])) rfl (hb hby at_160)
    refine Go.st (V' := T123.setTop (mkF m 163 #[.val (.int p0), .val (.ref b7), .val (.int (9 : Int32)), .val (.ref s_NUMERIC), .unset] [(.ref s_SINGLE_QUOTE), (.ref s_NUMERIC)])) (fun t k => st123 t k) ?_
    refine Go.st (V' := T123.setTop (mkF m 174 #[.val (.int p0), .val (.ref b7), .val (.int (9 : Int32)), .val (.ref s_NUMERIC), .val (.int (0 : Int32))] [(.ref s_NUMERIC)])) (fun t k => ?_) ?_
    · refine Jvm.RoadKit.acmp (g := (mkF m 163 #[.val (.int p0), .val (.ref b7), .val (.int (9 : Int32)), .val (.ref s_NUMERIC), .unset] [(.ref s_SINGLE_QUOTE), (.ref s_NUMERIC)])) X123 hx rfl rfl rfl (pc0 := 163) (pc' := 170) (same := false) rfl (hb hby at_163) rfl (decide_eq_false fun q => (Fld.ne (F_NUMERIC_ordinal.ext O64.2) (F_SINGLE_QUOTE_ordinal.ext O64.2) (by decide)) (Value.ref.inj q)) (by decide) (by decide) ?_
      show Steps p.tables e below (T123.setTop (mkF m 170 #[.val (.int p0), .val (.ref b7), .val (.int (9 : Int32)), .val (.ref s_NUMERIC), .unset] [])) _
      refine XS.iconst X123.here hx rfl (hb hby at_170) ?_
      show Steps p.tables e below (T123.setTop (mkF m 171 #[.val (.int p0), .val (.ref b7), .val (.int (9 : Int32)), .val (.ref s_NUMERIC), .unset] [(.int (0 : Int32))])) _
      refine XS.istore X123.here hx rfl (hb hby at_171) rfl (l' := #[.val (.int p0), .val (.ref b7), .val (.int (9 : Int32)), .val (.ref s_NUMERIC), .val (.int (0 : Int32))]) rfl ?_
      show Steps p.tables e below (T123.setTop (mkF m 173 #[.val (.int p0), .val (.ref b7), .val (.int (9 : Int32)), .val (.ref s_NUMERIC), .val (.int (0 : Int32))] [])) _
      refine XS.aloadN X123.here hx rfl (hb hby at_173) rfl rfl ?_
      show Steps p.tables e below (T123.setTop (mkF m 174 #[.val (.int p0), .val (.ref b7), .val (.int (9 : Int32)), .val (.ref s_NUMERIC), .val (.int (0 : Int32))] [(.ref s_NUMERIC)])) _
      exact k
    obtain ⟨cq124, kq124, q124a, q124b, q124c⟩ := isOf hZ e123 (E_NUMERIC.ext O64.2)
    obtain ⟨_, _, ⟨T124, L124, k124, n124⟩, -, X124, ⟨Lc124, hQ124, l124, y124, z124⟩, st124⟩ := X123.virtualBack hx (y := (⟨"com/example/hits_from_terms/hitsfromterms/analysis/WordBreak", "isMidLetter", "()Z"⟩ : MethodName)) (z := (⟨"com/example/hits_from_terms/hitsfromterms/analysis/WordBreak", "isMidLetter", "()Z"⟩ : MethodName)) hown (mvT hZ (hw _ (List.mem_of_getElem? (i := 43) rfl))) (mvT hZ (hw _ (List.mem_of_getElem? (i := 44) rfl))) (notFace_of_selects (args := #[]) (mvT hZ (hw _ (List.mem_of_getElem? (i := 46) rfl)))) (mvT hZ (hw _ (List.mem_of_getElem? (i := 46) rfl))) (mvT hZ (hw _ (List.mem_of_getElem? (i := 45) rfl))) (by decide) (backOf (W := 0) (rm1 l Z a0 hw [] s_OTHER s_CR s_LF s_NEWLINE s_EXTEND s_FORMAT s_ZWJ s_ALETTER s_HEBREW_LETTER s_NUMERIC s_KATAKANA s_EXTEND_NUM_LET s_MID_LETTER s_MID_NUM s_MID_NUM_LET s_SINGLE_QUOTE s_DOUBLE_QUOTE s_REGIONAL_INDICATOR s_WSEG_SPACE HW s_NUMERIC h64 n0 O64) hZ (hw _ (List.mem_of_getElem? (i := 47) rfl)) (hw _ (List.mem_of_getElem? (i := 3) rfl)) (by decide) (by decide)) q124a q124c (g := (mkF m 174 #[.val (.int p0), .val (.ref b7), .val (.int (9 : Int32)), .val (.ref s_NUMERIC), .val (.int (0 : Int32))] [(.ref s_NUMERIC)])) rfl (by rw [hml]; rfl) (Steps.refl _) (argsL := []) (rest := []) (lenOf own_pd13 rfl) rfl (by show 2 * 0 + _ ≤ _; exact Nat.le_of_eq rfl) (hb hby at_174) (fun _ _ => ⟨rfl, e123, (by decide : 1 + 0 ≤ _), (by decide : 19 + 0 ≤ _)⟩)
    dsimp only [Pt.U, Pt.locs, Pt.cells, Pt.slots] at X124 l124 y124 z124 st124 hQ124
    subst l124 y124 z124
    obtain ⟨rfl, N124q, e124⟩ := hQ124
    have N124 := Fr.app N65 N124q
    refine Go.st (V' := T124.setTop (mkF m 177 #[.val (.int p0), .val (.ref b7), .val (.int (9 : Int32)), .val (.ref s_NUMERIC), .val (.int (0 : Int32))] [(.int (f1 s_MID_LETTER s_MID_NUM_LET s_SINGLE_QUOTE s_NUMERIC))])) (fun t k => st124.trans k) ?_
    have r125 : (f1 s_MID_LETTER s_MID_NUM_LET s_SINGLE_QUOTE s_NUMERIC) = (0 : Int32) := by rw [f1, if_neg (Fld.ne (F_NUMERIC_ordinal.ext O64.2) (F_MID_LETTER_ordinal.ext O64.2) (by decide)), if_neg (Fld.ne (F_NUMERIC_ordinal.ext O64.2) (F_MID_NUM_LET_ordinal.ext O64.2) (by decide)), if_neg (Fld.ne (F_NUMERIC_ordinal.ext O64.2) (F_SINGLE_QUOTE_ordinal.ext O64.2) (by decide))]
    rw [r125]
    refine Go.st (V' := T124.setTop (mkF m 187 #[.val (.int p0), .val (.ref b7), .val (.int (9 : Int32)), .val (.ref s_NUMERIC), .val (.int (0 : Int32))] [(.int (1 : Int32))])) (fun t k => ?_) ?_
    · refine XS.iload X124.here hx rfl (hb hby at_177) rfl  ?_
      show Steps p.tables e below (T124.setTop (mkF m 179 #[.val (.int p0), .val (.ref b7), .val (.int (9 : Int32)), .val (.ref s_NUMERIC), .val (.int (0 : Int32))] [(.int (0 : Int32)), (.int (0 : Int32))])) _
      refine XS.icmpNo X124.here hx rfl (hb hby at_179) rfl (teq (by decide : ((0 : Int32) = (0 : Int32)))).2 ?_
      show Steps p.tables e below (T124.setTop (mkF m 182 #[.val (.int p0), .val (.ref b7), .val (.int (9 : Int32)), .val (.ref s_NUMERIC), .val (.int (0 : Int32))] [])) _
      refine XS.iconst X124.here hx rfl (hb hby at_182) ?_
      show Steps p.tables e below (T124.setTop (mkF m 183 #[.val (.int p0), .val (.ref b7), .val (.int (9 : Int32)), .val (.ref s_NUMERIC), .val (.int (0 : Int32))] [(.int (1 : Int32))])) _
      refine XS.goto X124.here hx rfl (pc0 := 183) (pc' := 187) rfl (hb hby at_183) (by decide) (by decide) ?_
      show Steps p.tables e below (T124.setTop (mkF m 187 #[.val (.int p0), .val (.ref b7), .val (.int (9 : Int32)), .val (.ref s_NUMERIC), .val (.int (0 : Int32))] [(.int (1 : Int32))])) _
      exact k
    obtain ⟨fs, hr, hrun, hended, hW, hsame⟩ := X124.leave (v := some (.int (1 : Int32))) (fun h => by rw [Bd.returns] at h; cases h)
    refine Go.mk' ⟨_, _, retN X124 hx (t := .boolean) Bd.returns (by simp) (hb hby at_187) hr, hrun, hended, _, _, rfl, ?_, ⟨_, rfl⟩, hW, hsame.mono (by decide) (by decide)⟩
    show Q0 Z p0 h0 n0 _ T124.heap _
    rw [e124]
    exact ⟨rfl, N124⟩
  · show Go p e below _ (T64.setTop (mkF m 141 #[.val (.int p0), .val (.ref b7), .val (.int (10 : Int32)), .unset, .unset] []))
    refine Go.st (V' := T64.setTop (mkF m 143 #[.val (.int p0), .val (.ref b7), .val (.int (10 : Int32)), .unset, .unset] [(.int (10 : Int32)), (.ref b7)])) (fun t k => ?_) ?_
    · refine XS.aloadN X65.here hx rfl (hb hby at_141) rfl rfl ?_
      show Steps p.tables e below (T64.setTop (mkF m 142 #[.val (.int p0), .val (.ref b7), .val (.int (10 : Int32)), .unset, .unset] [(.ref b7)])) _
      refine XS.iloadN X65.here hx rfl (hb hby at_142) rfl  ?_
      show Steps p.tables e below (T64.setTop (mkF m 143 #[.val (.int p0), .val (.ref b7), .val (.int (10 : Int32)), .unset, .unset] [(.int (10 : Int32)), (.ref b7)])) _
      exact k
    obtain ⟨cl126, Ar126, q126, Sz126, Nn126, Ha126, Ga126⟩ := id (V64)
    have hin126 : ¬ ((10 : Int32) < 0 ∨ cl126.slots.size ≤ ((10 : Int32)).toNatClampNeg) := inb_of Sz126 ⟨by decide, by decide⟩
    refine Go.st (V' := T64.setTop (mkF m 146 #[.val (.int p0), .val (.ref b7), .val (.int (10 : Int32)), .val (.ref s_KATAKANA), .unset] [(.ref s_KATAKANA)])) (fun t k => ?_) ?_
    · show Steps p.tables e below (T64.setTop (mkF m 143 #[.val (.int p0), .val (.ref b7), .val (.int (10 : Int32)), .unset, .unset] [(.int (10 : Int32)), (.ref b7)])) _
      refine X65.aaload hx (j := (10 : Int32)) (v := (.ref s_KATAKANA)) (own_eT e64 Ar126) (State.isArrayOf_alike hZ.alike Ar126.2.1) rfl Ar126.2.2 hin126 (Ha126.at hin126 rfl) (g := (mkF m 143 #[.val (.int p0), .val (.ref b7), .val (.int (10 : Int32)), .unset, .unset] [(.int (10 : Int32)), (.ref b7)])) rfl rfl (hb hby at_143) _ ?_
      show Steps p.tables e below (T64.setTop (mkF m 144 #[.val (.int p0), .val (.ref b7), .val (.int (10 : Int32)), .unset, .unset] [(.ref s_KATAKANA)])) _
      refine XS.astoreN X65.here hx rfl (hb hby at_144) rfl rfl (l' := #[.val (.int p0), .val (.ref b7), .val (.int (10 : Int32)), .val (.ref s_KATAKANA), .unset]) rfl ?_
      show Steps p.tables e below (T64.setTop (mkF m 145 #[.val (.int p0), .val (.ref b7), .val (.int (10 : Int32)), .val (.ref s_KATAKANA), .unset] [])) _
      refine XS.aloadN X65.here hx rfl (hb hby at_145) rfl rfl ?_
      show Steps p.tables e below (T64.setTop (mkF m 146 #[.val (.int p0), .val (.ref b7), .val (.int (10 : Int32)), .val (.ref s_KATAKANA), .unset] [(.ref s_KATAKANA)])) _
      exact k
    obtain ⟨T127, X127, e127, st127⟩ := getS2 X65 hx hZ hown (host := "") (Or.inl (hw _ (List.mem_of_getElem? (i := 28) rfl))) Via.refl e64 (S_MID_LETTER.ext O64.2) (g := (mkF m 146 #[.val (.int p0), .val (.ref b7), .val (.int (10 : Int32)), .val (.ref s_KATAKANA), .unset] [(.ref s_KATAKANA)])) rfl (hb hby at_146)
    refine Go.st (V' := T127.setTop (mkF m 149 #[.val (.int p0), .val (.ref b7), .val (.int (10 : Int32)), .val (.ref s_KATAKANA), .unset] [(.ref s_MID_LETTER), (.ref s_KATAKANA)])) (fun t k => st127 t k) ?_
    refine Go.st (V' := T127.setTop (mkF m 153 #[.val (.int p0), .val (.ref b7), .val (.int (10 : Int32)), .val (.ref s_KATAKANA), .unset] [(.ref s_KATAKANA)])) (fun t k => ?_) ?_
    · refine Jvm.RoadKit.acmp (g := (mkF m 149 #[.val (.int p0), .val (.ref b7), .val (.int (10 : Int32)), .val (.ref s_KATAKANA), .unset] [(.ref s_MID_LETTER), (.ref s_KATAKANA)])) X127 hx rfl rfl rfl (pc0 := 149) (pc' := 152) (same := false) rfl (hb hby at_149) rfl (decide_eq_false fun q => (Fld.ne (F_KATAKANA_ordinal.ext O64.2) (F_MID_LETTER_ordinal.ext O64.2) (by decide)) (Value.ref.inj q)) (by decide) (by decide) ?_
      show Steps p.tables e below (T127.setTop (mkF m 152 #[.val (.int p0), .val (.ref b7), .val (.int (10 : Int32)), .val (.ref s_KATAKANA), .unset] [])) _
      refine XS.aloadN X127.here hx rfl (hb hby at_152) rfl rfl ?_
      show Steps p.tables e below (T127.setTop (mkF m 153 #[.val (.int p0), .val (.ref b7), .val (.int (10 : Int32)), .val (.ref s_KATAKANA), .unset] [(.ref s_KATAKANA)])) _
      exact k
    obtain ⟨T128, X128, e128, st128⟩ := getS2 X127 hx hZ hown (host := "") (Or.inl (hw _ (List.mem_of_getElem? (i := 32) rfl))) Via.refl e127 (S_MID_NUM_LET.ext O64.2) (g := (mkF m 153 #[.val (.int p0), .val (.ref b7), .val (.int (10 : Int32)), .val (.ref s_KATAKANA), .unset] [(.ref s_KATAKANA)])) rfl (hb hby at_153)
    refine Go.st (V' := T128.setTop (mkF m 156 #[.val (.int p0), .val (.ref b7), .val (.int (10 : Int32)), .val (.ref s_KATAKANA), .unset] [(.ref s_MID_NUM_LET), (.ref s_KATAKANA)])) (fun t k => st128 t k) ?_
    refine Go.st (V' := T128.setTop (mkF m 160 #[.val (.int p0), .val (.ref b7), .val (.int (10 : Int32)), .val (.ref s_KATAKANA), .unset] [(.ref s_KATAKANA)])) (fun t k => ?_) ?_
    · refine Jvm.RoadKit.acmp (g := (mkF m 156 #[.val (.int p0), .val (.ref b7), .val (.int (10 : Int32)), .val (.ref s_KATAKANA), .unset] [(.ref s_MID_NUM_LET), (.ref s_KATAKANA)])) X128 hx rfl rfl rfl (pc0 := 156) (pc' := 159) (same := false) rfl (hb hby at_156) rfl (decide_eq_false fun q => (Fld.ne (F_KATAKANA_ordinal.ext O64.2) (F_MID_NUM_LET_ordinal.ext O64.2) (by decide)) (Value.ref.inj q)) (by decide) (by decide) ?_
      show Steps p.tables e below (T128.setTop (mkF m 159 #[.val (.int p0), .val (.ref b7), .val (.int (10 : Int32)), .val (.ref s_KATAKANA), .unset] [])) _
      refine XS.aloadN X128.here hx rfl (hb hby at_159) rfl rfl ?_
      show Steps p.tables e below (T128.setTop (mkF m 160 #[.val (.int p0), .val (.ref b7), .val (.int (10 : Int32)), .val (.ref s_KATAKANA), .unset] [(.ref s_KATAKANA)])) _
      exact k
    obtain ⟨T129, X129, e129, st129⟩ := getS2 X128 hx hZ hown (host := "") (Or.inl (hw _ (List.mem_of_getElem? (i := 34) rfl))) Via.refl e128 (S_SINGLE_QUOTE.ext O64.2) (g := (mkF m 160 #[.val (.int p0), .val (.ref b7), .val (.int (10 : Int32)), .val (.ref s_KATAKANA), .unset] [(.ref s_KATAKANA)])) rfl (hb hby at_160)
    refine Go.st (V' := T129.setTop (mkF m 163 #[.val (.int p0), .val (.ref b7), .val (.int (10 : Int32)), .val (.ref s_KATAKANA), .unset] [(.ref s_SINGLE_QUOTE), (.ref s_KATAKANA)])) (fun t k => st129 t k) ?_
    refine Go.st (V' := T129.setTop (mkF m 174 #[.val (.int p0), .val (.ref b7), .val (.int (10 : Int32)), .val (.ref s_KATAKANA), .val (.int (0 : Int32))] [(.ref s_KATAKANA)])) (fun t k => ?_) ?_
    · refine Jvm.RoadKit.acmp (g := (mkF m 163 #[.val (.int p0), .val (.ref b7), .val (.int (10 : Int32)), .val (.ref s_KATAKANA), .unset] [(.ref s_SINGLE_QUOTE), (.ref s_KATAKANA)])) X129 hx rfl rfl rfl (pc0 := 163) (pc' := 170) (same := false) rfl (hb hby at_163) rfl (decide_eq_false fun q => (Fld.ne (F_KATAKANA_ordinal.ext O64.2) (F_SINGLE_QUOTE_ordinal.ext O64.2) (by decide)) (Value.ref.inj q)) (by decide) (by decide) ?_
      show Steps p.tables e below (T129.setTop (mkF m 170 #[.val (.int p0), .val (.ref b7), .val (.int (10 : Int32)), .val (.ref s_KATAKANA), .unset] [])) _
      refine XS.iconst X129.here hx rfl (hb hby at_170) ?_
      show Steps p.tables e below (T129.setTop (mkF m 171 #[.val (.int p0), .val (.ref b7), .val (.int (10 : Int32)), .val (.ref s_KATAKANA), .unset] [(.int (0 : Int32))])) _
      refine XS.istore X129.here hx rfl (hb hby at_171) rfl (l' := #[.val (.int p0), .val (.ref b7), .val (.int (10 : Int32)), .val (.ref s_KATAKANA), .val (.int (0 : Int32))]) rfl ?_
      show Steps p.tables e below (T129.setTop (mkF m 173 #[.val (.int p0), .val (.ref b7), .val (.int (10 : Int32)), .val (.ref s_KATAKANA), .val (.int (0 : Int32))] [])) _
      refine XS.aloadN X129.here hx rfl (hb hby at_173) rfl rfl ?_
      show Steps p.tables e below (T129.setTop (mkF m 174 #[.val (.int p0), .val (.ref b7), .val (.int (10 : Int32)), .val (.ref s_KATAKANA), .val (.int (0 : Int32))] [(.ref s_KATAKANA)])) _
      exact k
    obtain ⟨cq130, kq130, q130a, q130b, q130c⟩ := isOf hZ e129 (E_KATAKANA.ext O64.2)
    obtain ⟨_, _, ⟨T130, L130, k130, n130⟩, -, X130, ⟨Lc130, hQ130, l130, y130, z130⟩, st130⟩ := X129.virtualBack hx (y := (⟨"com/example/hits_from_terms/hitsfromterms/analysis/WordBreak", "isMidLetter", "()Z"⟩ : MethodName)) (z := (⟨"com/example/hits_from_terms/hitsfromterms/analysis/WordBreak", "isMidLetter", "()Z"⟩ : MethodName)) hown (mvT hZ (hw _ (List.mem_of_getElem? (i := 43) rfl))) (mvT hZ (hw _ (List.mem_of_getElem? (i := 44) rfl))) (notFace_of_selects (args := #[]) (mvT hZ (hw _ (List.mem_of_getElem? (i := 46) rfl)))) (mvT hZ (hw _ (List.mem_of_getElem? (i := 46) rfl))) (mvT hZ (hw _ (List.mem_of_getElem? (i := 45) rfl))) (by decide) (backOf (W := 0) (rm1 l Z a0 hw [] s_OTHER s_CR s_LF s_NEWLINE s_EXTEND s_FORMAT s_ZWJ s_ALETTER s_HEBREW_LETTER s_NUMERIC s_KATAKANA s_EXTEND_NUM_LET s_MID_LETTER s_MID_NUM s_MID_NUM_LET s_SINGLE_QUOTE s_DOUBLE_QUOTE s_REGIONAL_INDICATOR s_WSEG_SPACE HW s_KATAKANA h64 n0 O64) hZ (hw _ (List.mem_of_getElem? (i := 47) rfl)) (hw _ (List.mem_of_getElem? (i := 3) rfl)) (by decide) (by decide)) q130a q130c (g := (mkF m 174 #[.val (.int p0), .val (.ref b7), .val (.int (10 : Int32)), .val (.ref s_KATAKANA), .val (.int (0 : Int32))] [(.ref s_KATAKANA)])) rfl (by rw [hml]; rfl) (Steps.refl _) (argsL := []) (rest := []) (lenOf own_pd13 rfl) rfl (by show 2 * 0 + _ ≤ _; exact Nat.le_of_eq rfl) (hb hby at_174) (fun _ _ => ⟨rfl, e129, (by decide : 1 + 0 ≤ _), (by decide : 19 + 0 ≤ _)⟩)
    dsimp only [Pt.U, Pt.locs, Pt.cells, Pt.slots] at X130 l130 y130 z130 st130 hQ130
    subst l130 y130 z130
    obtain ⟨rfl, N130q, e130⟩ := hQ130
    have N130 := Fr.app N65 N130q
    refine Go.st (V' := T130.setTop (mkF m 177 #[.val (.int p0), .val (.ref b7), .val (.int (10 : Int32)), .val (.ref s_KATAKANA), .val (.int (0 : Int32))] [(.int (f1 s_MID_LETTER s_MID_NUM_LET s_SINGLE_QUOTE s_KATAKANA))])) (fun t k => st130.trans k) ?_
    have r131 : (f1 s_MID_LETTER s_MID_NUM_LET s_SINGLE_QUOTE s_KATAKANA) = (0 : Int32) := by rw [f1, if_neg (Fld.ne (F_KATAKANA_ordinal.ext O64.2) (F_MID_LETTER_ordinal.ext O64.2) (by decide)), if_neg (Fld.ne (F_KATAKANA_ordinal.ext O64.2) (F_MID_NUM_LET_ordinal.ext O64.2) (by decide)), if_neg (Fld.ne (F_KATAKANA_ordinal.ext O64.2) (F_SINGLE_QUOTE_ordinal.ext O64.2) (by decide))]
    rw [r131]
    refine Go.st (V' := T130.setTop (mkF m 187 #[.val (.int p0), .val (.ref b7), .val (.int (10 : Int32)), .val (.ref s_KATAKANA), .val (.int (0 : Int32))] [(.int (1 : Int32))])) (fun t k => ?_) ?_
    · refine XS.iload X130.here hx rfl (hb hby at_177) rfl  ?_
      show Steps p.tables e below (T130.setTop (mkF m 179 #[.val (.int p0), .val (.ref b7), .val (.int (10 : Int32)), .val (.ref s_KATAKANA), .val (.int (0 : Int32))] [(.int (0 : Int32)), (.int (0 : Int32))])) _
      refine XS.icmpNo X130.here hx rfl (hb hby at_179) rfl (teq (by decide : ((0 : Int32) = (0 : Int32)))).2 ?_
      show Steps p.tables e below (T130.setTop (mkF m 182 #[.val (.int p0), .val (.ref b7), .val (.int (10 : Int32)), .val (.ref s_KATAKANA), .val (.int (0 : Int32))] [])) _
      refine XS.iconst X130.here hx rfl (hb hby at_182) ?_
      show Steps p.tables e below (T130.setTop (mkF m 183 #[.val (.int p0), .val (.ref b7), .val (.int (10 : Int32)), .val (.ref s_KATAKANA), .val (.int (0 : Int32))] [(.int (1 : Int32))])) _
      refine XS.goto X130.here hx rfl (pc0 := 183) (pc' := 187) rfl (hb hby at_183) (by decide) (by decide) ?_
      show Steps p.tables e below (T130.setTop (mkF m 187 #[.val (.int p0), .val (.ref b7), .val (.int (10 : Int32)), .val (.ref s_KATAKANA), .val (.int (0 : Int32))] [(.int (1 : Int32))])) _
      exact k
    obtain ⟨fs, hr, hrun, hended, hW, hsame⟩ := X130.leave (v := some (.int (1 : Int32))) (fun h => by rw [Bd.returns] at h; cases h)
    refine Go.mk' ⟨_, _, retN X130 hx (t := .boolean) Bd.returns (by simp) (hb hby at_187) hr, hrun, hended, _, _, rfl, ?_, ⟨_, rfl⟩, hW, hsame.mono (by decide) (by decide)⟩
    show Q0 Z p0 h0 n0 _ T130.heap _
    rw [e130]
    exact ⟨rfl, N130⟩
  · show Go p e below _ (T64.setTop (mkF m 141 #[.val (.int p0), .val (.ref b7), .val (.int (11 : Int32)), .unset, .unset] []))
    refine Go.st (V' := T64.setTop (mkF m 143 #[.val (.int p0), .val (.ref b7), .val (.int (11 : Int32)), .unset, .unset] [(.int (11 : Int32)), (.ref b7)])) (fun t k => ?_) ?_
    · refine XS.aloadN X65.here hx rfl (hb hby at_141) rfl rfl ?_
      show Steps p.tables e below (T64.setTop (mkF m 142 #[.val (.int p0), .val (.ref b7), .val (.int (11 : Int32)), .unset, .unset] [(.ref b7)])) _
      refine XS.iloadN X65.here hx rfl (hb hby at_142) rfl  ?_
      show Steps p.tables e below (T64.setTop (mkF m 143 #[.val (.int p0), .val (.ref b7), .val (.int (11 : Int32)), .unset, .unset] [(.int (11 : Int32)), (.ref b7)])) _
      exact k
    obtain ⟨cl132, Ar132, q132, Sz132, Nn132, Ha132, Ga132⟩ := id (V64)
    have hin132 : ¬ ((11 : Int32) < 0 ∨ cl132.slots.size ≤ ((11 : Int32)).toNatClampNeg) := inb_of Sz132 ⟨by decide, by decide⟩
    refine Go.st (V' := T64.setTop (mkF m 146 #[.val (.int p0), .val (.ref b7), .val (.int (11 : Int32)), .val (.ref s_EXTEND_NUM_LET), .unset] [(.ref s_EXTEND_NUM_LET)])) (fun t k => ?_) ?_
    · show Steps p.tables e below (T64.setTop (mkF m 143 #[.val (.int p0), .val (.ref b7), .val (.int (11 : Int32)), .unset, .unset] [(.int (11 : Int32)), (.ref b7)])) _
      refine X65.aaload hx (j := (11 : Int32)) (v := (.ref s_EXTEND_NUM_LET)) (own_eT e64 Ar132) (State.isArrayOf_alike hZ.alike Ar132.2.1) rfl Ar132.2.2 hin132 (Ha132.at hin132 rfl) (g := (mkF m 143 #[.val (.int p0), .val (.ref b7), .val (.int (11 : Int32)), .unset, .unset] [(.int (11 : Int32)), (.ref b7)])) rfl rfl (hb hby at_143) _ ?_
      show Steps p.tables e below (T64.setTop (mkF m 144 #[.val (.int p0), .val (.ref b7), .val (.int (11 : Int32)), .unset, .unset] [(.ref s_EXTEND_NUM_LET)])) _
      refine XS.astoreN X65.here hx rfl (hb hby at_144) rfl rfl (l' := #[.val (.int p0), .val (.ref b7), .val (.int (11 : Int32)), .val (.ref s_EXTEND_NUM_LET), .unset]) rfl ?_
      show Steps p.tables e below (T64.setTop (mkF m 145 #[.val (.int p0), .val (.ref b7), .val (.int (11 : Int32)), .val (.ref s_EXTEND_NUM_LET), .unset] [])) _
      refine XS.aloadN X65.here hx rfl (hb hby at_145) rfl rfl ?_
      show Steps p.tables e below (T64.setTop (mkF m 146 #[.val (.int p0), .val (.ref b7), .val (.int (11 : Int32)), .val (.ref s_EXTEND_NUM_LET), .unset] [(.ref s_EXTEND_NUM_LET)])) _
      exact k
    obtain ⟨T133, X133, e133, st133⟩ := getS2 X65 hx hZ hown (host := "") (Or.inl (hw _ (List.mem_of_getElem? (i := 28) rfl))) Via.refl e64 (S_MID_LETTER.ext O64.2) (g := (mkF m 146 #[.val (.int p0), .val (.ref b7), .val (.int (11 : Int32)), .val (.ref s_EXTEND_NUM_LET), .unset] [(.ref s_EXTEND_NUM_LET)])) rfl (hb hby at_146)
    refine Go.st (V' := T133.setTop (mkF m 149 #[.val (.int p0), .val (.ref b7), .val (.int (11 : Int32)), .val (.ref s_EXTEND_NUM_LET), .unset] [(.ref s_MID_LETTER), (.ref s_EXTEND_NUM_LET)])) (fun t k => st133 t k) ?_
    refine Go.st (V' := T133.setTop (mkF m 153 #[.val (.int p0), .val (.ref b7), .val (.int (11 : Int32)), .val (.ref s_EXTEND_NUM_LET), .unset] [(.ref s_EXTEND_NUM_LET)])) (fun t k => ?_) ?_
    · refine Jvm.RoadKit.acmp (g := (mkF m 149 #[.val (.int p0), .val (.ref b7), .val (.int (11 : Int32)), .val (.ref s_EXTEND_NUM_LET), .unset] [(.ref s_MID_LETTER), (.ref s_EXTEND_NUM_LET)])) X133 hx rfl rfl rfl (pc0 := 149) (pc' := 152) (same := false) rfl (hb hby at_149) rfl (decide_eq_false fun q => (Fld.ne (F_EXTEND_NUM_LET_ordinal.ext O64.2) (F_MID_LETTER_ordinal.ext O64.2) (by decide)) (Value.ref.inj q)) (by decide) (by decide) ?_
      show Steps p.tables e below (T133.setTop (mkF m 152 #[.val (.int p0), .val (.ref b7), .val (.int (11 : Int32)), .val (.ref s_EXTEND_NUM_LET), .unset] [])) _
      refine XS.aloadN X133.here hx rfl (hb hby at_152) rfl rfl ?_
      show Steps p.tables e below (T133.setTop (mkF m 153 #[.val (.int p0), .val (.ref b7), .val (.int (11 : Int32)), .val (.ref s_EXTEND_NUM_LET), .unset] [(.ref s_EXTEND_NUM_LET)])) _
      exact k
    obtain ⟨T134, X134, e134, st134⟩ := getS2 X133 hx hZ hown (host := "") (Or.inl (hw _ (List.mem_of_getElem? (i := 32) rfl))) Via.refl e133 (S_MID_NUM_LET.ext O64.2) (g := (mkF m 153 #[.val (.int p0), .val (.ref b7), .val (.int (11 : Int32)), .val (.ref s_EXTEND_NUM_LET), .unset] [(.ref s_EXTEND_NUM_LET)])) rfl (hb hby at_153)
    refine Go.st (V' := T134.setTop (mkF m 156 #[.val (.int p0), .val (.ref b7), .val (.int (11 : Int32)), .val (.ref s_EXTEND_NUM_LET), .unset] [(.ref s_MID_NUM_LET), (.ref s_EXTEND_NUM_LET)])) (fun t k => st134 t k) ?_
    refine Go.st (V' := T134.setTop (mkF m 160 #[.val (.int p0), .val (.ref b7), .val (.int (11 : Int32)), .val (.ref s_EXTEND_NUM_LET), .unset] [(.ref s_EXTEND_NUM_LET)])) (fun t k => ?_) ?_
    · refine Jvm.RoadKit.acmp (g := (mkF m 156 #[.val (.int p0), .val (.ref b7), .val (.int (11 : Int32)), .val (.ref s_EXTEND_NUM_LET), .unset] [(.ref s_MID_NUM_LET), (.ref s_EXTEND_NUM_LET)])) X134 hx rfl rfl rfl (pc0 := 156) (pc' := 159) (same := false) rfl (hb hby at_156) rfl (decide_eq_false fun q => (Fld.ne (F_EXTEND_NUM_LET_ordinal.ext O64.2) (F_MID_NUM_LET_ordinal.ext O64.2) (by decide)) (Value.ref.inj q)) (by decide) (by decide) ?_
      show Steps p.tables e below (T134.setTop (mkF m 159 #[.val (.int p0), .val (.ref b7), .val (.int (11 : Int32)), .val (.ref s_EXTEND_NUM_LET), .unset] [])) _
      refine XS.aloadN X134.here hx rfl (hb hby at_159) rfl rfl ?_
      show Steps p.tables e below (T134.setTop (mkF m 160 #[.val (.int p0), .val (.ref b7), .val (.int (11 : Int32)), .val (.ref s_EXTEND_NUM_LET), .unset] [(.ref s_EXTEND_NUM_LET)])) _
      exact k
    obtain ⟨T135, X135, e135, st135⟩ := getS2 X134 hx hZ hown (host := "") (Or.inl (hw _ (List.mem_of_getElem? (i := 34) rfl))) Via.refl e134 (S_SINGLE_QUOTE.ext O64.2) (g := (mkF m 160 #[.val (.int p0), .val (.ref b7), .val (.int (11 : Int32)), .val (.ref s_EXTEND_NUM_LET), .unset] [(.ref s_EXTEND_NUM_LET)])) rfl (hb hby at_160)
    refine Go.st (V' := T135.setTop (mkF m 163 #[.val (.int p0), .val (.ref b7), .val (.int (11 : Int32)), .val (.ref s_EXTEND_NUM_LET), .unset] [(.ref s_SINGLE_QUOTE), (.ref s_EXTEND_NUM_LET)])) (fun t k => st135 t k) ?_
    refine Go.st (V' := T135.setTop (mkF m 174 #[.val (.int p0), .val (.ref b7), .val (.int (11 : Int32)), .val (.ref s_EXTEND_NUM_LET), .val (.int (0 : Int32))] [(.ref s_EXTEND_NUM_LET)])) (fun t k => ?_) ?_
    · refine Jvm.RoadKit.acmp (g := (mkF m 163 #[.val (.int p0), .val (.ref b7), .val (.int (11 : Int32)), .val (.ref s_EXTEND_NUM_LET), .unset] [(.ref s_SINGLE_QUOTE), (.ref s_EXTEND_NUM_LET)])) X135 hx rfl rfl rfl (pc0 := 163) (pc' := 170) (same := false) rfl (hb hby at_163) rfl (decide_eq_false fun q => (Fld.ne (F_EXTEND_NUM_LET_ordinal.ext O64.2) (F_SINGLE_QUOTE_ordinal.ext O64.2) (by decide)) (Value.ref.inj q)) (by decide) (by decide) ?_
      show Steps p.tables e below (T135.setTop (mkF m 170 #[.val (.int p0), .val (.ref b7), .val (.int (11 : Int32)), .val (.ref s_EXTEND_NUM_LET), .unset] [])) _
      refine XS.iconst X135.here hx rfl (hb hby at_170) ?_
      show Steps p.tables e below (T135.setTop (mkF m 171 #[.val (.int p0), .val (.ref b7), .val (.int (11 : Int32)), .val (.ref s_EXTEND_NUM_LET), .unset] [(.int (0 : Int32))])) _
      refine XS.istore X135.here hx rfl (hb hby at_171) rfl (l' := #[.val (.int p0), .val (.ref b7), .val (.int (11 : Int32)), .val (.ref s_EXTEND_NUM_LET), .val (.int (0 : Int32))]) rfl ?_
      show Steps p.tables e below (T135.setTop (mkF m 173 #[.val (.int p0), .val (.ref b7), .val (.int (11 : Int32)), .val (.ref s_EXTEND_NUM_LET), .val (.int (0 : Int32))] [])) _
      refine XS.aloadN X135.here hx rfl (hb hby at_173) rfl rfl ?_
      show Steps p.tables e below (T135.setTop (mkF m 174 #[.val (.int p0), .val (.ref b7), .val (.int (11 : Int32)), .val (.ref s_EXTEND_NUM_LET), .val (.int (0 : Int32))] [(.ref s_EXTEND_NUM_LET)])) _
      exact k
    obtain ⟨cq136, kq136, q136a, q136b, q136c⟩ := isOf hZ e135 (E_EXTEND_NUM_LET.ext O64.2)
    obtain ⟨_, _, ⟨T136, L136, k136, n136⟩, -, X136, ⟨Lc136, hQ136, l136, y136, z136⟩, st136⟩ := X135.virtualBack hx (y := (⟨"com/example/hits_from_terms/hitsfromterms/analysis/WordBreak", "isMidLetter", "()Z"⟩ : MethodName)) (z := (⟨"com/example/hits_from_terms/hitsfromterms/analysis/WordBreak", "isMidLetter", "()Z"⟩ : MethodName)) hown (mvT hZ (hw _ (List.mem_of_getElem? (i := 43) rfl))) (mvT hZ (hw _ (List.mem_of_getElem? (i := 44) rfl))) (notFace_of_selects (args := #[]) (mvT hZ (hw _ (List.mem_of_getElem? (i := 46) rfl)))) (mvT hZ (hw _ (List.mem_of_getElem? (i := 46) rfl))) (mvT hZ (hw _ (List.mem_of_getElem? (i := 45) rfl))) (by decide) (backOf (W := 0) (rm1 l Z a0 hw [] s_OTHER s_CR s_LF s_NEWLINE s_EXTEND s_FORMAT s_ZWJ s_ALETTER s_HEBREW_LETTER s_NUMERIC s_KATAKANA s_EXTEND_NUM_LET s_MID_LETTER s_MID_NUM s_MID_NUM_LET s_SINGLE_QUOTE s_DOUBLE_QUOTE s_REGIONAL_INDICATOR s_WSEG_SPACE HW s_EXTEND_NUM_LET h64 n0 O64) hZ (hw _ (List.mem_of_getElem? (i := 47) rfl)) (hw _ (List.mem_of_getElem? (i := 3) rfl)) (by decide) (by decide)) q136a q136c (g := (mkF m 174 #[.val (.int p0), .val (.ref b7), .val (.int (11 : Int32)), .val (.ref s_EXTEND_NUM_LET), .val (.int (0 : Int32))] [(.ref s_EXTEND_NUM_LET)])) rfl (by rw [hml]; rfl) (Steps.refl _) (argsL := []) (rest := []) (lenOf own_pd13 rfl) rfl (by show 2 * 0 + _ ≤ _; exact Nat.le_of_eq rfl) (hb hby at_174) (fun _ _ => ⟨rfl, e135, (by decide : 1 + 0 ≤ _), (by decide : 19 + 0 ≤ _)⟩)
    dsimp only [Pt.U, Pt.locs, Pt.cells, Pt.slots] at X136 l136 y136 z136 st136 hQ136
    subst l136 y136 z136
    obtain ⟨rfl, N136q, e136⟩ := hQ136
    have N136 := Fr.app N65 N136q
    refine Go.st (V' := T136.setTop (mkF m 177 #[.val (.int p0), .val (.ref b7), .val (.int (11 : Int32)), .val (.ref s_EXTEND_NUM_LET), .val (.int (0 : Int32))] [(.int (f1 s_MID_LETTER s_MID_NUM_LET s_SINGLE_QUOTE s_EXTEND_NUM_LET))])) (fun t k => st136.trans k) ?_
    have r137 : (f1 s_MID_LETTER s_MID_NUM_LET s_SINGLE_QUOTE s_EXTEND_NUM_LET) = (0 : Int32) := by rw [f1, if_neg (Fld.ne (F_EXTEND_NUM_LET_ordinal.ext O64.2) (F_MID_LETTER_ordinal.ext O64.2) (by decide)), if_neg (Fld.ne (F_EXTEND_NUM_LET_ordinal.ext O64.2) (F_MID_NUM_LET_ordinal.ext O64.2) (by decide)), if_neg (Fld.ne (F_EXTEND_NUM_LET_ordinal.ext O64.2) (F_SINGLE_QUOTE_ordinal.ext O64.2) (by decide))]
    rw [r137]
    refine Go.st (V' := T136.setTop (mkF m 187 #[.val (.int p0), .val (.ref b7), .val (.int (11 : Int32)), .val (.ref s_EXTEND_NUM_LET), .val (.int (0 : Int32))] [(.int (1 : Int32))])) (fun t k => ?_) ?_
    · refine XS.iload X136.here hx rfl (hb hby at_177) rfl  ?_
      show Steps p.tables e below (T136.setTop (mkF m 179 #[.val (.int p0), .val (.ref b7), .val (.int (11 : Int32)), .val (.ref s_EXTEND_NUM_LET), .val (.int (0 : Int32))] [(.int (0 : Int32)), (.int (0 : Int32))])) _
      refine XS.icmpNo X136.here hx rfl (hb hby at_179) rfl (teq (by decide : ((0 : Int32) = (0 : Int32)))).2 ?_
      show Steps p.tables e below (T136.setTop (mkF m 182 #[.val (.int p0), .val (.ref b7), .val (.int (11 : Int32)), .val (.ref s_EXTEND_NUM_LET), .val (.int (0 : Int32))] [])) _
      refine XS.iconst X136.here hx rfl (hb hby at_182) ?_
      show Steps p.tables e below (T136.setTop (mkF m 183 #[.val (.int p0), .val (.ref b7), .val (.int (11 : Int32)), .val (.ref s_EXTEND_NUM_LET), .val (.int (0 : Int32))] [(.int (1 : Int32))])) _
      refine XS.goto X136.here hx rfl (pc0 := 183) (pc' := 187) rfl (hb hby at_183) (by decide) (by decide) ?_
      show Steps p.tables e below (T136.setTop (mkF m 187 #[.val (.int p0), .val (.ref b7), .val (.int (11 : Int32)), .val (.ref s_EXTEND_NUM_LET), .val (.int (0 : Int32))] [(.int (1 : Int32))])) _
      exact k
    obtain ⟨fs, hr, hrun, hended, hW, hsame⟩ := X136.leave (v := some (.int (1 : Int32))) (fun h => by rw [Bd.returns] at h; cases h)
    refine Go.mk' ⟨_, _, retN X136 hx (t := .boolean) Bd.returns (by simp) (hb hby at_187) hr, hrun, hended, _, _, rfl, ?_, ⟨_, rfl⟩, hW, hsame.mono (by decide) (by decide)⟩
    show Q0 Z p0 h0 n0 _ T136.heap _
    rw [e136]
    exact ⟨rfl, N136⟩
  · show Go p e below _ (T64.setTop (mkF m 141 #[.val (.int p0), .val (.ref b7), .val (.int (12 : Int32)), .unset, .unset] []))
    refine Go.st (V' := T64.setTop (mkF m 143 #[.val (.int p0), .val (.ref b7), .val (.int (12 : Int32)), .unset, .unset] [(.int (12 : Int32)), (.ref b7)])) (fun t k => ?_) ?_
    · refine XS.aloadN X65.here hx rfl (hb hby at_141) rfl rfl ?_
      show Steps p.tables e below (T64.setTop (mkF m 142 #[.val (.int p0), .val (.ref b7), .val (.int (12 : Int32)), .unset, .unset] [(.ref b7)])) _
      refine XS.iloadN X65.here hx rfl (hb hby at_142) rfl  ?_
      show Steps p.tables e below (T64.setTop (mkF m 143 #[.val (.int p0), .val (.ref b7), .val (.int (12 : Int32)), .unset, .unset] [(.int (12 : Int32)), (.ref b7)])) _
      exact k
    obtain ⟨cl138, Ar138, q138, Sz138, Nn138, Ha138, Ga138⟩ := id (V64)
    have hin138 : ¬ ((12 : Int32) < 0 ∨ cl138.slots.size ≤ ((12 : Int32)).toNatClampNeg) := inb_of Sz138 ⟨by decide, by decide⟩
    refine Go.st (V' := T64.setTop (mkF m 146 #[.val (.int p0), .val (.ref b7), .val (.int (12 : Int32)), .val (.ref s_MID_LETTER), .unset] [(.ref s_MID_LETTER)])) (fun t k => ?_) ?_
    · show Steps p.tables e below (T64.setTop (mkF m 143 #[.val (.int p0), .val (.ref b7), .val (.int (12 : Int32)), .unset, .unset] [(.int (12 : Int32)), (.ref b7)])) _
      refine X65.aaload hx (j := (12 : Int32)) (v := (.ref s_MID_LETTER)) (own_eT e64 Ar138) (State.isArrayOf_alike hZ.alike Ar138.2.1) rfl Ar138.2.2 hin138 (Ha138.at hin138 rfl) (g := (mkF m 143 #[.val (.int p0), .val (.ref b7), .val (.int (12 : Int32)), .unset, .unset] [(.int (12 : Int32)), (.ref b7)])) rfl rfl (hb hby at_143) _ ?_
      show Steps p.tables e below (T64.setTop (mkF m 144 #[.val (.int p0), .val (.ref b7), .val (.int (12 : Int32)), .unset, .unset] [(.ref s_MID_LETTER)])) _
      refine XS.astoreN X65.here hx rfl (hb hby at_144) rfl rfl (l' := #[.val (.int p0), .val (.ref b7), .val (.int (12 : Int32)), .val (.ref s_MID_LETTER), .unset]) rfl ?_
      show Steps p.tables e below (T64.setTop (mkF m 145 #[.val (.int p0), .val (.ref b7), .val (.int (12 : Int32)), .val (.ref s_MID_LETTER), .unset] [])) _
      refine XS.aloadN X65.here hx rfl (hb hby at_145) rfl rfl ?_
      show Steps p.tables e below (T64.setTop (mkF m 146 #[.val (.int p0), .val (.ref b7), .val (.int (12 : Int32)), .val (.ref s_MID_LETTER), .unset] [(.ref s_MID_LETTER)])) _
      exact k
    obtain ⟨T139, X139, e139, st139⟩ := getS2 X65 hx hZ hown (host := "") (Or.inl (hw _ (List.mem_of_getElem? (i := 28) rfl))) Via.refl e64 (S_MID_LETTER.ext O64.2) (g := (mkF m 146 #[.val (.int p0), .val (.ref b7), .val (.int (12 : Int32)), .val (.ref s_MID_LETTER), .unset] [(.ref s_MID_LETTER)])) rfl (hb hby at_146)
    refine Go.st (V' := T139.setTop (mkF m 149 #[.val (.int p0), .val (.ref b7), .val (.int (12 : Int32)), .val (.ref s_MID_LETTER), .unset] [(.ref s_MID_LETTER), (.ref s_MID_LETTER)])) (fun t k => st139 t k) ?_
    refine Go.st (V' := T139.setTop (mkF m 174 #[.val (.int p0), .val (.ref b7), .val (.int (12 : Int32)), .val (.ref s_MID_LETTER), .val (.int (1 : Int32))] [(.ref s_MID_LETTER)])) (fun t k => ?_) ?_
    · refine Jvm.RoadKit.acmp (g := (mkF m 149 #[.val (.int p0), .val (.ref b7), .val (.int (12 : Int32)), .val (.ref s_MID_LETTER), .unset] [(.ref s_MID_LETTER), (.ref s_MID_LETTER)])) X139 hx rfl rfl rfl (pc0 := 149) (pc' := 166) (same := true) rfl (hb hby at_149) rfl (decide_eq_true (congrArg Value.ref rfl)) (by decide) (by decide) ?_
      show Steps p.tables e below (T139.setTop (mkF m 166 #[.val (.int p0), .val (.ref b7), .val (.int (12 : Int32)), .val (.ref s_MID_LETTER), .unset] [])) _
      refine XS.iconst X139.here hx rfl (hb hby at_166) ?_
      show Steps p.tables e below (T139.setTop (mkF m 167 #[.val (.int p0), .val (.ref b7), .val (.int (12 : Int32)), .val (.ref s_MID_LETTER), .unset] [(.int (1 : Int32))])) _
      refine XS.goto X139.here hx rfl (pc0 := 167) (pc' := 171) rfl (hb hby at_167) (by decide) (by decide) ?_
      show Steps p.tables e below (T139.setTop (mkF m 171 #[.val (.int p0), .val (.ref b7), .val (.int (12 : Int32)), .val (.ref s_MID_LETTER), .unset] [(.int (1 : Int32))])) _
      refine XS.istore X139.here hx rfl (hb hby at_171) rfl (l' := #[.val (.int p0), .val (.ref b7), .val (.int (12 : Int32)), .val (.ref s_MID_LETTER), .val (.int (1 : Int32))]) rfl ?_
      show Steps p.tables e below (T139.setTop (mkF m 173 #[.val (.int p0), .val (.ref b7), .val (.int (12 : Int32)), .val (.ref s_MID_LETTER), .val (.int (1 : Int32))] [])) _
      refine XS.aloadN X139.here hx rfl (hb hby at_173) rfl rfl ?_
      show Steps p.tables e below (T139.setTop (mkF m 174 #[.val (.int p0), .val (.ref b7), .val (.int (12 : Int32)), .val (.ref s_MID_LETTER), .val (.int (1 : Int32))] [(.ref s_MID_LETTER)])) _
      exact k
    obtain ⟨cq140, kq140, q140a, q140b, q140c⟩ := isOf hZ e139 (E_MID_LETTER.ext O64.2)
    obtain ⟨_, _, ⟨T140, L140, k140, n140⟩, -, X140, ⟨Lc140, hQ140, l140, y140, z140⟩, st140⟩ := X139.virtualBack hx (y := (⟨"com/example/hits_from_terms/hitsfromterms/analysis/WordBreak", "isMidLetter", "()Z"⟩ : MethodName)) (z := (⟨"com/example/hits_from_terms/hitsfromterms/analysis/WordBreak", "isMidLetter", "()Z"⟩ : MethodName)) hown (mvT hZ (hw _ (List.mem_of_getElem? (i := 43) rfl))) (mvT hZ (hw _ (List.mem_of_getElem? (i := 44) rfl))) (notFace_of_selects (args := #[]) (mvT hZ (hw _ (List.mem_of_getElem? (i := 46) rfl)))) (mvT hZ (hw _ (List.mem_of_getElem? (i := 46) rfl))) (mvT hZ (hw _ (List.mem_of_getElem? (i := 45) rfl))) (by decide) (backOf (W := 0) (rm1 l Z a0 hw [] s_OTHER s_CR s_LF s_NEWLINE s_EXTEND s_FORMAT s_ZWJ s_ALETTER s_HEBREW_LETTER s_NUMERIC s_KATAKANA s_EXTEND_NUM_LET s_MID_LETTER s_MID_NUM s_MID_NUM_LET s_SINGLE_QUOTE s_DOUBLE_QUOTE s_REGIONAL_INDICATOR s_WSEG_SPACE HW s_MID_LETTER h64 n0 O64) hZ (hw _ (List.mem_of_getElem? (i := 47) rfl)) (hw _ (List.mem_of_getElem? (i := 3) rfl)) (by decide) (by decide)) q140a q140c (g := (mkF m 174 #[.val (.int p0), .val (.ref b7), .val (.int (12 : Int32)), .val (.ref s_MID_LETTER), .val (.int (1 : Int32))] [(.ref s_MID_LETTER)])) rfl (by rw [hml]; rfl) (Steps.refl _) (argsL := []) (rest := []) (lenOf own_pd13 rfl) rfl (by show 2 * 0 + _ ≤ _; exact Nat.le_of_eq rfl) (hb hby at_174) (fun _ _ => ⟨rfl, e139, (by decide : 1 + 0 ≤ _), (by decide : 19 + 0 ≤ _)⟩)
    dsimp only [Pt.U, Pt.locs, Pt.cells, Pt.slots] at X140 l140 y140 z140 st140 hQ140
    subst l140 y140 z140
    obtain ⟨rfl, N140q, e140⟩ := hQ140
    have N140 := Fr.app N65 N140q
    refine Go.st (V' := T140.setTop (mkF m 177 #[.val (.int p0), .val (.ref b7), .val (.int (12 : Int32)), .val (.ref s_MID_LETTER), .val (.int (1 : Int32))] [(.int (f1 s_MID_LETTER s_MID_NUM_LET s_SINGLE_QUOTE s_MID_LETTER))])) (fun t k => st140.trans k) ?_
    have r141 : (f1 s_MID_LETTER s_MID_NUM_LET s_SINGLE_QUOTE s_MID_LETTER) = (1 : Int32) := by rw [f1, if_pos (rfl : s_MID_LETTER = s_MID_LETTER)]
    rw [r141]
    refine Go.st (V' := T140.setTop (mkF m 187 #[.val (.int p0), .val (.ref b7), .val (.int (12 : Int32)), .val (.ref s_MID_LETTER), .val (.int (1 : Int32))] [(.int (1 : Int32))])) (fun t k => ?_) ?_
    · refine XS.iload X140.here hx rfl (hb hby at_177) rfl  ?_
      show Steps p.tables e below (T140.setTop (mkF m 179 #[.val (.int p0), .val (.ref b7), .val (.int (12 : Int32)), .val (.ref s_MID_LETTER), .val (.int (1 : Int32))] [(.int (1 : Int32)), (.int (1 : Int32))])) _
      refine XS.icmpNo X140.here hx rfl (hb hby at_179) rfl (teq (by decide : ((1 : Int32) = (1 : Int32)))).2 ?_
      show Steps p.tables e below (T140.setTop (mkF m 182 #[.val (.int p0), .val (.ref b7), .val (.int (12 : Int32)), .val (.ref s_MID_LETTER), .val (.int (1 : Int32))] [])) _
      refine XS.iconst X140.here hx rfl (hb hby at_182) ?_
      show Steps p.tables e below (T140.setTop (mkF m 183 #[.val (.int p0), .val (.ref b7), .val (.int (12 : Int32)), .val (.ref s_MID_LETTER), .val (.int (1 : Int32))] [(.int (1 : Int32))])) _
      refine XS.goto X140.here hx rfl (pc0 := 183) (pc' := 187) rfl (hb hby at_183) (by decide) (by decide) ?_
      show Steps p.tables e below (T140.setTop (mkF m 187 #[.val (.int p0), .val (.ref b7), .val (.int (12 : Int32)), .val (.ref s_MID_LETTER), .val (.int (1 : Int32))] [(.int (1 : Int32))])) _
      exact k
    obtain ⟨fs, hr, hrun, hended, hW, hsame⟩ := X140.leave (v := some (.int (1 : Int32))) (fun h => by rw [Bd.returns] at h; cases h)
    refine Go.mk' ⟨_, _, retN X140 hx (t := .boolean) Bd.returns (by simp) (hb hby at_187) hr, hrun, hended, _, _, rfl, ?_, ⟨_, rfl⟩, hW, hsame.mono (by decide) (by decide)⟩
    show Q0 Z p0 h0 n0 _ T140.heap _
    rw [e140]
    exact ⟨rfl, N140⟩
  · show Go p e below _ (T64.setTop (mkF m 141 #[.val (.int p0), .val (.ref b7), .val (.int (13 : Int32)), .unset, .unset] []))
    refine Go.st (V' := T64.setTop (mkF m 143 #[.val (.int p0), .val (.ref b7), .val (.int (13 : Int32)), .unset, .unset] [(.int (13 : Int32)), (.ref b7)])) (fun t k => ?_) ?_
    · refine XS.aloadN X65.here hx rfl (hb hby at_141) rfl rfl ?_
      show Steps p.tables e below (T64.setTop (mkF m 142 #[.val (.int p0), .val (.ref b7), .val (.int (13 : Int32)), .unset, .unset] [(.ref b7)])) _
      refine XS.iloadN X65.here hx rfl (hb hby at_142) rfl  ?_
      show Steps p.tables e below (T64.setTop (mkF m 143 #[.val (.int p0), .val (.ref b7), .val (.int (13 : Int32)), .unset, .unset] [(.int (13 : Int32)), (.ref b7)])) _
      exact k
    obtain ⟨cl142, Ar142, q142, Sz142, Nn142, Ha142, Ga142⟩ := id (V64)
    have hin142 : ¬ ((13 : Int32) < 0 ∨ cl142.slots.size ≤ ((13 : Int32)).toNatClampNeg) := inb_of Sz142 ⟨by decide, by decide⟩
    refine Go.st (V' := T64.setTop (mkF m 146 #[.val (.int p0), .val (.ref b7), .val (.int (13 : Int32)), .val (.ref s_MID_NUM), .unset] [(.ref s_MID_NUM)])) (fun t k => ?_) ?_
    · show Steps p.tables e below (T64.setTop (mkF m 143 #[.val (.int p0), .val (.ref b7), .val (.int (13 : Int32)), .unset, .unset] [(.int (13 : Int32)), (.ref b7)])) _
      refine X65.aaload hx (j := (13 : Int32)) (v := (.ref s_MID_NUM)) (own_eT e64 Ar142) (State.isArrayOf_alike hZ.alike Ar142.2.1) rfl Ar142.2.2 hin142 (Ha142.at hin142 rfl) (g := (mkF m 143 #[.val (.int p0), .val (.ref b7), .val (.int (13 : Int32)), .unset, .unset] [(.int (13 : Int32)), (.ref b7)])) rfl rfl (hb hby at_143) _ ?_
      show Steps p.tables e below (T64.setTop (mkF m 144 #[.val (.int p0), .val (.ref b7), .val (.int (13 : Int32)), .unset, .unset] [(.ref s_MID_NUM)])) _
      refine XS.astoreN X65.here hx rfl (hb hby at_144) rfl rfl (l' := #[.val (.int p0), .val (.ref b7), .val (.int (13 : Int32)), .val (.ref s_MID_NUM), .unset]) rfl ?_
      show Steps p.tables e below (T64.setTop (mkF m 145 #[.val (.int p0), .val (.ref b7), .val (.int (13 : Int32)), .val (.ref s_MID_NUM), .unset] [])) _
      refine XS.aloadN X65.here hx rfl (hb hby at_145) rfl rfl ?_
      show Steps p.tables e below (T64.setTop (mkF m 146 #[.val (.int p0), .val (.ref b7), .val (.int (13 : Int32)), .val (.ref s_MID_NUM), .unset] [(.ref s_MID_NUM)])) _
      exact k
    obtain ⟨T143, X143, e143, st143⟩ := getS2 X65 hx hZ hown (host := "") (Or.inl (hw _ (List.mem_of_getElem? (i := 28) rfl))) Via.refl e64 (S_MID_LETTER.ext O64.2) (g := (mkF m 146 #[.val (.int p0), .val (.ref b7), .val (.int (13 : Int32)), .val (.ref s_MID_NUM), .unset] [(.ref s_MID_NUM)])) rfl (hb hby at_146)
    refine Go.st (V' := T143.setTop (mkF m 149 #[.val (.int p0), .val (.ref b7), .val (.int (13 : Int32)), .val (.ref s_MID_NUM), .unset] [(.ref s_MID_LETTER), (.ref s_MID_NUM)])) (fun t k => st143 t k) ?_
    refine Go.st (V' := T143.setTop (mkF m 153 #[.val (.int p0), .val (.ref b7), .val (.int (13 : Int32)), .val (.ref s_MID_NUM), .unset] [(.ref s_MID_NUM)])) (fun t k => ?_) ?_
    · refine Jvm.RoadKit.acmp (g := (mkF m 149 #[.val (.int p0), .val (.ref b7), .val (.int (13 : Int32)), .val (.ref s_MID_NUM), .unset] [(.ref s_MID_LETTER), (.ref s_MID_NUM)])) X143 hx rfl rfl rfl (pc0 := 149) (pc' := 152) (same := false) rfl (hb hby at_149) rfl (decide_eq_false fun q => (Fld.ne (F_MID_NUM_ordinal.ext O64.2) (F_MID_LETTER_ordinal.ext O64.2) (by decide)) (Value.ref.inj q)) (by decide) (by decide) ?_
      show Steps p.tables e below (T143.setTop (mkF m 152 #[.val (.int p0), .val (.ref b7), .val (.int (13 : Int32)), .val (.ref s_MID_NUM), .unset] [])) _
      refine XS.aloadN X143.here hx rfl (hb hby at_152) rfl rfl ?_
      show Steps p.tables e below (T143.setTop (mkF m 153 #[.val (.int p0), .val (.ref b7), .val (.int (13 : Int32)), .val (.ref s_MID_NUM), .unset] [(.ref s_MID_NUM)])) _
      exact k
    obtain ⟨T144, X144, e144, st144⟩ := getS2 X143 hx hZ hown (host := "") (Or.inl (hw _ (List.mem_of_getElem? (i := 32) rfl))) Via.refl e143 (S_MID_NUM_LET.ext O64.2) (g := (mkF m 153 #[.val (.int p0), .val (.ref b7), .val (.int (13 : Int32)), .val (.ref s_MID_NUM), .unset] [(.ref s_MID_NUM)])) rfl (hb hby at_153)
    refine Go.st (V' := T144.setTop (mkF m 156 #[.val (.int p0), .val (.ref b7), .val (.int (13 : Int32)), .val (.ref s_MID_NUM), .unset] [(.ref s_MID_NUM_LET), (.ref s_MID_NUM)])) (fun t k => st144 t k) ?_
    refine Go.st (V' := T144.setTop (mkF m 160 #[.val (.int p0), .val (.ref b7), .val (.int (13 : Int32)), .val (.ref s_MID_NUM), .unset] [(.ref s_MID_NUM)])) (fun t k => ?_) ?_
    · refine Jvm.RoadKit.acmp (g := (mkF m 156 #[.val (.int p0), .val (.ref b7), .val (.int (13 : Int32)), .val (.ref s_MID_NUM), .unset] [(.ref s_MID_NUM_LET), (.ref s_MID_NUM)])) X144 hx rfl rfl rfl (pc0 := 156) (pc' := 159) (same := false) rfl (hb hby at_156) rfl (decide_eq_false fun q => (Fld.ne (F_MID_NUM_ordinal.ext O64.2) (F_MID_NUM_LET_ordinal.ext O64.2) (by decide)) (Value.ref.inj q)) (by decide) (by decide) ?_
      show Steps p.tables e below (T144.setTop (mkF m 159 #[.val (.int p0), .val (.ref b7), .val (.int (13 : Int32)), .val (.ref s_MID_NUM), .unset] [])) _
      refine XS.aloadN X144.here hx rfl (hb hby at_159) rfl rfl ?_
      show Steps p.tables e below (T144.setTop (mkF m 160 #[.val (.int p0), .val (.ref b7), .val (.int (13 : Int32)), .val (.ref s_MID_NUM), .unset] [(.ref s_MID_NUM)])) _
      exact k
    obtain ⟨T145, X145, e145, st145⟩ := getS2 X144 hx hZ hown (host := "") (Or.inl (hw _ (List.mem_of_getElem? (i := 34) rfl))) Via.refl e144 (S_SINGLE_QUOTE.ext O64.2) (g := (mkF m 160 #[.val (.int p0), .val (.ref b7), .val (.int (13 : Int32)), .val (.ref s_MID_NUM), .unset] [(.ref s_MID_NUM)])) rfl (hb hby at_160)
    refine Go.st (V' := T145.setTop (mkF m 163 #[.val (.int p0), .val (.ref b7), .val (.int (13 : Int32)), .val (.ref s_MID_NUM), .unset] [(.ref s_SINGLE_QUOTE), (.ref s_MID_NUM)])) (fun t k => st145 t k) ?_
    refine Go.st (V' := T145.setTop (mkF m 174 #[.val (.int p0), .val (.ref b7), .val (.int (13 : Int32)), .val (.ref s_MID_NUM), .val (.int (0 : Int32))] [(.ref s_MID_NUM)])) (fun t k => ?_) ?_
    · refine Jvm.RoadKit.acmp (g := (mkF m 163 #[.val (.int p0), .val (.ref b7), .val (.int (13 : Int32)), .val (.ref s_MID_NUM), .unset] [(.ref s_SINGLE_QUOTE), (.ref s_MID_NUM)])) X145 hx rfl rfl rfl (pc0 := 163) (pc' := 170) (same := false) rfl (hb hby at_163) rfl (decide_eq_false fun q => (Fld.ne (F_MID_NUM_ordinal.ext O64.2) (F_SINGLE_QUOTE_ordinal.ext O64.2) (by decide)) (Value.ref.inj q)) (by decide) (by decide) ?_
      show Steps p.tables e below (T145.setTop (mkF m 170 #[.val (.int p0), .val (.ref b7), .val (.int (13 : Int32)), .val (.ref s_MID_NUM), .unset] [])) _
      refine XS.iconst X145.here hx rfl (hb hby at_170) ?_
      show Steps p.tables e below (T145.setTop (mkF m 171 #[.val (.int p0), .val (.ref b7), .val (.int (13 : Int32)), .val (.ref s_MID_NUM), .unset] [(.int (0 : Int32))])) _
      refine XS.istore X145.here hx rfl (hb hby at_171) rfl (l' := #[.val (.int p0), .val (.ref b7), .val (.int (13 : Int32)), .val (.ref s_MID_NUM), .val (.int (0 : Int32))]) rfl ?_
      show Steps p.tables e below (T145.setTop (mkF m 173 #[.val (.int p0), .val (.ref b7), .val (.int (13 : Int32)), .val (.ref s_MID_NUM), .val (.int (0 : Int32))] [])) _
      refine XS.aloadN X145.here hx rfl (hb hby at_173) rfl rfl ?_
      show Steps p.tables e below (T145.setTop (mkF m 174 #[.val (.int p0), .val (.ref b7), .val (.int (13 : Int32)), .val (.ref s_MID_NUM), .val (.int (0 : Int32))] [(.ref s_MID_NUM)])) _
      exact k
    obtain ⟨cq146, kq146, q146a, q146b, q146c⟩ := isOf hZ e145 (E_MID_NUM.ext O64.2)
    obtain ⟨_, _, ⟨T146, L146, k146, n146⟩, -, X146, ⟨Lc146, hQ146, l146, y146, z146⟩, st146⟩ := X145.virtualBack hx (y := (⟨"com/example/hits_from_terms/hitsfromterms/analysis/WordBreak", "isMidLetter", "()Z"⟩ : MethodName)) (z := (⟨"com/example/hits_from_terms/hitsfromterms/analysis/WordBreak", "isMidLetter", "()Z"⟩ : MethodName)) hown (mvT hZ (hw _ (List.mem_of_getElem? (i := 43) rfl))) (mvT hZ (hw _ (List.mem_of_getElem? (i := 44) rfl))) (notFace_of_selects (args := #[]) (mvT hZ (hw _ (List.mem_of_getElem? (i := 46) rfl)))) (mvT hZ (hw _ (List.mem_of_getElem? (i := 46) rfl))) (mvT hZ (hw _ (List.mem_of_getElem? (i := 45) rfl))) (by decide) (backOf (W := 0) (rm1 l Z a0 hw [] s_OTHER s_CR s_LF s_NEWLINE s_EXTEND s_FORMAT s_ZWJ s_ALETTER s_HEBREW_LETTER s_NUMERIC s_KATAKANA s_EXTEND_NUM_LET s_MID_LETTER s_MID_NUM s_MID_NUM_LET s_SINGLE_QUOTE s_DOUBLE_QUOTE s_REGIONAL_INDICATOR s_WSEG_SPACE HW s_MID_NUM h64 n0 O64) hZ (hw _ (List.mem_of_getElem? (i := 47) rfl)) (hw _ (List.mem_of_getElem? (i := 3) rfl)) (by decide) (by decide)) q146a q146c (g := (mkF m 174 #[.val (.int p0), .val (.ref b7), .val (.int (13 : Int32)), .val (.ref s_MID_NUM), .val (.int (0 : Int32))] [(.ref s_MID_NUM)])) rfl (by rw [hml]; rfl) (Steps.refl _) (argsL := []) (rest := []) (lenOf own_pd13 rfl) rfl (by show 2 * 0 + _ ≤ _; exact Nat.le_of_eq rfl) (hb hby at_174) (fun _ _ => ⟨rfl, e145, (by decide : 1 + 0 ≤ _), (by decide : 19 + 0 ≤ _)⟩)
    dsimp only [Pt.U, Pt.locs, Pt.cells, Pt.slots] at X146 l146 y146 z146 st146 hQ146
    subst l146 y146 z146
    obtain ⟨rfl, N146q, e146⟩ := hQ146
    have N146 := Fr.app N65 N146q
    refine Go.st (V' := T146.setTop (mkF m 177 #[.val (.int p0), .val (.ref b7), .val (.int (13 : Int32)), .val (.ref s_MID_NUM), .val (.int (0 : Int32))] [(.int (f1 s_MID_LETTER s_MID_NUM_LET s_SINGLE_QUOTE s_MID_NUM))])) (fun t k => st146.trans k) ?_
    have r147 : (f1 s_MID_LETTER s_MID_NUM_LET s_SINGLE_QUOTE s_MID_NUM) = (0 : Int32) := by rw [f1, if_neg (Fld.ne (F_MID_NUM_ordinal.ext O64.2) (F_MID_LETTER_ordinal.ext O64.2) (by decide)), if_neg (Fld.ne (F_MID_NUM_ordinal.ext O64.2) (F_MID_NUM_LET_ordinal.ext O64.2) (by decide)), if_neg (Fld.ne (F_MID_NUM_ordinal.ext O64.2) (F_SINGLE_QUOTE_ordinal.ext O64.2) (by decide))]
    rw [r147]
    refine Go.st (V' := T146.setTop (mkF m 187 #[.val (.int p0), .val (.ref b7), .val (.int (13 : Int32)), .val (.ref s_MID_NUM), .val (.int (0 : Int32))] [(.int (1 : Int32))])) (fun t k => ?_) ?_
    · refine XS.iload X146.here hx rfl (hb hby at_177) rfl  ?_
      show Steps p.tables e below (T146.setTop (mkF m 179 #[.val (.int p0), .val (.ref b7), .val (.int (13 : Int32)), .val (.ref s_MID_NUM), .val (.int (0 : Int32))] [(.int (0 : Int32)), (.int (0 : Int32))])) _
      refine XS.icmpNo X146.here hx rfl (hb hby at_179) rfl (teq (by decide : ((0 : Int32) = (0 : Int32)))).2 ?_
      show Steps p.tables e below (T146.setTop (mkF m 182 #[.val (.int p0), .val (.ref b7), .val (.int (13 : Int32)), .val (.ref s_MID_NUM), .val (.int (0 : Int32))] [])) _
      refine XS.iconst X146.here hx rfl (hb hby at_182) ?_
      show Steps p.tables e below (T146.setTop (mkF m 183 #[.val (.int p0), .val (.ref b7), .val (.int (13 : Int32)), .val (.ref s_MID_NUM), .val (.int (0 : Int32))] [(.int (1 : Int32))])) _
      refine XS.goto X146.here hx rfl (pc0 := 183) (pc' := 187) rfl (hb hby at_183) (by decide) (by decide) ?_
      show Steps p.tables e below (T146.setTop (mkF m 187 #[.val (.int p0), .val (.ref b7), .val (.int (13 : Int32)), .val (.ref s_MID_NUM), .val (.int (0 : Int32))] [(.int (1 : Int32))])) _
      exact k
    obtain ⟨fs, hr, hrun, hended, hW, hsame⟩ := X146.leave (v := some (.int (1 : Int32))) (fun h => by rw [Bd.returns] at h; cases h)
    refine Go.mk' ⟨_, _, retN X146 hx (t := .boolean) Bd.returns (by simp) (hb hby at_187) hr, hrun, hended, _, _, rfl, ?_, ⟨_, rfl⟩, hW, hsame.mono (by decide) (by decide)⟩
    show Q0 Z p0 h0 n0 _ T146.heap _
    rw [e146]
    exact ⟨rfl, N146⟩
  · show Go p e below _ (T64.setTop (mkF m 141 #[.val (.int p0), .val (.ref b7), .val (.int (14 : Int32)), .unset, .unset] []))
    refine Go.st (V' := T64.setTop (mkF m 143 #[.val (.int p0), .val (.ref b7), .val (.int (14 : Int32)), .unset, .unset] [(.int (14 : Int32)), (.ref b7)])) (fun t k => ?_) ?_
    · refine XS.aloadN X65.here hx rfl (hb hby at_141) rfl rfl ?_
      show Steps p.tables e below (T64.setTop (mkF m 142 #[.val (.int p0), .val (.ref b7), .val (.int (14 : Int32)), .unset, .unset] [(.ref b7)])) _
      refine XS.iloadN X65.here hx rfl (hb hby at_142) rfl  ?_
      show Steps p.tables e below (T64.setTop (mkF m 143 #[.val (.int p0), .val (.ref b7), .val (.int (14 : Int32)), .unset, .unset] [(.int (14 : Int32)), (.ref b7)])) _
      exact k
    obtain ⟨cl148, Ar148, q148, Sz148, Nn148, Ha148, Ga148⟩ := id (V64)
    have hin148 : ¬ ((14 : Int32) < 0 ∨ cl148.slots.size ≤ ((14 : Int32)).toNatClampNeg) := inb_of Sz148 ⟨by decide, by decide⟩
    refine Go.st (V' := T64.setTop (mkF m 146 #[.val (.int p0), .val (.ref b7), .val (.int (14 : Int32)), .val (.ref s_MID_NUM_LET), .unset] [(.ref s_MID_NUM_LET)])) (fun t k => ?_) ?_
    · show Steps p.tables e below (T64.setTop (mkF m 143 #[.val (.int p0), .val (.ref b7), .val (.int (14 : Int32)), .unset, .unset] [(.int (14 : Int32)), (.ref b7)])) _
      refine X65.aaload hx (j := (14 : Int32)) (v := (.ref s_MID_NUM_LET)) (own_eT e64 Ar148) (State.isArrayOf_alike hZ.alike Ar148.2.1) rfl Ar148.2.2 hin148 (Ha148.at hin148 rfl) (g := (mkF m 143 #[.val (.int p0), .val (.ref b7), .val (.int (14 : Int32)), .unset, .unset] [(.int (14 : Int32)), (.ref b7)])) rfl rfl (hb hby at_143) _ ?_
      show Steps p.tables e below (T64.setTop (mkF m 144 #[.val (.int p0), .val (.ref b7), .val (.int (14 : Int32)), .unset, .unset] [(.ref s_MID_NUM_LET)])) _
      refine XS.astoreN X65.here hx rfl (hb hby at_144) rfl rfl (l' := #[.val (.int p0), .val (.ref b7), .val (.int (14 : Int32)), .val (.ref s_MID_NUM_LET), .unset]) rfl ?_
      show Steps p.tables e below (T64.setTop (mkF m 145 #[.val (.int p0), .val (.ref b7), .val (.int (14 : Int32)), .val (.ref s_MID_NUM_LET), .unset] [])) _
      refine XS.aloadN X65.here hx rfl (hb hby at_145) rfl rfl ?_
      show Steps p.tables e below (T64.setTop (mkF m 146 #[.val (.int p0), .val (.ref b7), .val (.int (14 : Int32)), .val (.ref s_MID_NUM_LET), .unset] [(.ref s_MID_NUM_LET)])) _
      exact k
    obtain ⟨T149, X149, e149, st149⟩ := getS2 X65 hx hZ hown (host := "") (Or.inl (hw _ (List.mem_of_getElem? (i := 28) rfl))) Via.refl e64 (S_MID_LETTER.ext O64.2) (g := (mkF m 146 #[.val (.int p0), .val (.ref b7), .val (.int (14 : Int32)), .val (.ref s_MID_NUM_LET), .unset] [(.ref s_MID_NUM_LET)])) rfl (hb hby at_146)
    refine Go.st (V' := T149.setTop (mkF m 149 #[.val (.int p0), .val (.ref b7), .val (.int (14 : Int32)), .val (.ref s_MID_NUM_LET), .unset] [(.ref s_MID_LETTER), (.ref s_MID_NUM_LET)])) (fun t k => st149 t k) ?_
    refine Go.st (V' := T149.setTop (mkF m 153 #[.val (.int p0), .val (.ref b7), .val (.int (14 : Int32)), .val (.ref s_MID_NUM_LET), .unset] [(.ref s_MID_NUM_LET)])) (fun t k => ?_) ?_
    · refine Jvm.RoadKit.acmp (g := (mkF m 149 #[.val (.int p0), .val (.ref b7), .val (.int (14 : Int32)), .val (.ref s_MID_NUM_LET), .unset] [(.ref s_MID_LETTER), (.ref s_MID_NUM_LET)])) X149 hx rfl rfl rfl (pc0 := 149) (pc' := 152) (same := false) rfl (hb hby at_149) rfl (decide_eq_false fun q => (Fld.ne (F_MID_NUM_LET_ordinal.ext O64.2) (F_MID_LETTER_ordinal.ext O64.2) (by decide)) (Value.ref.inj q)) (by decide) (by decide) ?_
      show Steps p.tables e below (T149.setTop (mkF m 152 #[.val (.int p0), .val (.ref b7), .val (.int (14 : Int32)), .val (.ref s_MID_NUM_LET), .unset] [])) _
      refine XS.aloadN X149.here hx rfl (hb hby at_152) rfl rfl ?_
      show Steps p.tables e below (T149.setTop (mkF m 153 #[.val (.int p0), .val (.ref b7), .val (.int (14 : Int32)), .val (.ref s_MID_NUM_LET), .unset] [(.ref s_MID_NUM_LET)])) _
      exact k
    obtain ⟨T150, X150, e150, st150⟩ := getS2 X149 hx hZ hown (host := "") (Or.inl (hw _ (List.mem_of_getElem? (i := 32) rfl))) Via.refl e149 (S_MID_NUM_LET.ext O64.2) (g := (mkF m 153 #[.val (.int p0), .val (.ref b7), .val (.int (14 : Int32)), .val (.ref s_MID_NUM_LET), .unset] [(.ref s_MID_NUM_LET)])) rfl (hb hby at_153)
    refine Go.st (V' := T150.setTop (mkF m 156 #[.val (.int p0), .val (.ref b7), .val (.int (14 : Int32)), .val (.ref s_MID_NUM_LET), .unset] [(.ref s_MID_NUM_LET), (.ref s_MID_NUM_LET)])) (fun t k => st150 t k) ?_
    refine Go.st (V' := T150.setTop (mkF m 174 #[.val (.int p0), .val (.ref b7), .val (.int (14 : Int32)), .val (.ref s_MID_NUM_LET), .val (.int (1 : Int32))] [(.ref s_MID_NUM_LET)])) (fun t k => ?_) ?_
    · refine Jvm.RoadKit.acmp (g := (mkF m 156 #[.val (.int p0), .val (.ref b7), .val (.int (14 : Int32)), .val (.ref s_MID_NUM_LET), .unset] [(.ref s_MID_NUM_LET), (.ref s_MID_NUM_LET)])) X150 hx rfl rfl rfl (pc0 := 156) (pc' := 166) (same := true) rfl (hb hby at_156) rfl (decide_eq_true (congrArg Value.ref rfl)) (by decide) (by decide) ?_
      show Steps p.tables e below (T150.setTop (mkF m 166 #[.val (.int p0), .val (.ref b7), .val (.int (14 : Int32)), .val (.ref s_MID_NUM_LET), .unset] [])) _
      refine XS.iconst X150.here hx rfl (hb hby at_166) ?_
      show Steps p.tables e below (T150.setTop (mkF m 167 #[.val (.int p0), .val (.ref b7), .val (.int (14 : Int32)), .val (.ref s_MID_NUM_LET), .unset] [(.int (1 : Int32))])) _
      refine XS.goto X150.here hx rfl (pc0 := 167) (pc' := 171) rfl (hb hby at_167) (by decide) (by decide) ?_
      show Steps p.tables e below (T150.setTop (mkF m 171 #[.val (.int p0), .val (.ref b7), .val (.int (14 : Int32)), .val (.ref s_MID_NUM_LET), .unset] [(.int (1 : Int32))])) _
      refine XS.istore X150.here hx rfl (hb hby at_171) rfl (l' := #[.val (.int p0), .val (.ref b7), .val (.int (14 : Int32)), .val (.ref s_MID_NUM_LET), .val (.int (1 : Int32))]) rfl ?_
      show Steps p.tables e below (T150.setTop (mkF m 173 #[.val (.int p0), .val (.ref b7), .val (.int (14 : Int32)), .val (.ref s_MID_NUM_LET), .val (.int (1 : Int32))] [])) _
      refine XS.aloadN X150.here hx rfl (hb hby at_173) rfl rfl ?_
      show Steps p.tables e below (T150.setTop (mkF m 174 #[.val (.int p0), .val (.ref b7), .val (.int (14 : Int32)), .val (.ref s_MID_NUM_LET), .val (.int (1 : Int32))] [(.ref s_MID_NUM_LET)])) _
      exact k
    obtain ⟨cq151, kq151, q151a, q151b, q151c⟩ := isOf hZ e150 (E_MID_NUM_LET.ext O64.2)
    obtain ⟨_, _, ⟨T151, L151, k151, n151⟩, -, X151, ⟨Lc151, hQ151, l151, y151, z151⟩, st151⟩ := X150.virtualBack hx (y := (⟨"com/example/hits_from_terms/hitsfromterms/analysis/WordBreak", "isMidLetter", "()Z"⟩ : MethodName)) (z := (⟨"com/example/hits_from_terms/hitsfromterms/analysis/WordBreak", "isMidLetter", "()Z"⟩ : MethodName)) hown (mvT hZ (hw _ (List.mem_of_getElem? (i := 43) rfl))) (mvT hZ (hw _ (List.mem_of_getElem? (i := 44) rfl))) (notFace_of_selects (args := #[]) (mvT hZ (hw _ (List.mem_of_getElem? (i := 46) rfl)))) (mvT hZ (hw _ (List.mem_of_getElem? (i := 46) rfl))) (mvT hZ (hw _ (List.mem_of_getElem? (i := 45) rfl))) (by decide) (backOf (W := 0) (rm1 l Z a0 hw [] s_OTHER s_CR s_LF s_NEWLINE s_EXTEND s_FORMAT s_ZWJ s_ALETTER s_HEBREW_LETTER s_NUMERIC s_KATAKANA s_EXTEND_NUM_LET s_MID_LETTER s_MID_NUM s_MID_NUM_LET s_SINGLE_QUOTE s_DOUBLE_QUOTE s_REGIONAL_INDICATOR s_WSEG_SPACE HW s_MID_NUM_LET h64 n0 O64) hZ (hw _ (List.mem_of_getElem? (i := 47) rfl)) (hw _ (List.mem_of_getElem? (i := 3) rfl)) (by decide) (by decide)) q151a q151c (g := (mkF m 174 #[.val (.int p0), .val (.ref b7), .val (.int (14 : Int32)), .val (.ref s_MID_NUM_LET), .val (.int (1 : Int32))] [(.ref s_MID_NUM_LET)])) rfl (by rw [hml]; rfl) (Steps.refl _) (argsL := []) (rest := []) (lenOf own_pd13 rfl) rfl (by show 2 * 0 + _ ≤ _; exact Nat.le_of_eq rfl) (hb hby at_174) (fun _ _ => ⟨rfl, e150, (by decide : 1 + 0 ≤ _), (by decide : 19 + 0 ≤ _)⟩)
    dsimp only [Pt.U, Pt.locs, Pt.cells, Pt.slots] at X151 l151 y151 z151 st151 hQ151
    subst l151 y151 z151
    obtain ⟨rfl, N151q, e151⟩ := hQ151
    have N151 := Fr.app N65 N151q
    refine Go.st (V' := T151.setTop (mkF m 177 #[.val (.int p0), .val (.ref b7), .val (.int (14 : Int32)), .val (.ref s_MID_NUM_LET), .val (.int (1 : Int32))] [(.int (f1 s_MID_LETTER s_MID_NUM_LET s_SINGLE_QUOTE s_MID_NUM_LET))])) (fun t k => st151.trans k) ?_
    have r152 : (f1 s_MID_LETTER s_MID_NUM_LET s_SINGLE_QUOTE s_MID_NUM_LET) = (1 : Int32) := by rw [f1, if_neg (Fld.ne (F_MID_NUM_LET_ordinal.ext O64.2) (F_MID_LETTER_ordinal.ext O64.2) (by decide)), if_pos (rfl : s_MID_NUM_LET = s_MID_NUM_LET)]
    rw [r152]
    refine Go.st (V' := T151.setTop (mkF m 187 #[.val (.int p0), .val (.ref b7), .val (.int (14 : Int32)), .val (.ref s_MID_NUM_LET), .val (.int (1 : Int32))] [(.int (1 : Int32))])) (fun t k => ?_) ?_
    · refine XS.iload X151.here hx rfl (hb hby at_177) rfl  ?_
      show Steps p.tables e below (T151.setTop (mkF m 179 #[.val (.int p0), .val (.ref b7), .val (.int (14 : Int32)), .val (.ref s_MID_NUM_LET), .val (.int (1 : Int32))] [(.int (1 : Int32)), (.int (1 : Int32))])) _
      refine XS.icmpNo X151.here hx rfl (hb hby at_179) rfl (teq (by decide : ((1 : Int32) = (1 : Int32)))).2 ?_
      show Steps p.tables e below (T151.setTop (mkF m 182 #[.val (.int p0), .val (.ref b7), .val (.int (14 : Int32)), .val (.ref s_MID_NUM_LET), .val (.int (1 : Int32))] [])) _
      refine XS.iconst X151.here hx rfl (hb hby at_182) ?_
      show Steps p.tables e below (T151.setTop (mkF m 183 #[.val (.int p0), .val (.ref b7), .val (.int (14 : Int32)), .val (.ref s_MID_NUM_LET), .val (.int (1 : Int32))] [(.int (1 : Int32))])) _
      refine XS.goto X151.here hx rfl (pc0 := 183) (pc' := 187) rfl (hb hby at_183) (by decide) (by decide) ?_
      show Steps p.tables e below (T151.setTop (mkF m 187 #[.val (.int p0), .val (.ref b7), .val (.int (14 : Int32)), .val (.ref s_MID_NUM_LET), .val (.int (1 : Int32))] [(.int (1 : Int32))])) _
      exact k
    obtain ⟨fs, hr, hrun, hended, hW, hsame⟩ := X151.leave (v := some (.int (1 : Int32))) (fun h => by rw [Bd.returns] at h; cases h)
    refine Go.mk' ⟨_, _, retN X151 hx (t := .boolean) Bd.returns (by simp) (hb hby at_187) hr, hrun, hended, _, _, rfl, ?_, ⟨_, rfl⟩, hW, hsame.mono (by decide) (by decide)⟩
    show Q0 Z p0 h0 n0 _ T151.heap _
    rw [e151]
    exact ⟨rfl, N151⟩
  · show Go p e below _ (T64.setTop (mkF m 141 #[.val (.int p0), .val (.ref b7), .val (.int (15 : Int32)), .unset, .unset] []))
    refine Go.st (V' := T64.setTop (mkF m 143 #[.val (.int p0), .val (.ref b7), .val (.int (15 : Int32)), .unset, .unset] [(.int (15 : Int32)), (.ref b7)])) (fun t k => ?_) ?_
    · refine XS.aloadN X65.here hx rfl (hb hby at_141) rfl rfl ?_
      show Steps p.tables e below (T64.setTop (mkF m 142 #[.val (.int p0), .val (.ref b7), .val (.int (15 : Int32)), .unset, .unset] [(.ref b7)])) _
      refine XS.iloadN X65.here hx rfl (hb hby at_142) rfl  ?_
      show Steps p.tables e below (T64.setTop (mkF m 143 #[.val (.int p0), .val (.ref b7), .val (.int (15 : Int32)), .unset, .unset] [(.int (15 : Int32)), (.ref b7)])) _
      exact k
    obtain ⟨cl153, Ar153, q153, Sz153, Nn153, Ha153, Ga153⟩ := id (V64)
    have hin153 : ¬ ((15 : Int32) < 0 ∨ cl153.slots.size ≤ ((15 : Int32)).toNatClampNeg) := inb_of Sz153 ⟨by decide, by decide⟩
    refine Go.st (V' := T64.setTop (mkF m 146 #[.val (.int p0), .val (.ref b7), .val (.int (15 : Int32)), .val (.ref s_SINGLE_QUOTE), .unset] [(.ref s_SINGLE_QUOTE)])) (fun t k => ?_) ?_
    · show Steps p.tables e below (T64.setTop (mkF m 143 #[.val (.int p0), .val (.ref b7), .val (.int (15 : Int32)), .unset, .unset] [(.int (15 : Int32)), (.ref b7)])) _
      refine X65.aaload hx (j := (15 : Int32)) (v := (.ref s_SINGLE_QUOTE)) (own_eT e64 Ar153) (State.isArrayOf_alike hZ.alike Ar153.2.1) rfl Ar153.2.2 hin153 (Ha153.at hin153 rfl) (g := (mkF m 143 #[.val (.int p0), .val (.ref b7), .val (.int (15 : Int32)), .unset, .unset] [(.int (15 : Int32)), (.ref b7)])) rfl rfl (hb hby at_143) _ ?_
      show Steps p.tables e below (T64.setTop (mkF m 144 #[.val (.int p0), .val (.ref b7), .val (.int (15 : Int32)), .unset, .unset] [(.ref s_SINGLE_QUOTE)])) _
      refine XS.astoreN X65.here hx rfl (hb hby at_144) rfl rfl (l' := #[.val (.int p0), .val (.ref b7), .val (.int (15 : Int32)), .val (.ref s_SINGLE_QUOTE), .unset]) rfl ?_
      show Steps p.tables e below (T64.setTop (mkF m 145 #[.val (.int p0), .val (.ref b7), .val (.int (15 : Int32)), .val (.ref s_SINGLE_QUOTE), .unset] [])) _
      refine XS.aloadN X65.here hx rfl (hb hby at_145) rfl rfl ?_
      show Steps p.tables e below (T64.setTop (mkF m 146 #[.val (.int p0), .val (.ref b7), .val (.int (15 : Int32)), .val (.ref s_SINGLE_QUOTE), .unset] [(.ref s_SINGLE_QUOTE)])) _
      exact k
    obtain ⟨T154, X154, e154, st154⟩ := getS2 X65 hx hZ hown (host := "") (Or.inl (hw _ (List.mem_of_getElem? (i := 28) rfl))) Via.refl e64 (S_MID_LETTER.ext O64.2) (g := (mkF m 146 #[.val (.int p0), .val (.ref b7), .val (.int (15 : Int32)), .val (.ref s_SINGLE_QUOTE), .unset] [(.ref s_SINGLE_QUOTE)])) rfl (hb hby at_146)
    refine Go.st (V' := T154.setTop (mkF m 149 #[.val (.int p0), .val (.ref b7), .val (.int (15 : Int32)), .val (.ref s_SINGLE_QUOTE), .unset] [(.ref s_MID_LETTER), (.ref s_SINGLE_QUOTE)])) (fun t k => st154 t k) ?_
    refine Go.st (V' := T154.setTop (mkF m 153 #[.val (.int p0), .val (.ref b7), .val (.int (15 : Int32)), .val (.ref s_SINGLE_QUOTE), .unset] [(.ref s_SINGLE_QUOTE)])) (fun t k => ?_) ?_
    · refine Jvm.RoadKit.acmp (g := (mkF m 149 #[.val (.int p0), .val (.ref b7), .val (.int (15 : Int32)), .val (.ref s_SINGLE_QUOTE), .unset] [(.ref s_MID_LETTER), (.ref s_SINGLE_QUOTE)])) X154 hx rfl rfl rfl (pc0 := 149) (pc' := 152) (same := false) rfl (hb hby at_149) rfl (decide_eq_false fun q => (Fld.ne (F_SINGLE_QUOTE_ordinal.ext O64.2) (F_MID_LETTER_ordinal.ext O64.2) (by decide)) (Value.ref.inj q)) (by decide) (by decide) ?_
      show Steps p.tables e below (T154.setTop (mkF m 152 #[.val (.int p0), .val (.ref b7), .val (.int (15 : Int32)), .val (.ref s_SINGLE_QUOTE), .unset] [])) _
      refine XS.aloadN X154.here hx rfl (hb hby at_152) rfl rfl ?_
      show Steps p.tables e below (T154.setTop (mkF m 153 #[.val (.int p0), .val (.ref b7), .val (.int (15 : Int32)), .val (.ref s_SINGLE_QUOTE), .unset] [(.ref s_SINGLE_QUOTE)])) _
      exact k
    obtain ⟨T155, X155, e155, st155⟩ := getS2 X154 hx hZ hown (host := "") (Or.inl (hw _ (List.mem_of_getElem? (i := 32) rfl))) Via.refl e154 (S_MID_NUM_LET.ext O64.2) (g := (mkF m 153 #[.val (.int p0), .val (.ref b7), .val (.int (15 : Int32)), .val (.ref s_SINGLE_QUOTE), .unset] [(.ref s_SINGLE_QUOTE)])) rfl (hb hby at_153)
    refine Go.st (V' := T155.setTop (mkF m 156 #[.val (.int p0), .val (.ref b7), .val (.int (15 : Int32)), .val (.ref s_SINGLE_QUOTE), .unset] [(.ref s_MID_NUM_LET), (.ref s_SINGLE_QUOTE)])) (fun t k => st155 t k) ?_
    refine Go.st (V' := T155.setTop (mkF m 160 #[.val (.int p0), .val (.ref b7), .val (.int (15 : Int32)), .val (.ref s_SINGLE_QUOTE), .unset] [(.ref s_SINGLE_QUOTE)])) (fun t k => ?_) ?_
    · refine Jvm.RoadKit.acmp (g := (mkF m 156 #[.val (.int p0), .val (.ref b7), .val (.int (15 : Int32)), .val (.ref s_SINGLE_QUOTE), .unset] [(.ref s_MID_NUM_LET), (.ref s_SINGLE_QUOTE)])) X155 hx rfl rfl rfl (pc0 := 156) (pc' := 159) (same := false) rfl (hb hby at_156) rfl (decide_eq_false fun q => (Fld.ne (F_SINGLE_QUOTE_ordinal.ext O64.2) (F_MID_NUM_LET_ordinal.ext O64.2) (by decide)) (Value.ref.inj q)) (by decide) (by decide) ?_
      show Steps p.tables e below (T155.setTop (mkF m 159 #[.val (.int p0), .val (.ref b7), .val (.int (15 : Int32)), .val (.ref s_SINGLE_QUOTE), .unset] [])) _
      refine XS.aloadN X155.here hx rfl (hb hby at_159) rfl rfl ?_
      show Steps p.tables e below (T155.setTop (mkF m 160 #[.val (.int p0), .val (.ref b7), .val (.int (15 : Int32)), .val (.ref s_SINGLE_QUOTE), .unset] [(.ref s_SINGLE_QUOTE)])) _
      exact k
    obtain ⟨T156, X156, e156, st156⟩ := getS2 X155 hx hZ hown (host := "") (Or.inl (hw _ (List.mem_of_getElem? (i := 34) rfl))) Via.refl e155 (S_SINGLE_QUOTE.ext O64.2) (g := (mkF m 160 #[.val (.int p0), .val (.ref b7), .val (.int (15 : Int32)), .val (.ref s_SINGLE_QUOTE), .unset] [(.ref s_SINGLE_QUOTE)])) rfl (hb hby at_160)
    refine Go.st (V' := T156.setTop (mkF m 163 #[.val (.int p0), .val (.ref b7), .val (.int (15 : Int32)), .val (.ref s_SINGLE_QUOTE), .unset] [(.ref s_SINGLE_QUOTE), (.ref s_SINGLE_QUOTE)])) (fun t k => st156 t k) ?_
    refine Go.st (V' := T156.setTop (mkF m 174 #[.val (.int p0), .val (.ref b7), .val (.int (15 : Int32)), .val (.ref s_SINGLE_QUOTE), .val (.int (1 : Int32))] [(.ref s_SINGLE_QUOTE)])) (fun t k => ?_) ?_
    · refine Jvm.RoadKit.acmp (g := (mkF m 163 #[.val (.int p0), .val (.ref b7), .val (.int (15 : Int32)), .val (.ref s_SINGLE_QUOTE), .unset] [(.ref s_SINGLE_QUOTE), (.ref s_SINGLE_QUOTE)])) X156 hx rfl rfl rfl (pc0 := 163) (pc' := 166) (same := true) rfl (hb hby at_163) rfl (decide_eq_true (congrArg Value.ref rfl)) (by decide) (by decide) ?_
      show Steps p.tables e below (T156.setTop (mkF m 166 #[.val (.int p0), .val (.ref b7), .val (.int (15 : Int32)), .val (.ref s_SINGLE_QUOTE), .unset] [])) _
      refine XS.iconst X156.here hx rfl (hb hby at_166) ?_
      show Steps p.tables e below (T156.setTop (mkF m 167 #[.val (.int p0), .val (.ref b7), .val (.int (15 : Int32)), .val (.ref s_SINGLE_QUOTE), .unset] [(.int (1 : Int32))])) _
      refine XS.goto X156.here hx rfl (pc0 := 167) (pc' := 171) rfl (hb hby at_167) (by decide) (by decide) ?_
      show Steps p.tables e below (T156.setTop (mkF m 171 #[.val (.int p0), .val (.ref b7), .val (.int (15 : Int32)), .val (.ref s_SINGLE_QUOTE), .unset] [(.int (1 : Int32))])) _
      refine XS.istore X156.here hx rfl (hb hby at_171) rfl (l' := #[.val (.int p0), .val (.ref b7), .val (.int (15 : Int32)), .val (.ref s_SINGLE_QUOTE), .val (.int (1 : Int32))]) rfl ?_
      show Steps p.tables e below (T156.setTop (mkF m 173 #[.val (.int p0), .val (.ref b7), .val (.int (15 : Int32)), .val (.ref s_SINGLE_QUOTE), .val (.int (1 : Int32))] [])) _
      refine XS.aloadN X156.here hx rfl (hb hby at_173) rfl rfl ?_
      show Steps p.tables e below (T156.setTop (mkF m 174 #[.val (.int p0), .val (.ref b7), .val (.int (15 : Int32)), .val (.ref s_SINGLE_QUOTE), .val (.int (1 : Int32))] [(.ref s_SINGLE_QUOTE)])) _
      exact k
    obtain ⟨cq157, kq157, q157a, q157b, q157c⟩ := isOf hZ e156 (E_SINGLE_QUOTE.ext O64.2)
    obtain ⟨_, _, ⟨T157, L157, k157, n157⟩, -, X157, ⟨Lc157, hQ157, l157, y157, z157⟩, st157⟩ := X156.virtualBack hx (y := (⟨"com/example/hits_from_terms/hitsfromterms/analysis/WordBreak", "isMidLetter", "()Z"⟩ : MethodName)) (z := (⟨"com/example/hits_from_terms/hitsfromterms/analysis/WordBreak", "isMidLetter", "()Z"⟩ : MethodName)) hown (mvT hZ (hw _ (List.mem_of_getElem? (i := 43) rfl))) (mvT hZ (hw _ (List.mem_of_getElem? (i := 44) rfl))) (notFace_of_selects (args := #[]) (mvT hZ (hw _ (List.mem_of_getElem? (i := 46) rfl)))) (mvT hZ (hw _ (List.mem_of_getElem? (i := 46) rfl))) (mvT hZ (hw _ (List.mem_of_getElem? (i := 45) rfl))) (by decide) (backOf (W := 0) (rm1 l Z a0 hw [] s_OTHER s_CR s_LF s_NEWLINE s_EXTEND s_FORMAT s_ZWJ s_ALETTER s_HEBREW_LETTER s_NUMERIC s_KATAKANA s_EXTEND_NUM_LET s_MID_LETTER s_MID_NUM s_MID_NUM_LET s_SINGLE_QUOTE s_DOUBLE_QUOTE s_REGIONAL_INDICATOR s_WSEG_SPACE HW s_SINGLE_QUOTE h64 n0 O64) hZ (hw _ (List.mem_of_getElem? (i := 47) rfl)) (hw _ (List.mem_of_getElem? (i := 3) rfl)) (by decide) (by decide)) q157a q157c (g := (mkF m 174 #[.val (.int p0), .val (.ref b7), .val (.int (15 : Int32)), .val (.ref s_SINGLE_QUOTE), .val (.int (1 : Int32))] [(.ref s_SINGLE_QUOTE)])) rfl (by rw [hml]; rfl) (Steps.refl _) (argsL := []) (rest := []) (lenOf own_pd13 rfl) rfl (by show 2 * 0 + _ ≤ _; exact Nat.le_of_eq rfl) (hb hby at_174) (fun _ _ => ⟨rfl, e156, (by decide : 1 + 0 ≤ _), (by decide : 19 + 0 ≤ _)⟩)
    dsimp only [Pt.U, Pt.locs, Pt.cells, Pt.slots] at X157 l157 y157 z157 st157 hQ157
    subst l157 y157 z157
    obtain ⟨rfl, N157q, e157⟩ := hQ157
    have N157 := Fr.app N65 N157q
    refine Go.st (V' := T157.setTop (mkF m 177 #[.val (.int p0), .val (.ref b7), .val (.int (15 : Int32)), .val (.ref s_SINGLE_QUOTE), .val (.int (1 : Int32))] [(.int (f1 s_MID_LETTER s_MID_NUM_LET s_SINGLE_QUOTE s_SINGLE_QUOTE))])) (fun t k => st157.trans k) ?_
    have r158 : (f1 s_MID_LETTER s_MID_NUM_LET s_SINGLE_QUOTE s_SINGLE_QUOTE) = (1 : Int32) := by rw [f1, if_neg (Fld.ne (F_SINGLE_QUOTE_ordinal.ext O64.2) (F_MID_LETTER_ordinal.ext O64.2) (by decide)), if_neg (Fld.ne (F_SINGLE_QUOTE_ordinal.ext O64.2) (F_MID_NUM_LET_ordinal.ext O64.2) (by decide)), if_pos (rfl : s_SINGLE_QUOTE = s_SINGLE_QUOTE)]
    rw [r158]
    refine Go.st (V' := T157.setTop (mkF m 187 #[.val (.int p0), .val (.ref b7), .val (.int (15 : Int32)), .val (.ref s_SINGLE_QUOTE), .val (.int (1 : Int32))] [(.int (1 : Int32))])) (fun t k => ?_) ?_
    · refine XS.iload X157.here hx rfl (hb hby at_177) rfl  ?_
      show Steps p.tables e below (T157.setTop (mkF m 179 #[.val (.int p0), .val (.ref b7), .val (.int (15 : Int32)), .val (.ref s_SINGLE_QUOTE), .val (.int (1 : Int32))] [(.int (1 : Int32)), (.int (1 : Int32))])) _
      refine XS.icmpNo X157.here hx rfl (hb hby at_179) rfl (teq (by decide : ((1 : Int32) = (1 : Int32)))).2 ?_
      show Steps p.tables e below (T157.setTop (mkF m 182 #[.val (.int p0), .val (.ref b7), .val (.int (15 : Int32)), .val (.ref s_SINGLE_QUOTE), .val (.int (1 : Int32))] [])) _
      refine XS.iconst X157.here hx rfl (hb hby at_182) ?_
      show Steps p.tables e below (T157.setTop (mkF m 183 #[.val (.int p0), .val (.ref b7), .val (.int (15 : Int32)), .val (.ref s_SINGLE_QUOTE), .val (.int (1 : Int32))] [(.int (1 : Int32))])) _
      refine XS.goto X157.here hx rfl (pc0 := 183) (pc' := 187) rfl (hb hby at_183) (by decide) (by decide) ?_
      show Steps p.tables e below (T157.setTop (mkF m 187 #[.val (.int p0), .val (.ref b7), .val (.int (15 : Int32)), .val (.ref s_SINGLE_QUOTE), .val (.int (1 : Int32))] [(.int (1 : Int32))])) _
      exact k
    obtain ⟨fs, hr, hrun, hended, hW, hsame⟩ := X157.leave (v := some (.int (1 : Int32))) (fun h => by rw [Bd.returns] at h; cases h)
    refine Go.mk' ⟨_, _, retN X157 hx (t := .boolean) Bd.returns (by simp) (hb hby at_187) hr, hrun, hended, _, _, rfl, ?_, ⟨_, rfl⟩, hW, hsame.mono (by decide) (by decide)⟩
    show Q0 Z p0 h0 n0 _ T157.heap _
    rw [e157]
    exact ⟨rfl, N157⟩
  · show Go p e below _ (T64.setTop (mkF m 141 #[.val (.int p0), .val (.ref b7), .val (.int (16 : Int32)), .unset, .unset] []))
    refine Go.st (V' := T64.setTop (mkF m 143 #[.val (.int p0), .val (.ref b7), .val (.int (16 : Int32)), .unset, .unset] [(.int (16 : Int32)), (.ref b7)])) (fun t k => ?_) ?_
    · refine XS.aloadN X65.here hx rfl (hb hby at_141) rfl rfl ?_
      show Steps p.tables e below (T64.setTop (mkF m 142 #[.val (.int p0), .val (.ref b7), .val (.int (16 : Int32)), .unset, .unset] [(.ref b7)])) _
      refine XS.iloadN X65.here hx rfl (hb hby at_142) rfl  ?_
      show Steps p.tables e below (T64.setTop (mkF m 143 #[.val (.int p0), .val (.ref b7), .val (.int (16 : Int32)), .unset, .unset] [(.int (16 : Int32)), (.ref b7)])) _
      exact k
    obtain ⟨cl159, Ar159, q159, Sz159, Nn159, Ha159, Ga159⟩ := id (V64)
    have hin159 : ¬ ((16 : Int32) < 0 ∨ cl159.slots.size ≤ ((16 : Int32)).toNatClampNeg) := inb_of Sz159 ⟨by decide, by decide⟩
    refine Go.st (V' := T64.setTop (mkF m 146 #[.val (.int p0), .val (.ref b7), .val (.int (16 : Int32)), .val (.ref s_DOUBLE_QUOTE), .unset] [(.ref s_DOUBLE_QUOTE)])) (fun t k => ?_) ?_
    · show Steps p.tables e below (T64.setTop (mkF m 143 #[.val (.int p0), .val (.ref b7), .val (.int (16 : Int32)), .unset, .unset] [(.int (16 : Int32)), (.ref b7)])) _
      refine X65.aaload hx (j := (16 : Int32)) (v := (.ref s_DOUBLE_QUOTE)) (own_eT e64 Ar159) (State.isArrayOf_alike hZ.alike Ar159.2.1) rfl Ar159.2.2 hin159 (Ha159.at hin159 rfl) (g := (mkF m 143 #[.val (.int p0), .val (.ref b7), .val (.int (16 : Int32)), .unset, .unset] [(.int (16 : Int32)), (.ref b7)])) rfl rfl (hb hby at_143) _ ?_
      show Steps p.tables e below (T64.setTop (mkF m 144 #[.val (.int p0), .val (.ref b7), .val (.int (16 : Int32)), .unset, .unset] [(.ref s_DOUBLE_QUOTE)])) _
      refine XS.astoreN X65.here hx rfl (hb hby at_144) rfl rfl (l' := #[.val (.int p0), .val (.ref b7), .val (.int (16 : Int32)), .val (.ref s_DOUBLE_QUOTE), .unset]) rfl ?_
      show Steps p.tables e below (T64.setTop (mkF m 145 #[.val (.int p0), .val (.ref b7), .val (.int (16 : Int32)), .val (.ref s_DOUBLE_QUOTE), .unset] [])) _
      refine XS.aloadN X65.here hx rfl (hb hby at_145) rfl rfl ?_
      show Steps p.tables e below (T64.setTop (mkF m 146 #[.val (.int p0), .val (.ref b7), .val (.int (16 : Int32)), .val (.ref s_DOUBLE_QUOTE), .unset] [(.ref s_DOUBLE_QUOTE)])) _
      exact k
    obtain ⟨T160, X160, e160, st160⟩ := getS2 X65 hx hZ hown (host := "") (Or.inl (hw _ (List.mem_of_getElem? (i := 28) rfl))) Via.refl e64 (S_MID_LETTER.ext O64.2) (g := (mkF m 146 #[.val (.int p0), .val (.ref b7), .val (.int (16 : Int32)), .val (.ref s_DOUBLE_QUOTE), .unset] [(.ref s_DOUBLE_QUOTE)])) rfl (hb hby at_146)
    refine Go.st (V' := T160.setTop (mkF m 149 #[.val (.int p0), .val (.ref b7), .val (.int (16 : Int32)), .val (.ref s_DOUBLE_QUOTE), .unset] [(.ref s_MID_LETTER), (.ref s_DOUBLE_QUOTE)])) (fun t k => st160 t k) ?_
    refine Go.st (V' := T160.setTop (mkF m 153 #[.val (.int p0), .val (.ref b7), .val (.int (16 : Int32)), .val (.ref s_DOUBLE_QUOTE), .unset] [(.ref s_DOUBLE_QUOTE)])) (fun t k => ?_) ?_
    · refine Jvm.RoadKit.acmp (g := (mkF m 149 #[.val (.int p0), .val (.ref b7), .val (.int (16 : Int32)), .val (.ref s_DOUBLE_QUOTE), .unset] [(.ref s_MID_LETTER), (.ref s_DOUBLE_QUOTE)])) X160 hx rfl rfl rfl (pc0 := 149) (pc' := 152) (same := false) rfl (hb hby at_149) rfl (decide_eq_false fun q => (Fld.ne (F_DOUBLE_QUOTE_ordinal.ext O64.2) (F_MID_LETTER_ordinal.ext O64.2) (by decide)) (Value.ref.inj q)) (by decide) (by decide) ?_
      show Steps p.tables e below (T160.setTop (mkF m 152 #[.val (.int p0), .val (.ref b7), .val (.int (16 : Int32)), .val (.ref s_DOUBLE_QUOTE), .unset] [])) _
      refine XS.aloadN X160.here hx rfl (hb hby at_152) rfl rfl ?_
      show Steps p.tables e below (T160.setTop (mkF m 153 #[.val (.int p0), .val (.ref b7), .val (.int (16 : Int32)), .val (.ref s_DOUBLE_QUOTE), .unset] [(.ref s_DOUBLE_QUOTE)])) _
      exact k
    obtain ⟨T161, X161, e161, st161⟩ := getS2 X160 hx hZ hown (host := "") (Or.inl (hw _ (List.mem_of_getElem? (i := 32) rfl))) Via.refl e160 (S_MID_NUM_LET.ext O64.2) (g := (mkF m 153 #[.val (.int p0), .val (.ref b7), .val (.int (16 : Int32)), .val (.ref s_DOUBLE_QUOTE), .unset] [(.ref s_DOUBLE_QUOTE)])) rfl (hb hby at_153)
    refine Go.st (V' := T161.setTop (mkF m 156 #[.val (.int p0), .val (.ref b7), .val (.int (16 : Int32)), .val (.ref s_DOUBLE_QUOTE), .unset] [(.ref s_MID_NUM_LET), (.ref s_DOUBLE_QUOTE)])) (fun t k => st161 t k) ?_
    refine Go.st (V' := T161.setTop (mkF m 160 #[.val (.int p0), .val (.ref b7), .val (.int (16 : Int32)), .val (.ref s_DOUBLE_QUOTE), .unset] [(.ref s_DOUBLE_QUOTE)])) (fun t k => ?_) ?_
    · refine Jvm.RoadKit.acmp (g := (mkF m 156 #[.val (.int p0), .val (.ref b7), .val (.int (16 : Int32)), .val (.ref s_DOUBLE_QUOTE), .unset] [(.ref s_MID_NUM_LET), (.ref s_DOUBLE_QUOTE)])) X161 hx rfl rfl rfl (pc0 := 156) (pc' := 159) (same := false) rfl (hb hby at_156) rfl (decide_eq_false fun q => (Fld.ne (F_DOUBLE_QUOTE_ordinal.ext O64.2) (F_MID_NUM_LET_ordinal.ext O64.2) (by decide)) (Value.ref.inj q)) (by decide) (by decide) ?_
      show Steps p.tables e below (T161.setTop (mkF m 159 #[.val (.int p0), .val (.ref b7), .val (.int (16 : Int32)), .val (.ref s_DOUBLE_QUOTE), .unset] [])) _
      refine XS.aloadN X161.here hx rfl (hb hby at_159) rfl rfl ?_
      show Steps p.tables e below (T161.setTop (mkF m 160 #[.val (.int p0), .val (.ref b7), .val (.int (16 : Int32)), .val (.ref s_DOUBLE_QUOTE), .unset] [(.ref s_DOUBLE_QUOTE)])) _
      exact k
    obtain ⟨T162, X162, e162, st162⟩ := getS2 X161 hx hZ hown (host := "") (Or.inl (hw _ (List.mem_of_getElem? (i := 34) rfl))) Via.refl e161 (S_SINGLE_QUOTE.ext O64.2) (g := (mkF m 160 #[.val (.int p0), .val (.ref b7), .val (.int (16 : Int32)), .val (.ref s_DOUBLE_QUOTE), .unset] [(.ref s_DOUBLE_QUOTE)])) rfl (hb hby at_160)
    refine Go.st (V' := T162.setTop (mkF m 163 #[.val (.int p0), .val (.ref b7), .val (.int (16 : Int32)), .val (.ref s_DOUBLE_QUOTE), .unset] [(.ref s_SINGLE_QUOTE), (.ref s_DOUBLE_QUOTE)])) (fun t k => st162 t k) ?_
    refine Go.st (V' := T162.setTop (mkF m 174 #[.val (.int p0), .val (.ref b7), .val (.int (16 : Int32)), .val (.ref s_DOUBLE_QUOTE), .val (.int (0 : Int32))] [(.ref s_DOUBLE_QUOTE)])) (fun t k => ?_) ?_
    · refine Jvm.RoadKit.acmp (g := (mkF m 163 #[.val (.int p0), .val (.ref b7), .val (.int (16 : Int32)), .val (.ref s_DOUBLE_QUOTE), .unset] [(.ref s_SINGLE_QUOTE), (.ref s_DOUBLE_QUOTE)])) X162 hx rfl rfl rfl (pc0 := 163) (pc' := 170) (same := false) rfl (hb hby at_163) rfl (decide_eq_false fun q => (Fld.ne (F_DOUBLE_QUOTE_ordinal.ext O64.2) (F_SINGLE_QUOTE_ordinal.ext O64.2) (by decide)) (Value.ref.inj q)) (by decide) (by decide) ?_
      show Steps p.tables e below (T162.setTop (mkF m 170 #[.val (.int p0), .val (.ref b7), .val (.int (16 : Int32)), .val (.ref s_DOUBLE_QUOTE), .unset] [])) _
      refine XS.iconst X162.here hx rfl (hb hby at_170) ?_
      show Steps p.tables e below (T162.setTop (mkF m 171 #[.val (.int p0), .val (.ref b7), .val (.int (16 : Int32)), .val (.ref s_DOUBLE_QUOTE), .unset] [(.int (0 : Int32))])) _
      refine XS.istore X162.here hx rfl (hb hby at_171) rfl (l' := #[.val (.int p0), .val (.ref b7), .val (.int (16 : Int32)), .val (.ref s_DOUBLE_QUOTE), .val (.int (0 : Int32))]) rfl ?_
      show Steps p.tables e below (T162.setTop (mkF m 173 #[.val (.int p0), .val (.ref b7), .val (.int (16 : Int32)), .val (.ref s_DOUBLE_QUOTE), .val (.int (0 : Int32))] [])) _
      refine XS.aloadN X162.here hx rfl (hb hby at_173) rfl rfl ?_
      show Steps p.tables e below (T162.setTop (mkF m 174 #[.val (.int p0), .val (.ref b7), .val (.int (16 : Int32)), .val (.ref s_DOUBLE_QUOTE), .val (.int (0 : Int32))] [(.ref s_DOUBLE_QUOTE)])) _
      exact k
    obtain ⟨cq163, kq163, q163a, q163b, q163c⟩ := isOf hZ e162 (E_DOUBLE_QUOTE.ext O64.2)
    obtain ⟨_, _, ⟨T163, L163, k163, n163⟩, -, X163, ⟨Lc163, hQ163, l163, y163, z163⟩, st163⟩ := X162.virtualBack hx (y := (⟨"com/example/hits_from_terms/hitsfromterms/analysis/WordBreak", "isMidLetter", "()Z"⟩ : MethodName)) (z := (⟨"com/example/hits_from_terms/hitsfromterms/analysis/WordBreak", "isMidLetter", "()Z"⟩ : MethodName)) hown (mvT hZ (hw _ (List.mem_of_getElem? (i := 43) rfl))) (mvT hZ (hw _ (List.mem_of_getElem? (i := 44) rfl))) (notFace_of_selects (args := #[]) (mvT hZ (hw _ (List.mem_of_getElem? (i := 46) rfl)))) (mvT hZ (hw _ (List.mem_of_getElem? (i := 46) rfl))) (mvT hZ (hw _ (List.mem_of_getElem? (i := 45) rfl))) (by decide) (backOf (W := 0) (rm1 l Z a0 hw [] s_OTHER s_CR s_LF s_NEWLINE s_EXTEND s_FORMAT s_ZWJ s_ALETTER s_HEBREW_LETTER s_NUMERIC s_KATAKANA s_EXTEND_NUM_LET s_MID_LETTER s_MID_NUM s_MID_NUM_LET s_SINGLE_QUOTE s_DOUBLE_QUOTE s_REGIONAL_INDICATOR s_WSEG_SPACE HW s_DOUBLE_QUOTE h64 n0 O64) hZ (hw _ (List.mem_of_getElem? (i := 47) rfl)) (hw _ (List.mem_of_getElem? (i := 3) rfl)) (by decide) (by decide)) q163a q163c (g := (mkF m 174 #[.val (.int p0), .val (.ref b7), .val (.int (16 : Int32)), .val (.ref s_DOUBLE_QUOTE), .val (.int (0 : Int32))] [(.ref s_DOUBLE_QUOTE)])) rfl (by rw [hml]; rfl) (Steps.refl _) (argsL := []) (rest := []) (lenOf own_pd13 rfl) rfl (by show 2 * 0 + _ ≤ _; exact Nat.le_of_eq rfl) (hb hby at_174) (fun _ _ => ⟨rfl, e162, (by decide : 1 + 0 ≤ _), (by decide : 19 + 0 ≤ _)⟩)
    dsimp only [Pt.U, Pt.locs, Pt.cells, Pt.slots] at X163 l163 y163 z163 st163 hQ163
    subst l163 y163 z163
    obtain ⟨rfl, N163q, e163⟩ := hQ163
    have N163 := Fr.app N65 N163q
    refine Go.st (V' := T163.setTop (mkF m 177 #[.val (.int p0), .val (.ref b7), .val (.int (16 : Int32)), .val (.ref s_DOUBLE_QUOTE), .val (.int (0 : Int32))] [(.int (f1 s_MID_LETTER s_MID_NUM_LET s_SINGLE_QUOTE s_DOUBLE_QUOTE))])) (fun t k => st163.trans k) ?_
    have r164 : (f1 s_MID_LETTER s_MID_NUM_LET s_SINGLE_QUOTE s_DOUBLE_QUOTE) = (0 : Int32) := by rw [f1, if_neg (Fld.ne (F_DOUBLE_QUOTE_ordinal.ext O64.2) (F_MID_LETTER_ordinal.ext O64.2) (by decide)), if_neg (Fld.ne (F_DOUBLE_QUOTE_ordinal.ext O64.2) (F_MID_NUM_LET_ordinal.ext O64.2) (by decide)), if_neg (Fld.ne (F_DOUBLE_QUOTE_ordinal.ext O64.2) (F_SINGLE_QUOTE_ordinal.ext O64.2) (by decide))]
    rw [r164]
    refine Go.st (V' := T163.setTop (mkF m 187 #[.val (.int p0), .val (.ref b7), .val (.int (16 : Int32)), .val (.ref s_DOUBLE_QUOTE), .val (.int (0 : Int32))] [(.int (1 : Int32))])) (fun t k => ?_) ?_
    · refine XS.iload X163.here hx rfl (hb hby at_177) rfl  ?_
      show Steps p.tables e below (T163.setTop (mkF m 179 #[.val (.int p0), .val (.ref b7), .val (.int (16 : Int32)), .val (.ref s_DOUBLE_QUOTE), .val (.int (0 : Int32))] [(.int (0 : Int32)), (.int (0 : Int32))])) _
      refine XS.icmpNo X163.here hx rfl (hb hby at_179) rfl (teq (by decide : ((0 : Int32) = (0 : Int32)))).2 ?_
      show Steps p.tables e below (T163.setTop (mkF m 182 #[.val (.int p0), .val (.ref b7), .val (.int (16 : Int32)), .val (.ref s_DOUBLE_QUOTE), .val (.int (0 : Int32))] [])) _
      refine XS.iconst X163.here hx rfl (hb hby at_182) ?_
      show Steps p.tables e below (T163.setTop (mkF m 183 #[.val (.int p0), .val (.ref b7), .val (.int (16 : Int32)), .val (.ref s_DOUBLE_QUOTE), .val (.int (0 : Int32))] [(.int (1 : Int32))])) _
      refine XS.goto X163.here hx rfl (pc0 := 183) (pc' := 187) rfl (hb hby at_183) (by decide) (by decide) ?_
      show Steps p.tables e below (T163.setTop (mkF m 187 #[.val (.int p0), .val (.ref b7), .val (.int (16 : Int32)), .val (.ref s_DOUBLE_QUOTE), .val (.int (0 : Int32))] [(.int (1 : Int32))])) _
      exact k
    obtain ⟨fs, hr, hrun, hended, hW, hsame⟩ := X163.leave (v := some (.int (1 : Int32))) (fun h => by rw [Bd.returns] at h; cases h)
    refine Go.mk' ⟨_, _, retN X163 hx (t := .boolean) Bd.returns (by simp) (hb hby at_187) hr, hrun, hended, _, _, rfl, ?_, ⟨_, rfl⟩, hW, hsame.mono (by decide) (by decide)⟩
    show Q0 Z p0 h0 n0 _ T163.heap _
    rw [e163]
    exact ⟨rfl, N163⟩
  · show Go p e below _ (T64.setTop (mkF m 141 #[.val (.int p0), .val (.ref b7), .val (.int (17 : Int32)), .unset, .unset] []))
    refine Go.st (V' := T64.setTop (mkF m 143 #[.val (.int p0), .val (.ref b7), .val (.int (17 : Int32)), .unset, .unset] [(.int (17 : Int32)), (.ref b7)])) (fun t k => ?_) ?_
    · refine XS.aloadN X65.here hx rfl (hb hby at_141) rfl rfl ?_
      show Steps p.tables e below (T64.setTop (mkF m 142 #[.val (.int p0), .val (.ref b7), .val (.int (17 : Int32)), .unset, .unset] [(.ref b7)])) _
      refine XS.iloadN X65.here hx rfl (hb hby at_142) rfl  ?_
      show Steps p.tables e below (T64.setTop (mkF m 143 #[.val (.int p0), .val (.ref b7), .val (.int (17 : Int32)), .unset, .unset] [(.int (17 : Int32)), (.ref b7)])) _
      exact k
    obtain ⟨cl165, Ar165, q165, Sz165, Nn165, Ha165, Ga165⟩ := id (V64)
    have hin165 : ¬ ((17 : Int32) < 0 ∨ cl165.slots.size ≤ ((17 : Int32)).toNatClampNeg) := inb_of Sz165 ⟨by decide, by decide⟩
    refine Go.st (V' := T64.setTop (mkF m 146 #[.val (.int p0), .val (.ref b7), .val (.int (17 : Int32)), .val (.ref s_REGIONAL_INDICATOR), .unset] [(.ref s_REGIONAL_INDICATOR)])) (fun t k => ?_) ?_
    · show Steps p.tables e below (T64.setTop (mkF m 143 #[.val (.int p0), .val (.ref b7), .val (.int (17 : Int32)), .unset, .unset] [(.int (17 : Int32)), (.ref b7)])) _
      refine X65.aaload hx (j := (17 : Int32)) (v := (.ref s_REGIONAL_INDICATOR)) (own_eT e64 Ar165) (State.isArrayOf_alike hZ.alike Ar165.2.1) rfl Ar165.2.2 hin165 (Ha165.at hin165 rfl) (g := (mkF m 143 #[.val (.int p0), .val (.ref b7), .val (.int (17 : Int32)), .unset, .unset] [(.int (17 : Int32)), (.ref b7)])) rfl rfl (hb hby at_143) _ ?_
      show Steps p.tables e below (T64.setTop (mkF m 144 #[.val (.int p0), .val (.ref b7), .val (.int (17 : Int32)), .unset, .unset] [(.ref s_REGIONAL_INDICATOR)])) _
      refine XS.astoreN X65.here hx rfl (hb hby at_144) rfl rfl (l' := #[.val (.int p0), .val (.ref b7), .val (.int (17 : Int32)), .val (.ref s_REGIONAL_INDICATOR), .unset]) rfl ?_
      show Steps p.tables e below (T64.setTop (mkF m 145 #[.val (.int p0), .val (.ref b7), .val (.int (17 : Int32)), .val (.ref s_REGIONAL_INDICATOR), .unset] [])) _
      refine XS.aloadN X65.here hx rfl (hb hby at_145) rfl rfl ?_
      show Steps p.tables e below (T64.setTop (mkF m 146 #[.val (.int p0), .val (.ref b7), .val (.int (17 : Int32)), .val (.ref s_REGIONAL_INDICATOR), .unset] [(.ref s_REGIONAL_INDICATOR)])) _
      exact k
    obtain ⟨T166, X166, e166, st166⟩ := getS2 X65 hx hZ hown (host := "") (Or.inl (hw _ (List.mem_of_getElem? (i := 28) rfl))) Via.refl e64 (S_MID_LETTER.ext O64.2) (g := (mkF m 146 #[.val (.int p0), .val (.ref b7), .val (.int (17 : Int32)), .val (.ref s_REGIONAL_INDICATOR), .unset] [(.ref s_REGIONAL_INDICATOR)])) rfl (hb hby at_146)
    refine Go.st (V' := T166.setTop (mkF m 149 #[.val (.int p0), .val (.ref b7), .val (.int (17 : Int32)), .val (.ref s_REGIONAL_INDICATOR), .unset] [(.ref s_MID_LETTER), (.ref s_REGIONAL_INDICATOR)])) (fun t k => st166 t k) ?_
    refine Go.st (V' := T166.setTop (mkF m 153 #[.val (.int p0), .val (.ref b7), .val (.int (17 : Int32)), .val (.ref s_REGIONAL_INDICATOR), .unset] [(.ref s_REGIONAL_INDICATOR)])) (fun t k => ?_) ?_
    · refine Jvm.RoadKit.acmp (g := (mkF m 149 #[.val (.int p0), .val (.ref b7), .val (.int (17 : Int32)), .val (.ref s_REGIONAL_INDICATOR), .unset] [(.ref s_MID_LETTER), (.ref s_REGIONAL_INDICATOR)])) X166 hx rfl rfl rfl (pc0 := 149) (pc' := 152) (same := false) rfl (hb hby at_149) rfl (decide_eq_false fun q => (Fld.ne (F_REGIONAL_INDICATOR_ordinal.ext O64.2) (F_MID_LETTER_ordinal.ext O64.2) (by decide)) (Value.ref.inj q)) (by decide) (by decide) ?_
      show Steps p.tables e below (T166.setTop (mkF m 152 #[.val (.int p0), .val (.ref b7), .val (.int (17 : Int32)), .val (.ref s_REGIONAL_INDICATOR), .unset] [])) _
      refine XS.aloadN X166.here hx rfl (hb hby at_152) rfl rfl ?_
      show Steps p.tables e below (T166.setTop (mkF m 153 #[.val (.int p0), .val (.ref b7), .val (.int (17 : Int32)), .val (.ref s_REGIONAL_INDICATOR), .unset] [(.ref s_REGIONAL_INDICATOR)])) _
      exact k
    obtain ⟨T167, X167, e167, st167⟩ := getS2 X166 hx hZ hown (host := "") (Or.inl (hw _ (List.mem_of_getElem? (i := 32) rfl))) Via.refl e166 (S_MID_NUM_LET.ext O64.2) (g := (mkF m 153 #[.val (.int p0), .val (.ref b7), .val (.int (17 : Int32)), .val (.ref s_REGIONAL_INDICATOR), .unset] [(.ref s_REGIONAL_INDICATOR)])) rfl (hb hby at_153)
    refine Go.st (V' := T167.setTop (mkF m 156 #[.val (.int p0), .val (.ref b7), .val (.int (17 : Int32)), .val (.ref s_REGIONAL_INDICATOR), .unset] [(.ref s_MID_NUM_LET), (.ref s_REGIONAL_INDICATOR)])) (fun t k => st167 t k) ?_
    refine Go.st (V' := T167.setTop (mkF m 160 #[.val (.int p0), .val (.ref b7), .val (.int (17 : Int32)), .val (.ref s_REGIONAL_INDICATOR), .unset] [(.ref s_REGIONAL_INDICATOR)])) (fun t k => ?_) ?_
    · refine Jvm.RoadKit.acmp (g := (mkF m 156 #[.val (.int p0), .val (.ref b7), .val (.int (17 : Int32)), .val (.ref s_REGIONAL_INDICATOR), .unset] [(.ref s_MID_NUM_LET), (.ref s_REGIONAL_INDICATOR)])) X167 hx rfl rfl rfl (pc0 := 156) (pc' := 159) (same := false) rfl (hb hby at_156) rfl (decide_eq_false fun q => (Fld.ne (F_REGIONAL_INDICATOR_ordinal.ext O64.2) (F_MID_NUM_LET_ordinal.ext O64.2) (by decide)) (Value.ref.inj q)) (by decide) (by decide) ?_
      show Steps p.tables e below (T167.setTop (mkF m 159 #[.val (.int p0), .val (.ref b7), .val (.int (17 : Int32)), .val (.ref s_REGIONAL_INDICATOR), .unset] [])) _
      refine XS.aloadN X167.here hx rfl (hb hby at_159) rfl rfl ?_
      show Steps p.tables e below (T167.setTop (mkF m 160 #[.val (.int p0), .val (.ref b7), .val (.int (17 : Int32)), .val (.ref s_REGIONAL_INDICATOR), .unset] [(.ref s_REGIONAL_INDICATOR)])) _
      exact k
    obtain ⟨T168, X168, e168, st168⟩ := getS2 X167 hx hZ hown (host := "") (Or.inl (hw _ (List.mem_of_getElem? (i := 34) rfl))) Via.refl e167 (S_SINGLE_QUOTE.ext O64.2) (g := (mkF m 160 #[.val (.int p0), .val (.ref b7), .val (.int (17 : Int32)), .val (.ref s_REGIONAL_INDICATOR), .unset] [(.ref s_REGIONAL_INDICATOR)])) rfl (hb hby at_160)
    refine Go.st (V' := T168.setTop (mkF m 163 #[.val (.int p0), .val (.ref b7), .val (.int (17 : Int32)), .val (.ref s_REGIONAL_INDICATOR), .unset] [(.ref s_SINGLE_QUOTE), (.ref s_REGIONAL_INDICATOR)])) (fun t k => st168 t k) ?_
    refine Go.st (V' := T168.setTop (mkF m 174 #[.val (.int p0), .val (.ref b7), .val (.int (17 : Int32)), .val (.ref s_REGIONAL_INDICATOR), .val (.int (0 : Int32))] [(.ref s_REGIONAL_INDICATOR)])) (fun t k => ?_) ?_
    · refine Jvm.RoadKit.acmp (g := (mkF m 163 #[.val (.int p0), .val (.ref b7), .val (.int (17 : Int32)), .val (.ref s_REGIONAL_INDICATOR), .unset] [(.ref s_SINGLE_QUOTE), (.ref s_REGIONAL_INDICATOR)])) X168 hx rfl rfl rfl (pc0 := 163) (pc' := 170) (same := false) rfl (hb hby at_163) rfl (decide_eq_false fun q => (Fld.ne (F_REGIONAL_INDICATOR_ordinal.ext O64.2) (F_SINGLE_QUOTE_ordinal.ext O64.2) (by decide)) (Value.ref.inj q)) (by decide) (by decide) ?_
      show Steps p.tables e below (T168.setTop (mkF m 170 #[.val (.int p0), .val (.ref b7), .val (.int (17 : Int32)), .val (.ref s_REGIONAL_INDICATOR), .unset] [])) _
      refine XS.iconst X168.here hx rfl (hb hby at_170) ?_
      show Steps p.tables e below (T168.setTop (mkF m 171 #[.val (.int p0), .val (.ref b7), .val (.int (17 : Int32)), .val (.ref s_REGIONAL_INDICATOR), .unset] [(.int (0 : Int32))])) _
      refine XS.istore X168.here hx rfl (hb hby at_171) rfl (l' := #[.val (.int p0), .val (.ref b7), .val (.int (17 : Int32)), .val (.ref s_REGIONAL_INDICATOR), .val (.int (0 : Int32))]) rfl ?_
      show Steps p.tables e below (T168.setTop (mkF m 173 #[.val (.int p0), .val (.ref b7), .val (.int (17 : Int32)), .val (.ref s_REGIONAL_INDICATOR), .val (.int (0 : Int32))] [])) _
      refine XS.aloadN X168.here hx rfl (hb hby at_173) rfl rfl ?_
      show Steps p.tables e below (T168.setTop (mkF m 174 #[.val (.int p0), .val (.ref b7), .val (.int (17 : Int32)), .val (.ref s_REGIONAL_INDICATOR), .val (.int (0 : Int32))] [(.ref s_REGIONAL_INDICATOR)])) _
      exact k
    obtain ⟨cq169, kq169, q169a, q169b, q169c⟩ := isOf hZ e168 (E_REGIONAL_INDICATOR.ext O64.2)
    obtain ⟨_, _, ⟨T169, L169, k169, n169⟩, -, X169, ⟨Lc169, hQ169, l169, y169, z169⟩, st169⟩ := X168.virtualBack hx (y := (⟨"com/example/hits_from_terms/hitsfromterms/analysis/WordBreak", "isMidLetter", "()Z"⟩ : MethodName)) (z := (⟨"com/example/hits_from_terms/hitsfromterms/analysis/WordBreak", "isMidLetter", "()Z"⟩ : MethodName)) hown (mvT hZ (hw _ (List.mem_of_getElem? (i := 43) rfl))) (mvT hZ (hw _ (List.mem_of_getElem? (i := 44) rfl))) (notFace_of_selects (args := #[]) (mvT hZ (hw _ (List.mem_of_getElem? (i := 46) rfl)))) (mvT hZ (hw _ (List.mem_of_getElem? (i := 46) rfl))) (mvT hZ (hw _ (List.mem_of_getElem? (i := 45) rfl))) (by decide) (backOf (W := 0) (rm1 l Z a0 hw [] s_OTHER s_CR s_LF s_NEWLINE s_EXTEND s_FORMAT s_ZWJ s_ALETTER s_HEBREW_LETTER s_NUMERIC s_KATAKANA s_EXTEND_NUM_LET s_MID_LETTER s_MID_NUM s_MID_NUM_LET s_SINGLE_QUOTE s_DOUBLE_QUOTE s_REGIONAL_INDICATOR s_WSEG_SPACE HW s_REGIONAL_INDICATOR h64 n0 O64) hZ (hw _ (List.mem_of_getElem? (i := 47) rfl)) (hw _ (List.mem_of_getElem? (i := 3) rfl)) (by decide) (by decide)) q169a q169c (g := (mkF m 174 #[.val (.int p0), .val (.ref b7), .val (.int (17 : Int32)), .val (.ref s_REGIONAL_INDICATOR), .val (.int (0 : Int32))] [(.ref s_REGIONAL_INDICATOR)])) rfl (by rw [hml]; rfl) (Steps.refl _) (argsL := []) (rest := []) (lenOf own_pd13 rfl) rfl (by show 2 * 0 + _ ≤ _; exact Nat.le_of_eq rfl) (hb hby at_174) (fun _ _ => ⟨rfl, e168, (by decide : 1 + 0 ≤ _), (by decide : 19 + 0 ≤ _)⟩)
    dsimp only [Pt.U, Pt.locs, Pt.cells, Pt.slots] at X169 l169 y169 z169 st169 hQ169
    subst l169 y169 z169
    obtain ⟨rfl, N169q, e169⟩ := hQ169
    have N169 := Fr.app N65 N169q
    refine Go.st (V' := T169.setTop (mkF m 177 #[.val (.int p0), .val (.ref b7), .val (.int (17 : Int32)), .val (.ref s_REGIONAL_INDICATOR), .val (.int (0 : Int32))] [(.int (f1 s_MID_LETTER s_MID_NUM_LET s_SINGLE_QUOTE s_REGIONAL_INDICATOR))])) (fun t k => st169.trans k) ?_
    have r170 : (f1 s_MID_LETTER s_MID_NUM_LET s_SINGLE_QUOTE s_REGIONAL_INDICATOR) = (0 : Int32) := by rw [f1, if_neg (Fld.ne (F_REGIONAL_INDICATOR_ordinal.ext O64.2) (F_MID_LETTER_ordinal.ext O64.2) (by decide)), if_neg (Fld.ne (F_REGIONAL_INDICATOR_ordinal.ext O64.2) (F_MID_NUM_LET_ordinal.ext O64.2) (by decide)), if_neg (Fld.ne (F_REGIONAL_INDICATOR_ordinal.ext O64.2) (F_SINGLE_QUOTE_ordinal.ext O64.2) (by decide))]
    rw [r170]
    refine Go.st (V' := T169.setTop (mkF m 187 #[.val (.int p0), .val (.ref b7), .val (.int (17 : Int32)), .val (.ref s_REGIONAL_INDICATOR), .val (.int (0 : Int32))] [(.int (1 : Int32))])) (fun t k => ?_) ?_
    · refine XS.iload X169.here hx rfl (hb hby at_177) rfl  ?_
      show Steps p.tables e below (T169.setTop (mkF m 179 #[.val (.int p0), .val (.ref b7), .val (.int (17 : Int32)), .val (.ref s_REGIONAL_INDICATOR), .val (.int (0 : Int32))] [(.int (0 : Int32)), (.int (0 : Int32))])) _
      refine XS.icmpNo X169.here hx rfl (hb hby at_179) rfl (teq (by decide : ((0 : Int32) = (0 : Int32)))).2 ?_
      show Steps p.tables e below (T169.setTop (mkF m 182 #[.val (.int p0), .val (.ref b7), .val (.int (17 : Int32)), .val (.ref s_REGIONAL_INDICATOR), .val (.int (0 : Int32))] [])) _
      refine XS.iconst X169.here hx rfl (hb hby at_182) ?_
      show Steps p.tables e below (T169.setTop (mkF m 183 #[.val (.int p0), .val (.ref b7), .val (.int (17 : Int32)), .val (.ref s_REGIONAL_INDICATOR), .val (.int (0 : Int32))] [(.int (1 : Int32))])) _
      refine XS.goto X169.here hx rfl (pc0 := 183) (pc' := 187) rfl (hb hby at_183) (by decide) (by decide) ?_
      show Steps p.tables e below (T169.setTop (mkF m 187 #[.val (.int p0), .val (.ref b7), .val (.int (17 : Int32)), .val (.ref s_REGIONAL_INDICATOR), .val (.int (0 : Int32))] [(.int (1 : Int32))])) _
      exact k
    obtain ⟨fs, hr, hrun, hended, hW, hsame⟩ := X169.leave (v := some (.int (1 : Int32))) (fun h => by rw [Bd.returns] at h; cases h)
    refine Go.mk' ⟨_, _, retN X169 hx (t := .boolean) Bd.returns (by simp) (hb hby at_187) hr, hrun, hended, _, _, rfl, ?_, ⟨_, rfl⟩, hW, hsame.mono (by decide) (by decide)⟩
    show Q0 Z p0 h0 n0 _ T169.heap _
    rw [e169]
    exact ⟨rfl, N169⟩
  · show Go p e below _ (T64.setTop (mkF m 141 #[.val (.int p0), .val (.ref b7), .val (.int (18 : Int32)), .unset, .unset] []))
    refine Go.st (V' := T64.setTop (mkF m 143 #[.val (.int p0), .val (.ref b7), .val (.int (18 : Int32)), .unset, .unset] [(.int (18 : Int32)), (.ref b7)])) (fun t k => ?_) ?_
    · refine XS.aloadN X65.here hx rfl (hb hby at_141) rfl rfl ?_
      show Steps p.tables e below (T64.setTop (mkF m 142 #[.val (.int p0), .val (.ref b7), .val (.int (18 : Int32)), .unset, .unset] [(.ref b7)])) _
      refine XS.iloadN X65.here hx rfl (hb hby at_142) rfl  ?_
      show Steps p.tables e below (T64.setTop (mkF m 143 #[.val (.int p0), .val (.ref b7), .val (.int (18 : Int32)), .unset, .unset] [(.int (18 : Int32)), (.ref b7)])) _
      exact k
    obtain ⟨cl171, Ar171, q171, Sz171, Nn171, Ha171, Ga171⟩ := id (V64)
    have hin171 : ¬ ((18 : Int32) < 0 ∨ cl171.slots.size ≤ ((18 : Int32)).toNatClampNeg) := inb_of Sz171 ⟨by decide, by decide⟩
    refine Go.st (V' := T64.setTop (mkF m 146 #[.val (.int p0), .val (.ref b7), .val (.int (18 : Int32)), .val (.ref s_WSEG_SPACE), .unset] [(.ref s_WSEG_SPACE)])) (fun t k => ?_) ?_
    · show Steps p.tables e below (T64.setTop (mkF m 143 #[.val (.int p0), .val (.ref b7), .val (.int (18 : Int32)), .unset, .unset] [(.int (18 : Int32)), (.ref b7)])) _
      refine X65.aaload hx (j := (18 : Int32)) (v := (.ref s_WSEG_SPACE)) (own_eT e64 Ar171) (State.isArrayOf_alike hZ.alike Ar171.2.1) rfl Ar171.2.2 hin171 (Ha171.at hin171 rfl) (g := (mkF m 143 #[.val (.int p0), .val (.ref b7), .val (.int (18 : Int32)), .unset, .unset] [(.int (18 : Int32)), (.ref b7)])) rfl rfl (hb hby at_143) _ ?_
      show Steps p.tables e below (T64.setTop (mkF m 144 #[.val (.int p0), .val (.ref b7), .val (.int (18 : Int32)), .unset, .unset] [(.ref s_WSEG_SPACE)])) _
      refine XS.astoreN X65.here hx rfl (hb hby at_144) rfl rfl (l' := #[.val (.int p0), .val (.ref b7), .val (.int (18 : Int32)), .val (.ref s_WSEG_SPACE), .unset]) rfl ?_
      show Steps p.tables e below (T64.setTop (mkF m 145 #[.val (.int p0), .val (.ref b7), .val (.int (18 : Int32)), .val (.ref s_WSEG_SPACE), .unset] [])) _
      refine XS.aloadN X65.here hx rfl (hb hby at_145) rfl rfl ?_
      show Steps p.tables e below (T64.setTop (mkF m 146 #[.val (.int p0), .val (.ref b7), .val (.int (18 : Int32)), .val (.ref s_WSEG_SPACE), .unset] [(.ref s_WSEG_SPACE)])) _
      exact k
    obtain ⟨T172, X172, e172, st172⟩ := getS2 X65 hx hZ hown (host := "") (Or.inl (hw _ (List.mem_of_getElem? (i := 28) rfl))) Via.refl e64 (S_MID_LETTER.ext O64.2) (g := (mkF m 146 #[.val (.int p0), .val (.ref b7), .val (.int (18 : Int32)), .val (.ref s_WSEG_SPACE), .unset] [(.ref s_WSEG_SPACE)])) rfl (hb hby at_146)
    refine Go.st (V' := T172.setTop (mkF m 149 #[.val (.int p0), .val (.ref b7), .val (.int (18 : Int32)), .val (.ref s_WSEG_SPACE), .unset] [(.ref s_MID_LETTER), (.ref s_WSEG_SPACE)])) (fun t k => st172 t k) ?_
    refine Go.st (V' := T172.setTop (mkF m 153 #[.val (.int p0), .val (.ref b7), .val (.int (18 : Int32)), .val (.ref s_WSEG_SPACE), .unset] [(.ref s_WSEG_SPACE)])) (fun t k => ?_) ?_
    · refine Jvm.RoadKit.acmp (g := (mkF m 149 #[.val (.int p0), .val (.ref b7), .val (.int (18 : Int32)), .val (.ref s_WSEG_SPACE), .unset] [(.ref s_MID_LETTER), (.ref s_WSEG_SPACE)])) X172 hx rfl rfl rfl (pc0 := 149) (pc' := 152) (same := false) rfl (hb hby at_149) rfl (decide_eq_false fun q => (Fld.ne (F_WSEG_SPACE_ordinal.ext O64.2) (F_MID_LETTER_ordinal.ext O64.2) (by decide)) (Value.ref.inj q)) (by decide) (by decide) ?_
      show Steps p.tables e below (T172.setTop (mkF m 152 #[.val (.int p0), .val (.ref b7), .val (.int (18 : Int32)), .val (.ref s_WSEG_SPACE), .unset] [])) _
      refine XS.aloadN X172.here hx rfl (hb hby at_152) rfl rfl ?_
      show Steps p.tables e below (T172.setTop (mkF m 153 #[.val (.int p0), .val (.ref b7), .val (.int (18 : Int32)), .val (.ref s_WSEG_SPACE), .unset] [(.ref s_WSEG_SPACE)])) _
      exact k
    obtain ⟨T173, X173, e173, st173⟩ := getS2 X172 hx hZ hown (host := "") (Or.inl (hw _ (List.mem_of_getElem? (i := 32) rfl))) Via.refl e172 (S_MID_NUM_LET.ext O64.2) (g := (mkF m 153 #[.val (.int p0), .val (.ref b7), .val (.int (18 : Int32)), .val (.ref s_WSEG_SPACE), .unset] [(.ref s_WSEG_SPACE)])) rfl (hb hby at_153)
    refine Go.st (V' := T173.setTop (mkF m 156 #[.val (.int p0), .val (.ref b7), .val (.int (18 : Int32)), .val (.ref s_WSEG_SPACE), .unset] [(.ref s_MID_NUM_LET), (.ref s_WSEG_SPACE)])) (fun t k => st173 t k) ?_
    refine Go.st (V' := T173.setTop (mkF m 160 #[.val (.int p0), .val (.ref b7), .val (.int (18 : Int32)), .val (.ref s_WSEG_SPACE), .unset] [(.ref s_WSEG_SPACE)])) (fun t k => ?_) ?_
    · refine Jvm.RoadKit.acmp (g := (mkF m 156 #[.val (.int p0), .val (.ref b7), .val (.int (18 : Int32)), .val (.ref s_WSEG_SPACE), .unset] [(.ref s_MID_NUM_LET), (.ref s_WSEG_SPACE)])) X173 hx rfl rfl rfl (pc0 := 156) (pc' := 159) (same := false) rfl (hb hby at_156) rfl (decide_eq_false fun q => (Fld.ne (F_WSEG_SPACE_ordinal.ext O64.2) (F_MID_NUM_LET_ordinal.ext O64.2) (by decide)) (Value.ref.inj q)) (by decide) (by decide) ?_
      show Steps p.tables e below (T173.setTop (mkF m 159 #[.val (.int p0), .val (.ref b7), .val (.int (18 : Int32)), .val (.ref s_WSEG_SPACE), .unset] [])) _
      refine XS.aloadN X173.here hx rfl (hb hby at_159) rfl rfl ?_
      show Steps p.tables e below (T173.setTop (mkF m 160 #[.val (.int p0), .val (.ref b7), .val (.int (18 : Int32)), .val (.ref s_WSEG_SPACE), .unset] [(.ref s_WSEG_SPACE)])) _
      exact k
    obtain ⟨T174, X174, e174, st174⟩ := getS2 X173 hx hZ hown (host := "") (Or.inl (hw _ (List.mem_of_getElem? (i := 34) rfl))) Via.refl e173 (S_SINGLE_QUOTE.ext O64.2) (g := (mkF m 160 #[.val (.int p0), .val (.ref b7), .val (.int (18 : Int32)), .val (.ref s_WSEG_SPACE), .unset] [(.ref s_WSEG_SPACE)])) rfl (hb hby at_160)
    refine Go.st (V' := T174.setTop (mkF m 163 #[.val (.int p0), .val (.ref b7), .val (.int (18 : Int32)), .val (.ref s_WSEG_SPACE), .unset] [(.ref s_SINGLE_QUOTE), (.ref s_WSEG_SPACE)])) (fun t k => st174 t k) ?_
    refine Go.st (V' := T174.setTop (mkF m 174 #[.val (.int p0), .val (.ref b7), .val (.int (18 : Int32)), .val (.ref s_WSEG_SPACE), .val (.int (0 : Int32))] [(.ref s_WSEG_SPACE)])) (fun t k => ?_) ?_
    · refine Jvm.RoadKit.acmp (g := (mkF m 163 #[.val (.int p0), .val (.ref b7), .val (.int (18 : Int32)), .val (.ref s_WSEG_SPACE), .unset] [(.ref s_SINGLE_QUOTE), (.ref s_WSEG_SPACE)])) X174 hx rfl rfl rfl (pc0 := 163) (pc' := 170) (same := false) rfl (hb hby at_163) rfl (decide_eq_false fun q => (Fld.ne (F_WSEG_SPACE_ordinal.ext O64.2) (F_SINGLE_QUOTE_ordinal.ext O64.2) (by decide)) (Value.ref.inj q)) (by decide) (by decide) ?_
      show Steps p.tables e below (T174.setTop (mkF m 170 #[.val (.int p0), .val (.ref b7), .val (.int (18 : Int32)), .val (.ref s_WSEG_SPACE), .unset] [])) _
      refine XS.iconst X174.here hx rfl (hb hby at_170) ?_
      show Steps p.tables e below (T174.setTop (mkF m 171 #[.val (.int p0), .val (.ref b7), .val (.int (18 : Int32)), .val (.ref s_WSEG_SPACE), .unset] [(.int (0 : Int32))])) _
      refine XS.istore X174.here hx rfl (hb hby at_171) rfl (l' := #[.val (.int p0), .val (.ref b7), .val (.int (18 : Int32)), .val (.ref s_WSEG_SPACE), .val (.int (0 : Int32))]) rfl ?_
      show Steps p.tables e below (T174.setTop (mkF m 173 #[.val (.int p0), .val (.ref b7), .val (.int (18 : Int32)), .val (.ref s_WSEG_SPACE), .val (.int (0 : Int32))] [])) _
      refine XS.aloadN X174.here hx rfl (hb hby at_173) rfl rfl ?_
      show Steps p.tables e below (T174.setTop (mkF m 174 #[.val (.int p0), .val (.ref b7), .val (.int (18 : Int32)), .val (.ref s_WSEG_SPACE), .val (.int (0 : Int32))] [(.ref s_WSEG_SPACE)])) _
      exact k
    obtain ⟨cq175, kq175, q175a, q175b, q175c⟩ := isOf hZ e174 (E_WSEG_SPACE.ext O64.2)
    obtain ⟨_, _, ⟨T175, L175, k175, n175⟩, -, X175, ⟨Lc175, hQ175, l175, y175, z175⟩, st175⟩ := X174.virtualBack hx (y := (⟨"com/example/hits_from_terms/hitsfromterms/analysis/WordBreak", "isMidLetter", "()Z"⟩ : MethodName)) (z := (⟨"com/example/hits_from_terms/hitsfromterms/analysis/WordBreak", "isMidLetter", "()Z"⟩ : MethodName)) hown (mvT hZ (hw _ (List.mem_of_getElem? (i := 43) rfl))) (mvT hZ (hw _ (List.mem_of_getElem? (i := 44) rfl))) (notFace_of_selects (args := #[]) (mvT hZ (hw _ (List.mem_of_getElem? (i := 46) rfl)))) (mvT hZ (hw _ (List.mem_of_getElem? (i := 46) rfl))) (mvT hZ (hw _ (List.mem_of_getElem? (i := 45) rfl))) (by decide) (backOf (W := 0) (rm1 l Z a0 hw [] s_OTHER s_CR s_LF s_NEWLINE s_EXTEND s_FORMAT s_ZWJ s_ALETTER s_HEBREW_LETTER s_NUMERIC s_KATAKANA s_EXTEND_NUM_LET s_MID_LETTER s_MID_NUM s_MID_NUM_LET s_SINGLE_QUOTE s_DOUBLE_QUOTE s_REGIONAL_INDICATOR s_WSEG_SPACE HW s_WSEG_SPACE h64 n0 O64) hZ (hw _ (List.mem_of_getElem? (i := 47) rfl)) (hw _ (List.mem_of_getElem? (i := 3) rfl)) (by decide) (by decide)) q175a q175c (g := (mkF m 174 #[.val (.int p0), .val (.ref b7), .val (.int (18 : Int32)), .val (.ref s_WSEG_SPACE), .val (.int (0 : Int32))] [(.ref s_WSEG_SPACE)])) rfl (by rw [hml]; rfl) (Steps.refl _) (argsL := []) (rest := []) (lenOf own_pd13 rfl) rfl (by show 2 * 0 + _ ≤ _; exact Nat.le_of_eq rfl) (hb hby at_174) (fun _ _ => ⟨rfl, e174, (by decide : 1 + 0 ≤ _), (by decide : 19 + 0 ≤ _)⟩)
    dsimp only [Pt.U, Pt.locs, Pt.cells, Pt.slots] at X175 l175 y175 z175 st175 hQ175
    subst l175 y175 z175
    obtain ⟨rfl, N175q, e175⟩ := hQ175
    have N175 := Fr.app N65 N175q
    refine Go.st (V' := T175.setTop (mkF m 177 #[.val (.int p0), .val (.ref b7), .val (.int (18 : Int32)), .val (.ref s_WSEG_SPACE), .val (.int (0 : Int32))] [(.int (f1 s_MID_LETTER s_MID_NUM_LET s_SINGLE_QUOTE s_WSEG_SPACE))])) (fun t k => st175.trans k) ?_
    have r176 : (f1 s_MID_LETTER s_MID_NUM_LET s_SINGLE_QUOTE s_WSEG_SPACE) = (0 : Int32) := by rw [f1, if_neg (Fld.ne (F_WSEG_SPACE_ordinal.ext O64.2) (F_MID_LETTER_ordinal.ext O64.2) (by decide)), if_neg (Fld.ne (F_WSEG_SPACE_ordinal.ext O64.2) (F_MID_NUM_LET_ordinal.ext O64.2) (by decide)), if_neg (Fld.ne (F_WSEG_SPACE_ordinal.ext O64.2) (F_SINGLE_QUOTE_ordinal.ext O64.2) (by decide))]
    rw [r176]
    refine Go.st (V' := T175.setTop (mkF m 187 #[.val (.int p0), .val (.ref b7), .val (.int (18 : Int32)), .val (.ref s_WSEG_SPACE), .val (.int (0 : Int32))] [(.int (1 : Int32))])) (fun t k => ?_) ?_
    · refine XS.iload X175.here hx rfl (hb hby at_177) rfl  ?_
      show Steps p.tables e below (T175.setTop (mkF m 179 #[.val (.int p0), .val (.ref b7), .val (.int (18 : Int32)), .val (.ref s_WSEG_SPACE), .val (.int (0 : Int32))] [(.int (0 : Int32)), (.int (0 : Int32))])) _
      refine XS.icmpNo X175.here hx rfl (hb hby at_179) rfl (teq (by decide : ((0 : Int32) = (0 : Int32)))).2 ?_
      show Steps p.tables e below (T175.setTop (mkF m 182 #[.val (.int p0), .val (.ref b7), .val (.int (18 : Int32)), .val (.ref s_WSEG_SPACE), .val (.int (0 : Int32))] [])) _
      refine XS.iconst X175.here hx rfl (hb hby at_182) ?_
      show Steps p.tables e below (T175.setTop (mkF m 183 #[.val (.int p0), .val (.ref b7), .val (.int (18 : Int32)), .val (.ref s_WSEG_SPACE), .val (.int (0 : Int32))] [(.int (1 : Int32))])) _
      refine XS.goto X175.here hx rfl (pc0 := 183) (pc' := 187) rfl (hb hby at_183) (by decide) (by decide) ?_
      show Steps p.tables e below (T175.setTop (mkF m 187 #[.val (.int p0), .val (.ref b7), .val (.int (18 : Int32)), .val (.ref s_WSEG_SPACE), .val (.int (0 : Int32))] [(.int (1 : Int32))])) _
      exact k
    obtain ⟨fs, hr, hrun, hended, hW, hsame⟩ := X175.leave (v := some (.int (1 : Int32))) (fun h => by rw [Bd.returns] at h; cases h)
    refine Go.mk' ⟨_, _, retN X175 hx (t := .boolean) Bd.returns (by simp) (hb hby at_187) hr, hrun, hended, _, _, rfl, ?_, ⟨_, rfl⟩, hW, hsame.mono (by decide) (by decide)⟩
    show Q0 Z p0 h0 n0 _ T175.heap _
    rw [e175]
    exact ⟨rfl, N175⟩
set_option maxRecDepth 65536 in
set_option maxHeartbeats 40000000 in
theorem comes_1 {Post : Tables → Env → Array Value → State → Outcome → State → Prop} (hpost : ∀ tb e args s v u, (limb_1_1.after args s (.returned v) u = true ∧ limb_1_2.after args s (.returned v) u = true ∧ True) → FrameEnd s (.returned v) u (Jvm.fieldLocs frame_1_writes args s ++ Jvm.arrayLocs frame_1_arrays args s ++ Jvm.staticLocs frame_1_statics s) 16 128 → Post tb e args s (.returned v) u) :
    ArmFor flags0 classFile x code maxLocals ret World_1 tables_1 room_1 Calls_1 rest_1 Pre_1 Post := by
  intro l hfl _ _ p e ha hc hk s m args below hf hA hF happ hP
  obtain ⟨hcalls, hrest, hpre⟩ := hP
  obtain ⟨-, -, -, hnamed, -, -, -, hat⟩ := (Spec.applies_iff hf).mp happ
  obtain ⟨hg, hn⟩ := and_e (Cond.before_iff.mp (show (Jvm.Cond.and given_1 narrow_1).before args s = true from hpre))
  obtain ⟨gg0, hg⟩ := and_e hg
  have gg1 := hg
  obtain ⟨w0, rfl⟩ : ∃ w0 : Value, args = #[w0] := by
    have hs : args.size = 1 := by simpa [Cond.value, given_1] using gg0
    obtain ⟨L⟩ := args
    match L, hs with
    | [w0], _ => exact ⟨w0, rfl⟩
  have hw := fun d (hd : d ∈ tables_1) => atoms_spec (ws := Jvm.Cond.code x code maxLocals ret :: tables_1) hat d (List.mem_cons_of_mem _ hd)
  have hfit : Fit s := fun {y c} hc i hi => by
    obtain ⟨ha, rfl⟩ := Array.getElem?_eq_some_iff.mp hc
    have q := List.all_eq_true.mp ((Array.all_eq_true_iff_forall_mem.mp hF) _ (Array.getElem_mem ha)) i (List.mem_range.mpr hi)
    simpa [Array.getElem?_eq_getElem hi] using q
  obtain ⟨i0, ei0⟩ := is_v gg1
  obtain rfl : w0 = (.int i0) := Option.some.inj ei0
  obtain ⟨c0, hn⟩ := and_e hn
  obtain ⟨c1, hn⟩ := and_e hn
  obtain ⟨c2, hn⟩ := and_e hn
  obtain ⟨c3, hn⟩ := and_e hn
  obtain ⟨c4, hn⟩ := and_e hn
  obtain ⟨c5, hn⟩ := and_e hn
  obtain ⟨c6, hn⟩ := and_e hn
  obtain ⟨c7, hn⟩ := and_e hn
  obtain ⟨c8, hn⟩ := and_e hn
  obtain ⟨c9, hn⟩ := and_e hn
  obtain ⟨c10, hn⟩ := and_e hn
  obtain ⟨c11, hn⟩ := and_e hn
  obtain ⟨c12, hn⟩ := and_e hn
  obtain ⟨c13, hn⟩ := and_e hn
  obtain ⟨c14, hn⟩ := and_e hn
  obtain ⟨c15, hn⟩ := and_e hn
  obtain ⟨c16, hn⟩ := and_e hn
  obtain ⟨c17, hn⟩ := and_e hn
  obtain ⟨c18, hn⟩ := and_e hn
  obtain ⟨c19, hn⟩ := and_e hn
  obtain ⟨c20, hn⟩ := and_e hn
  obtain ⟨c21, hn⟩ := and_e hn
  obtain ⟨c22, hn⟩ := and_e hn
  obtain ⟨c23, hn⟩ := and_e hn
  obtain ⟨c24, hn⟩ := and_e hn
  obtain ⟨c25, hn⟩ := and_e hn
  obtain ⟨c26, hn⟩ := and_e hn
  obtain ⟨c27, hn⟩ := and_e hn
  obtain ⟨c28, hn⟩ := and_e hn
  obtain ⟨c29, hn⟩ := and_e hn
  obtain ⟨c30, hn⟩ := and_e hn
  obtain ⟨c31, hn⟩ := and_e hn
  obtain ⟨c32, hn⟩ := and_e hn
  obtain ⟨c33, hn⟩ := and_e hn
  obtain ⟨c34, hn⟩ := and_e hn
  obtain ⟨c35, hn⟩ := and_e hn
  obtain ⟨c36, hn⟩ := and_e hn
  have c37 := hn
  obtain ⟨s_OTHER, ev_OTHER⟩ := exa_v c0
  have E_OTHER := Exa.start ev_OTHER c0
  have S_OTHER := Sta.start ev_OTHER (Or.inr ⟨(hw _ (List.mem_of_getElem? (i := 3) rfl)), (hw _ (List.mem_of_getElem? (i := 4) rfl))⟩)
  obtain ⟨s_CR, ev_CR⟩ := exa_v c1
  have E_CR := Exa.start ev_CR c1
  have S_CR := Sta.start ev_CR (Or.inr ⟨(hw _ (List.mem_of_getElem? (i := 3) rfl)), (hw _ (List.mem_of_getElem? (i := 7) rfl))⟩)
  obtain ⟨s_LF, ev_LF⟩ := exa_v c2
  have E_LF := Exa.start ev_LF c2
  have S_LF := Sta.start ev_LF (Or.inr ⟨(hw _ (List.mem_of_getElem? (i := 3) rfl)), (hw _ (List.mem_of_getElem? (i := 9) rfl))⟩)
  obtain ⟨s_NEWLINE, ev_NEWLINE⟩ := exa_v c3
  have E_NEWLINE := Exa.start ev_NEWLINE c3
  have S_NEWLINE := Sta.start ev_NEWLINE (Or.inr ⟨(hw _ (List.mem_of_getElem? (i := 3) rfl)), (hw _ (List.mem_of_getElem? (i := 11) rfl))⟩)
  obtain ⟨s_EXTEND, ev_EXTEND⟩ := exa_v c4
  have E_EXTEND := Exa.start ev_EXTEND c4
  have S_EXTEND := Sta.start ev_EXTEND (Or.inr ⟨(hw _ (List.mem_of_getElem? (i := 3) rfl)), (hw _ (List.mem_of_getElem? (i := 13) rfl))⟩)
  obtain ⟨s_FORMAT, ev_FORMAT⟩ := exa_v c5
  have E_FORMAT := Exa.start ev_FORMAT c5
  have S_FORMAT := Sta.start ev_FORMAT (Or.inr ⟨(hw _ (List.mem_of_getElem? (i := 3) rfl)), (hw _ (List.mem_of_getElem? (i := 15) rfl))⟩)
  obtain ⟨s_ZWJ, ev_ZWJ⟩ := exa_v c6
  have E_ZWJ := Exa.start ev_ZWJ c6
  have S_ZWJ := Sta.start ev_ZWJ (Or.inr ⟨(hw _ (List.mem_of_getElem? (i := 3) rfl)), (hw _ (List.mem_of_getElem? (i := 17) rfl))⟩)
  obtain ⟨s_ALETTER, ev_ALETTER⟩ := exa_v c7
  have E_ALETTER := Exa.start ev_ALETTER c7
  have S_ALETTER := Sta.start ev_ALETTER (Or.inr ⟨(hw _ (List.mem_of_getElem? (i := 3) rfl)), (hw _ (List.mem_of_getElem? (i := 19) rfl))⟩)
  obtain ⟨s_HEBREW_LETTER, ev_HEBREW_LETTER⟩ := exa_v c8
  have E_HEBREW_LETTER := Exa.start ev_HEBREW_LETTER c8
  have S_HEBREW_LETTER := Sta.start ev_HEBREW_LETTER (Or.inr ⟨(hw _ (List.mem_of_getElem? (i := 3) rfl)), (hw _ (List.mem_of_getElem? (i := 21) rfl))⟩)
  obtain ⟨s_NUMERIC, ev_NUMERIC⟩ := exa_v c9
  have E_NUMERIC := Exa.start ev_NUMERIC c9
  have S_NUMERIC := Sta.start ev_NUMERIC (Or.inr ⟨(hw _ (List.mem_of_getElem? (i := 3) rfl)), (hw _ (List.mem_of_getElem? (i := 23) rfl))⟩)
  obtain ⟨s_KATAKANA, ev_KATAKANA⟩ := exa_v c10
  have E_KATAKANA := Exa.start ev_KATAKANA c10
  have S_KATAKANA := Sta.start ev_KATAKANA (Or.inr ⟨(hw _ (List.mem_of_getElem? (i := 3) rfl)), (hw _ (List.mem_of_getElem? (i := 25) rfl))⟩)
  obtain ⟨s_EXTEND_NUM_LET, ev_EXTEND_NUM_LET⟩ := exa_v c11
  have E_EXTEND_NUM_LET := Exa.start ev_EXTEND_NUM_LET c11
  have S_EXTEND_NUM_LET := Sta.start ev_EXTEND_NUM_LET (Or.inr ⟨(hw _ (List.mem_of_getElem? (i := 3) rfl)), (hw _ (List.mem_of_getElem? (i := 27) rfl))⟩)
  obtain ⟨s_MID_LETTER, ev_MID_LETTER⟩ := exa_v c12
  have E_MID_LETTER := Exa.start ev_MID_LETTER c12
  have S_MID_LETTER := Sta.start ev_MID_LETTER (Or.inr ⟨(hw _ (List.mem_of_getElem? (i := 3) rfl)), (hw _ (List.mem_of_getElem? (i := 29) rfl))⟩)
  obtain ⟨s_MID_NUM, ev_MID_NUM⟩ := exa_v c13
  have E_MID_NUM := Exa.start ev_MID_NUM c13
  have S_MID_NUM := Sta.start ev_MID_NUM (Or.inr ⟨(hw _ (List.mem_of_getElem? (i := 3) rfl)), (hw _ (List.mem_of_getElem? (i := 31) rfl))⟩)
  obtain ⟨s_MID_NUM_LET, ev_MID_NUM_LET⟩ := exa_v c14
  have E_MID_NUM_LET := Exa.start ev_MID_NUM_LET c14
  have S_MID_NUM_LET := Sta.start ev_MID_NUM_LET (Or.inr ⟨(hw _ (List.mem_of_getElem? (i := 3) rfl)), (hw _ (List.mem_of_getElem? (i := 33) rfl))⟩)
  obtain ⟨s_SINGLE_QUOTE, ev_SINGLE_QUOTE⟩ := exa_v c15
  have E_SINGLE_QUOTE := Exa.start ev_SINGLE_QUOTE c15
  have S_SINGLE_QUOTE := Sta.start ev_SINGLE_QUOTE (Or.inr ⟨(hw _ (List.mem_of_getElem? (i := 3) rfl)), (hw _ (List.mem_of_getElem? (i := 35) rfl))⟩)
  obtain ⟨s_DOUBLE_QUOTE, ev_DOUBLE_QUOTE⟩ := exa_v c16
  have E_DOUBLE_QUOTE := Exa.start ev_DOUBLE_QUOTE c16
  have S_DOUBLE_QUOTE := Sta.start ev_DOUBLE_QUOTE (Or.inr ⟨(hw _ (List.mem_of_getElem? (i := 3) rfl)), (hw _ (List.mem_of_getElem? (i := 37) rfl))⟩)
  obtain ⟨s_REGIONAL_INDICATOR, ev_REGIONAL_INDICATOR⟩ := exa_v c17
  have E_REGIONAL_INDICATOR := Exa.start ev_REGIONAL_INDICATOR c17
  have S_REGIONAL_INDICATOR := Sta.start ev_REGIONAL_INDICATOR (Or.inr ⟨(hw _ (List.mem_of_getElem? (i := 3) rfl)), (hw _ (List.mem_of_getElem? (i := 39) rfl))⟩)
  obtain ⟨s_WSEG_SPACE, ev_WSEG_SPACE⟩ := exa_v c18
  have E_WSEG_SPACE := Exa.start ev_WSEG_SPACE c18
  have S_WSEG_SPACE := Sta.start ev_WSEG_SPACE (Or.inr ⟨(hw _ (List.mem_of_getElem? (i := 3) rfl)), (hw _ (List.mem_of_getElem? (i := 41) rfl))⟩)
  have F_OTHER_ordinal := Fld.start ((fld_at ev_OTHER).symm.trans (eqv_i (Term.int_eval _) c19))
  have F_MID_LETTER_ordinal := Fld.start ((fld_at ev_MID_LETTER).symm.trans (eqv_i (Term.int_eval _) c20))
  have F_MID_NUM_LET_ordinal := Fld.start ((fld_at ev_MID_NUM_LET).symm.trans (eqv_i (Term.int_eval _) c21))
  have F_SINGLE_QUOTE_ordinal := Fld.start ((fld_at ev_SINGLE_QUOTE).symm.trans (eqv_i (Term.int_eval _) c22))
  have F_NEWLINE_ordinal := Fld.start ((fld_at ev_NEWLINE).symm.trans (eqv_i (Term.int_eval _) c23))
  have F_FORMAT_ordinal := Fld.start ((fld_at ev_FORMAT).symm.trans (eqv_i (Term.int_eval _) c24))
  have F_REGIONAL_INDICATOR_ordinal := Fld.start ((fld_at ev_REGIONAL_INDICATOR).symm.trans (eqv_i (Term.int_eval _) c25))
  have F_ALETTER_ordinal := Fld.start ((fld_at ev_ALETTER).symm.trans (eqv_i (Term.int_eval _) c26))
  have F_LF_ordinal := Fld.start ((fld_at ev_LF).symm.trans (eqv_i (Term.int_eval _) c27))
  have F_EXTEND_NUM_LET_ordinal := Fld.start ((fld_at ev_EXTEND_NUM_LET).symm.trans (eqv_i (Term.int_eval _) c28))
  have F_KATAKANA_ordinal := Fld.start ((fld_at ev_KATAKANA).symm.trans (eqv_i (Term.int_eval _) c29))
  have F_HEBREW_LETTER_ordinal := Fld.start ((fld_at ev_HEBREW_LETTER).symm.trans (eqv_i (Term.int_eval _) c30))
  have F_CR_ordinal := Fld.start ((fld_at ev_CR).symm.trans (eqv_i (Term.int_eval _) c31))
  have F_WSEG_SPACE_ordinal := Fld.start ((fld_at ev_WSEG_SPACE).symm.trans (eqv_i (Term.int_eval _) c32))
  have F_ZWJ_ordinal := Fld.start ((fld_at ev_ZWJ).symm.trans (eqv_i (Term.int_eval _) c33))
  have F_DOUBLE_QUOTE_ordinal := Fld.start ((fld_at ev_DOUBLE_QUOTE).symm.trans (eqv_i (Term.int_eval _) c34))
  have F_EXTEND_ordinal := Fld.start ((fld_at ev_EXTEND).symm.trans (eqv_i (Term.int_eval _) c35))
  have F_NUMERIC_ordinal := Fld.start ((fld_at ev_NUMERIC).symm.trans (eqv_i (Term.int_eval _) c36))
  have F_MID_NUM_ordinal := Fld.start ((fld_at ev_MID_NUM).symm.trans (eqv_i (Term.int_eval _) c37))
  obtain ⟨n, o, h1, h2, h3, _, L, rfl, ⟨rfl, N⟩, hq⟩ := rm0 l s _ hw tables_1 s_OTHER s_CR s_LF s_NEWLINE s_EXTEND s_FORMAT s_ZWJ s_ALETTER s_HEBREW_LETTER s_NUMERIC s_KATAKANA s_EXTEND_NUM_LET s_MID_LETTER s_MID_NUM s_MID_NUM_LET s_SINGLE_QUOTE s_DOUBLE_QUOTE s_REGIONAL_INDICATOR s_WSEG_SPACE (show W0 s s_OTHER s_CR s_LF s_NEWLINE s_EXTEND s_FORMAT s_ZWJ s_ALETTER s_HEBREW_LETTER s_NUMERIC s_KATAKANA s_EXTEND_NUM_LET s_MID_LETTER s_MID_NUM s_MID_NUM_LET s_SINGLE_QUOTE s_DOUBLE_QUOTE s_REGIONAL_INDICATOR s_WSEG_SPACE from ⟨E_OTHER, S_OTHER, E_CR, S_CR, E_LF, S_LF, E_NEWLINE, S_NEWLINE, E_EXTEND, S_EXTEND, E_FORMAT, S_FORMAT, E_ZWJ, S_ZWJ, E_ALETTER, S_ALETTER, E_HEBREW_LETTER, S_HEBREW_LETTER, E_NUMERIC, S_NUMERIC, E_KATAKANA, S_KATAKANA, E_EXTEND_NUM_LET, S_EXTEND_NUM_LET, E_MID_LETTER, S_MID_LETTER, E_MID_NUM, S_MID_NUM, E_MID_NUM_LET, S_MID_NUM_LET, E_SINGLE_QUOTE, S_SINGLE_QUOTE, E_DOUBLE_QUOTE, S_DOUBLE_QUOTE, E_REGIONAL_INDICATOR, S_REGIONAL_INDICATOR, E_WSEG_SPACE, S_WSEG_SPACE, F_OTHER_ordinal, F_MID_LETTER_ordinal, F_MID_NUM_LET_ordinal, F_SINGLE_QUOTE_ordinal, F_NEWLINE_ordinal, F_FORMAT_ordinal, F_REGIONAL_INDICATOR_ordinal, F_ALETTER_ordinal, F_LF_ordinal, F_EXTEND_NUM_LET_ordinal, F_KATAKANA_ordinal, F_HEBREW_LETTER_ordinal, F_CR_ordinal, F_WSEG_SPACE_ordinal, F_ZWJ_ordinal, F_DOUBLE_QUOTE_ordinal, F_EXTEND_ordinal, F_NUMERIC_ordinal, F_MID_NUM_ordinal⟩) i0 s.heap s.heap.size (Old.start s) p e ha hc hk s m _ below hf ((Spec.applies_iff_loose hf).mp happ).1 ⟨rfl, State.Warmed39.refl s, rfl⟩ trivial
  refine ⟨n, _, h1, h2, h3, hpost _ _ _ _ _ _ ⟨Cond.after_iff.mpr rfl, Cond.after_iff.mpr (eq_i res_at (Term.int_eval (1)) rfl), trivial⟩ ⟨hq.1, hq.2.1, (hq.2.2.sift fun y hy => Or.inr (N y hy)).mono (by decide) (by decide)⟩⟩
theorem main_1_1 : Claimed_1_1 := comes_1 fun _ _ _ _ _ _ h hF => ⟨h.1, hF⟩
theorem main_1_2 : Claimed_1_2 := comes_1 fun _ _ _ _ _ _ h hF => ⟨h.2.1, hF⟩
end Jvm.Pilot.@@N@@
namespace Jvm.Pilot.@@N@@
open Jvm Jvm.ClassFile Sem Op Lib Jvm.Free Jvm.Stand Jvm.Pilot.@@N@@.Jvm.D
/-! MADE BY PROGRAM (witnessworld.py) out of the Statement's table words and the real class files: 13 classes; the members and pool entries that the words name. The judged class is class 1, her method 1. -/
namespace start1
open Jvm.ClassFile
def u (s : String) : CpInfo := .utf8 (stringToUtf16 s)
/-- a pool by its gaps: so many unusable entries, then the entry; so many at the end -/
def gap : Nat → List CpInfo → List CpInfo
  | 0, r => r
  | n + 1, r => .unusable :: gap n r
def poolList (es : List (Nat × CpInfo)) (last : Nat) : List CpInfo := es.foldr (fun e r => gap e.1 (e.2 :: r)) (gap last [])
def pool (es : List (Nat × CpInfo)) (last : Nat) : Array CpInfo := ⟨poolList es last⟩
def fileOf (pool : Array CpInfo) (this : Nat) (attrs : Array Attribute := #[]) (ms : Array MethodInfo := #[]) (fl : Nat := 33) (sup : Nat := 0) (ifs : Array Nat := #[]) (fds : Array FieldInfo := #[]) : ClassFile where
  minorVersion := 0
  majorVersion := 65
  constantPool := pool
  accessFlags := fl
  thisClass := this
  superClass := sup
  interfaces := ifs
  fields := fds
  methods := ms
  attributes := attrs
def plain (name : String) (sup : Option ClassId) : Class where
  name := name
  kind := .ordinary
  loader := none
  accessFlags := 33
  super := sup
  interfaces := #[]
  cf := none
  fields := #[]
  methods := #[]
  instanceTypes := #[]
  staticTypes := #[]
  resolved := #[]
  callSites := []
  init := .initialized
  statics := none
  mirror := none

def pool0 : Array CpInfo := pool [(5, u "<init>"), (0, u "()V"), (1, .class_ 10), (1, u "java/lang/Object")] 113

def k0m0 : Method := { name := "<init>", desc := "()V", sig := { parameters := [], returnType := none }, accessFlags := 1, code := none }
/-- java/lang/Object -/
def k0 : Class := { plain "java/lang/Object" none with
  accessFlags := 33
  interfaces := #[]
  cf := some (fileOf pool0 8 #[] #[{ accessFlags := 1, nameIndex := 5, descriptorIndex := 6, attributes := #[] }] 33 0 #[] #[])
  fields := #[]
  methods := #[k0m0]
  instanceTypes := #[]
  staticTypes := #[]
  resolved := Array.replicate 124 none
  statics := none }

def pool1 : Array CpInfo := pool [(2, .class_ 4), (1, u "java/lang/Object"), (0, u "<init>"), (0, u "()V"), (0, .class_ 8), (0, u "com/example/hits_from_terms/hitsfromterms/analysis/WordBreak"), (0, .fieldref 7 10), (0, .nameAndType 11 12), (0, u "OTHER"), (0, u "Lcom/example/hits_from_terms/hitsfromterms/analysis/WordBreak;"), (0, .fieldref 7 14), (0, .nameAndType 15 12), (0, u "CR"), (0, .fieldref 7 17), (0, .nameAndType 18 12), (0, u "LF"), (0, .fieldref 7 20), (0, .nameAndType 21 12), (0, u "NEWLINE"), (0, .fieldref 7 23), (0, .nameAndType 24 12), (0, u "EXTEND"), (0, .fieldref 7 26), (0, .nameAndType 27 12), (0, u "FORMAT"), (0, .fieldref 7 29), (0, .nameAndType 30 12), (0, u "ZWJ"), (0, .fieldref 7 32), (0, .nameAndType 33 12), (0, u "ALETTER"), (0, .fieldref 7 35), (0, .nameAndType 36 12), (0, u "HEBREW_LETTER"), (0, .fieldref 7 38), (0, .nameAndType 39 12), (0, u "NUMERIC"), (0, .fieldref 7 41), (0, .nameAndType 42 12), (0, u "KATAKANA"), (0, .fieldref 7 44), (0, .nameAndType 45 12), (0, u "EXTEND_NUM_LET"), (0, .fieldref 7 47), (0, .nameAndType 48 12), (0, u "MID_LETTER"), (0, .fieldref 7 50), (0, .nameAndType 51 12), (0, u "MID_NUM"), (0, .fieldref 7 53), (0, .nameAndType 54 12), (0, u "MID_NUM_LET"), (0, .fieldref 7 56), (0, .nameAndType 57 12), (0, u "SINGLE_QUOTE"), (0, .fieldref 7 59), (0, .nameAndType 60 12), (0, u "DOUBLE_QUOTE"), (0, .fieldref 7 62), (0, .nameAndType 63 12), (0, u "REGIONAL_INDICATOR"), (0, .fieldref 7 65), (0, .nameAndType 66 12), (0, u "WSEG_SPACE"), (0, .integer 2147483647), (0, .methodref 7 69), (0, .nameAndType 70 71), (0, u "isMidLetter"), (0, u "()Z"), (0, .class_ 73), (0, u "com/example/hits_from_terms/hitsfromterms/analysis/WordBreakIsMidLetterPinLaw"), (2, u "law"), (0, u "(I)Z")] 5

def k1m0 : Method := { name := "<init>", desc := "()V", sig := { parameters := [], returnType := none }, accessFlags := 2, code := none }
def k1c1 : Code := { maxStack := 4, maxLocals := 5, code := code, exceptionTable := #[], attributes := #[] }
def k1m1 : Method := { name := "law", desc := "(I)Z", sig := { parameters := [.int], returnType := some .boolean }, accessFlags := 9, code := some k1c1 }
/-- com/example/hits_from_terms/hitsfromterms/analysis/WordBreakIsMidLetterPinLaw -/
def k1 : Class := { plain "com/example/hits_from_terms/hitsfromterms/analysis/WordBreakIsMidLetterPinLaw" (some 0) with
  accessFlags := 49
  interfaces := #[]
  cf := some (fileOf pool1 72 #[] #[{ accessFlags := 2, nameIndex := 5, descriptorIndex := 6, attributes := #[] }, { accessFlags := 9, nameIndex := 76, descriptorIndex := 77, attributes := #[] }] 49 2 #[] #[])
  fields := #[]
  methods := #[k1m0, k1m1]
  instanceTypes := #[]
  staticTypes := #[]
  resolved := Array.replicate 83 none
  statics := none }

def pool2 : Array CpInfo := pool [(1, .class_ 2), (0, u "java/lang/constant/Constable"), (0, .class_ 4), (0, u "java/lang/Object")] 6

/-- java/lang/constant/Constable -/
def k2 : Class := { plain "java/lang/constant/Constable" (some 0) with
  accessFlags := 1537
  interfaces := #[]
  cf := some (fileOf pool2 1 #[] #[] 1537 3 #[] #[])
  fields := #[]
  methods := #[]
  instanceTypes := #[]
  staticTypes := #[]
  resolved := Array.replicate 11 none
  statics := none }

def pool3 : Array CpInfo := pool [(1, .class_ 2), (0, u "java/lang/Comparable"), (0, .class_ 4), (0, u "java/lang/Object")] 7

/-- java/lang/Comparable -/
def k3 : Class := { plain "java/lang/Comparable" (some 0) with
  accessFlags := 1537
  interfaces := #[]
  cf := some (fileOf pool3 1 #[] #[] 1537 3 #[] #[])
  fields := #[]
  methods := #[]
  instanceTypes := #[]
  staticTypes := #[]
  resolved := Array.replicate 12 none
  statics := none }

def pool4 : Array CpInfo := pool [(1, .class_ 2), (0, u "java/io/Serializable"), (0, .class_ 4), (0, u "java/lang/Object")] 2

/-- java/io/Serializable -/
def k4 : Class := { plain "java/io/Serializable" (some 0) with
  accessFlags := 1537
  interfaces := #[]
  cf := some (fileOf pool4 1 #[] #[] 1537 3 #[] #[])
  fields := #[]
  methods := #[]
  instanceTypes := #[]
  staticTypes := #[]
  resolved := Array.replicate 7 none
  statics := none }

def pool5 : Array CpInfo := pool [(2, .class_ 4), (1, u "java/lang/Enum"), (0, u "name"), (0, u "Ljava/lang/String;"), (2, u "ordinal"), (0, u "I"), (1, .class_ 14), (1, u "java/lang/Object"), (4, u "hash"), (86, .class_ 108), (1, u "java/lang/Enum$EnumDesc"), (2, .class_ 112), (0, u "java/lang/constant/Constable"), (0, .class_ 114), (0, u "java/lang/Comparable"), (0, .class_ 116), (0, u "java/io/Serializable")] 87

/-- java/lang/Enum -/
def k5 : Class := { plain "java/lang/Enum" (some 0) with
  accessFlags := 1057
  interfaces := #[2, 3, 4]
  cf := some (fileOf pool5 2 #[.nestMembers #[106]] #[] 1057 12 #[111, 113, 115] #[{ accessFlags := 18, nameIndex := 5, descriptorIndex := 6, attributes := #[] }, { accessFlags := 18, nameIndex := 9, descriptorIndex := 10, attributes := #[] }, { accessFlags := 2, nameIndex := 19, descriptorIndex := 10, attributes := #[] }])
  fields := #[{ name := "name", type := (.object "java/lang/String"), accessFlags := 18, slot := 0, constantValue := 0 }, { name := "ordinal", type := .int, accessFlags := 18, slot := 1, constantValue := 0 }, { name := "hash", type := .int, accessFlags := 2, slot := 2, constantValue := 0 }]
  methods := #[]
  instanceTypes := #[(.object "java/lang/String"), .int, .int]
  staticTypes := #[]
  resolved := Array.replicate 204 none
  statics := none }

def pool6 : Array CpInfo := pool [(1, .class_ 2), (0, u "com/example/hits_from_terms/hitsfromterms/analysis/WordBreak"), (2, u "OTHER"), (0, u "Lcom/example/hits_from_terms/hitsfromterms/analysis/WordBreak;"), (2, u "CR"), (2, u "LF"), (2, u "NEWLINE"), (2, u "EXTEND"), (2, u "FORMAT"), (2, u "ZWJ"), (2, u "ALETTER"), (2, u "HEBREW_LETTER"), (2, u "NUMERIC"), (2, u "KATAKANA"), (2, u "EXTEND_NUM_LET"), (0, .fieldref 1 41), (0, .nameAndType 42 6), (0, u "MID_LETTER"), (2, u "MID_NUM"), (0, .fieldref 1 47), (0, .nameAndType 48 6), (0, u "MID_NUM_LET"), (0, .fieldref 1 50), (0, .nameAndType 51 6), (0, u "SINGLE_QUOTE"), (2, u "DOUBLE_QUOTE"), (2, u "REGIONAL_INDICATOR"), (2, u "WSEG_SPACE"), (2, u "$VALUES"), (0, u "[Lcom/example/hits_from_terms/hitsfromterms/analysis/WordBreak;"), (6, .class_ 73), (1, u "java/lang/Enum"), (18, u "VALUES"), (46, u "()Z"), (2, u "isMidLetter")] 5

def k6c0 : Code := { maxStack := 2, maxLocals := 1, code := prog_18_method_9_code, exceptionTable := #[], attributes := #[] }
def k6m0 : Method := { name := "isMidLetter", desc := "()Z", sig := { parameters := [], returnType := some .boolean }, accessFlags := 0, code := some k6c0 }
/-- com/example/hits_from_terms/hitsfromterms/analysis/WordBreak -/
def k6 : Class := { plain "com/example/hits_from_terms/hitsfromterms/analysis/WordBreak" (some 5) with
  accessFlags := 16432
  interfaces := #[]
  cf := some (fileOf pool6 1 #[] #[{ accessFlags := 0, nameIndex := 142, descriptorIndex := 139, attributes := #[] }] 16432 71 #[] #[{ accessFlags := 16409, nameIndex := 5, descriptorIndex := 6, attributes := #[] }, { accessFlags := 16409, nameIndex := 9, descriptorIndex := 6, attributes := #[] }, { accessFlags := 16409, nameIndex := 12, descriptorIndex := 6, attributes := #[] }, { accessFlags := 16409, nameIndex := 15, descriptorIndex := 6, attributes := #[] }, { accessFlags := 16409, nameIndex := 18, descriptorIndex := 6, attributes := #[] }, { accessFlags := 16409, nameIndex := 21, descriptorIndex := 6, attributes := #[] }, { accessFlags := 16409, nameIndex := 24, descriptorIndex := 6, attributes := #[] }, { accessFlags := 16409, nameIndex := 27, descriptorIndex := 6, attributes := #[] }, { accessFlags := 16409, nameIndex := 30, descriptorIndex := 6, attributes := #[] }, { accessFlags := 16409, nameIndex := 33, descriptorIndex := 6, attributes := #[] }, { accessFlags := 16409, nameIndex := 36, descriptorIndex := 6, attributes := #[] }, { accessFlags := 16409, nameIndex := 39, descriptorIndex := 6, attributes := #[] }, { accessFlags := 16409, nameIndex := 42, descriptorIndex := 6, attributes := #[] }, { accessFlags := 16409, nameIndex := 45, descriptorIndex := 6, attributes := #[] }, { accessFlags := 16409, nameIndex := 48, descriptorIndex := 6, attributes := #[] }, { accessFlags := 16409, nameIndex := 51, descriptorIndex := 6, attributes := #[] }, { accessFlags := 16409, nameIndex := 54, descriptorIndex := 6, attributes := #[] }, { accessFlags := 16409, nameIndex := 57, descriptorIndex := 6, attributes := #[] }, { accessFlags := 16409, nameIndex := 60, descriptorIndex := 6, attributes := #[] }, { accessFlags := 26, nameIndex := 92, descriptorIndex := 64, attributes := #[] }, { accessFlags := 4122, nameIndex := 63, descriptorIndex := 64, attributes := #[] }])
  fields := #[{ name := "OTHER", type := (.object "com/example/hits_from_terms/hitsfromterms/analysis/WordBreak"), accessFlags := 16409, slot := 0, constantValue := 0 }, { name := "CR", type := (.object "com/example/hits_from_terms/hitsfromterms/analysis/WordBreak"), accessFlags := 16409, slot := 1, constantValue := 0 }, { name := "LF", type := (.object "com/example/hits_from_terms/hitsfromterms/analysis/WordBreak"), accessFlags := 16409, slot := 2, constantValue := 0 }, { name := "NEWLINE", type := (.object "com/example/hits_from_terms/hitsfromterms/analysis/WordBreak"), accessFlags := 16409, slot := 3, constantValue := 0 }, { name := "EXTEND", type := (.object "com/example/hits_from_terms/hitsfromterms/analysis/WordBreak"), accessFlags := 16409, slot := 4, constantValue := 0 }, { name := "FORMAT", type := (.object "com/example/hits_from_terms/hitsfromterms/analysis/WordBreak"), accessFlags := 16409, slot := 5, constantValue := 0 }, { name := "ZWJ", type := (.object "com/example/hits_from_terms/hitsfromterms/analysis/WordBreak"), accessFlags := 16409, slot := 6, constantValue := 0 }, { name := "ALETTER", type := (.object "com/example/hits_from_terms/hitsfromterms/analysis/WordBreak"), accessFlags := 16409, slot := 7, constantValue := 0 }, { name := "HEBREW_LETTER", type := (.object "com/example/hits_from_terms/hitsfromterms/analysis/WordBreak"), accessFlags := 16409, slot := 8, constantValue := 0 }, { name := "NUMERIC", type := (.object "com/example/hits_from_terms/hitsfromterms/analysis/WordBreak"), accessFlags := 16409, slot := 9, constantValue := 0 }, { name := "KATAKANA", type := (.object "com/example/hits_from_terms/hitsfromterms/analysis/WordBreak"), accessFlags := 16409, slot := 10, constantValue := 0 }, { name := "EXTEND_NUM_LET", type := (.object "com/example/hits_from_terms/hitsfromterms/analysis/WordBreak"), accessFlags := 16409, slot := 11, constantValue := 0 }, { name := "MID_LETTER", type := (.object "com/example/hits_from_terms/hitsfromterms/analysis/WordBreak"), accessFlags := 16409, slot := 12, constantValue := 0 }, { name := "MID_NUM", type := (.object "com/example/hits_from_terms/hitsfromterms/analysis/WordBreak"), accessFlags := 16409, slot := 13, constantValue := 0 }, { name := "MID_NUM_LET", type := (.object "com/example/hits_from_terms/hitsfromterms/analysis/WordBreak"), accessFlags := 16409, slot := 14, constantValue := 0 }, { name := "SINGLE_QUOTE", type := (.object "com/example/hits_from_terms/hitsfromterms/analysis/WordBreak"), accessFlags := 16409, slot := 15, constantValue := 0 }, { name := "DOUBLE_QUOTE", type := (.object "com/example/hits_from_terms/hitsfromterms/analysis/WordBreak"), accessFlags := 16409, slot := 16, constantValue := 0 }, { name := "REGIONAL_INDICATOR", type := (.object "com/example/hits_from_terms/hitsfromterms/analysis/WordBreak"), accessFlags := 16409, slot := 17, constantValue := 0 }, { name := "WSEG_SPACE", type := (.object "com/example/hits_from_terms/hitsfromterms/analysis/WordBreak"), accessFlags := 16409, slot := 18, constantValue := 0 }, { name := "VALUES", type := (.array (.object "com/example/hits_from_terms/hitsfromterms/analysis/WordBreak")), accessFlags := 26, slot := 19, constantValue := 0 }, { name := "$VALUES", type := (.array (.object "com/example/hits_from_terms/hitsfromterms/analysis/WordBreak")), accessFlags := 4122, slot := 20, constantValue := 0 }]
  methods := #[k6m0]
  instanceTypes := #[(.object "java/lang/String"), .int, .int]
  staticTypes := #[(.object "com/example/hits_from_terms/hitsfromterms/analysis/WordBreak"), (.object "com/example/hits_from_terms/hitsfromterms/analysis/WordBreak"), (.object "com/example/hits_from_terms/hitsfromterms/analysis/WordBreak"), (.object "com/example/hits_from_terms/hitsfromterms/analysis/WordBreak"), (.object "com/example/hits_from_terms/hitsfromterms/analysis/WordBreak"), (.object "com/example/hits_from_terms/hitsfromterms/analysis/WordBreak"), (.object "com/example/hits_from_terms/hitsfromterms/analysis/WordBreak"), (.object "com/example/hits_from_terms/hitsfromterms/analysis/WordBreak"), (.object "com/example/hits_from_terms/hitsfromterms/analysis/WordBreak"), (.object "com/example/hits_from_terms/hitsfromterms/analysis/WordBreak"), (.object "com/example/hits_from_terms/hitsfromterms/analysis/WordBreak"), (.object "com/example/hits_from_terms/hitsfromterms/analysis/WordBreak"), (.object "com/example/hits_from_terms/hitsfromterms/analysis/WordBreak"), (.object "com/example/hits_from_terms/hitsfromterms/analysis/WordBreak"), (.object "com/example/hits_from_terms/hitsfromterms/analysis/WordBreak"), (.object "com/example/hits_from_terms/hitsfromterms/analysis/WordBreak"), (.object "com/example/hits_from_terms/hitsfromterms/analysis/WordBreak"), (.object "com/example/hits_from_terms/hitsfromterms/analysis/WordBreak"), (.object "com/example/hits_from_terms/hitsfromterms/analysis/WordBreak"), (.array (.object "com/example/hits_from_terms/hitsfromterms/analysis/WordBreak")), (.array (.object "com/example/hits_from_terms/hitsfromterms/analysis/WordBreak"))]
  resolved := Array.replicate 148 none
  statics := some 0 }

def pool7 : Array CpInfo := pool [(1, u "java/lang/Cloneable"), (0, .class_ 1), (0, u "java/lang/Object"), (0, .class_ 3)] 3

/-- java/lang/Cloneable -/
def k7 : Class := { plain "java/lang/Cloneable" (some 0) with
  accessFlags := 1537
  interfaces := #[]
  cf := some (fileOf pool7 2 #[] #[] 1537 4 #[] #[])
  fields := #[]
  methods := #[]
  instanceTypes := #[]
  staticTypes := #[]
  resolved := Array.replicate 8 none
  statics := none }

/-- the primitive byte -/
def k8 : Class := { plain "byte" none with kind := .primitive 'B', accessFlags := 0x411 }
/-- [B -/
def k9 : Class := { plain "[B" (some 0) with kind := .array 8 .byte, interfaces := #[7, 4], accessFlags := 1041 }

/-- the primitive int -/
def k10 : Class := { plain "int" none with kind := .primitive 'I', accessFlags := 0x411 }
/-- [I -/
def k11 : Class := { plain "[I" (some 0) with kind := .array 10 .int, interfaces := #[7, 4], accessFlags := 1041 }

/-- [Lcom/example/hits_from_terms/hitsfromterms/analysis/WordBreak; -/
def k12 : Class := { plain "[Lcom/example/hits_from_terms/hitsfromterms/analysis/WordBreak;" (some 0) with kind := .array 6 (.object "com/example/hits_from_terms/hitsfromterms/analysis/WordBreak"), interfaces := #[7, 4], accessFlags := 1041 }

def heap : Heap := #[{ cls := 6, slots := #[.ref 1, .ref 2, .ref 3, .ref 4, .ref 5, .ref 6, .ref 7, .ref 8, .ref 9, .ref 10, .ref 11, .ref 12, .ref 13, .ref 14, .ref 15, .ref 16, .ref 17, .ref 18, .ref 19, .null, .null], vm := .statics 6 },
  { cls := 6, slots := #[.null, .int 0, .int 0], vm := .none },
  { cls := 6, slots := #[.null, .int 1, .int 0], vm := .none },
  { cls := 6, slots := #[.null, .int 2, .int 0], vm := .none },
  { cls := 6, slots := #[.null, .int 3, .int 0], vm := .none },
  { cls := 6, slots := #[.null, .int 4, .int 0], vm := .none },
  { cls := 6, slots := #[.null, .int 5, .int 0], vm := .none },
  { cls := 6, slots := #[.null, .int 6, .int 0], vm := .none },
  { cls := 6, slots := #[.null, .int 7, .int 0], vm := .none },
  { cls := 6, slots := #[.null, .int 8, .int 0], vm := .none },
  { cls := 6, slots := #[.null, .int 9, .int 0], vm := .none },
  { cls := 6, slots := #[.null, .int 10, .int 0], vm := .none },
  { cls := 6, slots := #[.null, .int 11, .int 0], vm := .none },
  { cls := 6, slots := #[.null, .int 12, .int 0], vm := .none },
  { cls := 6, slots := #[.null, .int 13, .int 0], vm := .none },
  { cls := 6, slots := #[.null, .int 14, .int 0], vm := .none },
  { cls := 6, slots := #[.null, .int 15, .int 0], vm := .none },
  { cls := 6, slots := #[.null, .int 16, .int 0], vm := .none },
  { cls := 6, slots := #[.null, .int 17, .int 0], vm := .none },
  { cls := 6, slots := #[.null, .int 18, .int 0], vm := .none }]
def classes : Array Class := #[k0, k1, k2, k3, k4, k5, k6, k7, k8, k9, k10, k11, k12]
def interned : List (Array UInt16 × Addr) := []
def slotsUsed : Nat := 78
def theMethod : MethodId := ⟨1, 1⟩
def args0 : Array Value := #[.int 5]
def aboutOver (below : List Frame) : State where
  vm := { classes := classes, interned := interned.toArray }
  heap := heap
  slotsUsed := slotsUsed
  threads := #[{ frames := .invoking theMethod args0 :: below }]
def below0 : List Frame := [.native { method := ⟨0, 0⟩, args := #[] }]
def about1 : State := aboutOver below0
def p0 : Program := .bare "" "" ""
def e0 : Env := launch0.env 0 0 0
theorem w_frames : about1.frames = Frame.invoking theMethod args0 :: below0 := rfl
set_option maxRecDepth 65536 in
theorem w_args : argsFit about1.vm theMethod args0 = true := by decide +kernel
set_option maxRecDepth 65536 in
theorem w_heap : heapFits about1 = true := by decide +kernel
set_option maxRecDepth 65536 in
theorem w_runnable : about1.curStatus? = some .runnable := by decide +kernel
set_option maxRecDepth 65536 in
theorem w_alone : about1.alone = true := by decide +kernel
set_option maxRecDepth 65536 in
theorem w_named : about1.methodNamed? x = some theMethod := by decide +kernel
set_option maxRecDepth 65536 in
theorem w_hears : about1.hears theMethod below0 = true := by decide +kernel
set_option maxRecDepth 65536 in
theorem w_ripe : about1.ripe theMethod args0 below0 = true := by decide +kernel
theorem w_running : about1.status = .running := rfl
set_option maxRecDepth 65536 in
theorem w_room : about1.hasRoom e0.platform room_1 = true :=
  launch0.hasRoom_least _ room_1 (by decide +kernel) (by decide +kernel) (by decide +kernel) (by decide +kernel) (by decide +kernel) (by decide +kernel)
theorem allAtoms_all (ts : List Jvm.Cond) (a : Array Jvm.Value) (st : Jvm.State) : (allAtoms ts).before a st = ts.all (fun c => c.before a st) := by
  induction ts with
  | nil => rfl
  | cons c t ih =>
    show (Jvm.Cond.and c (allAtoms t)).before a st = _
    rw [Jvm.Cond.before_and, ih, List.all_cons]
def words1 : List Jvm.Cond := Jvm.Cond.code x code maxLocals ret :: tables_1
/-- a 'code' word, met by the world's own term for the bytes: nothing is compared byte by byte -/
theorem code_word {y : MethodName} {bytes : ByteArray} {mx : Nat} {rt : Option FieldType} {a : Array Value} {s : State} {m : MethodId} {meth : Method} {c : Code} (h1 : s.methodNamed? y = some m) (h2 : s.vm.method? m = some meth) (h3 : meth.code = some c) (h4 : c.code = bytes)
    (h5 : (c.maxLocals == mx && c.exceptionTable.isEmpty && decide (c.maxStack ≤ mostOperands) && decide (meth.sig.returnType = rt) && !meth.locks && decide (parseMethodDescriptor y.desc = some meth.sig)) = true) : (Jvm.Cond.code y bytes mx rt).before a s = true := by
  simp only [Bool.and_eq_true, beq_iff_eq, Bool.not_eq_true', decide_eq_true_eq] at h5
  obtain ⟨⟨⟨⟨⟨g1, g2⟩, g3⟩, g4⟩, g5⟩, g6⟩ := h5
  simp [Cond.before, Cond.holds, Cond.value, h1, h2, h3, h4, g1, g2, g3, g4, g5, g6]
def isCode : Jvm.Cond → Bool
  | .code _ _ _ _ => true
  | _ => false
theorem all_split {L : List Jvm.Cond} {P : Jvm.Cond → Bool} (h1 : L.all (fun c => isCode c || P c) = true) (h2 : ∀ c ∈ L.filter isCode, P c = true) : L.all P = true := by
  refine List.all_eq_true.mpr fun c hc => ?_
  have h := List.all_eq_true.mp h1 c hc
  rcases Bool.eq_false_or_eq_true (isCode c) with hi | hi
  · exact h2 c (List.mem_filter.mpr ⟨hc, hi⟩)
  · simpa [hi] using h
set_option maxRecDepth 65536 in
theorem w_c0 : (Jvm.Cond.code x code maxLocals ret).before args0 about1 = true := code_word (m := ⟨1, 1⟩) (meth := k1m1) (c := k1c1) (by decide +kernel) rfl rfl rfl (by decide +kernel)
set_option maxRecDepth 65536 in
theorem w_c1 : (Jvm.Cond.code ({ cls := "com/example/hits_from_terms/hitsfromterms/analysis/WordBreak", name := "isMidLetter", desc := "()Z" } : Jvm.MethodName) prog_18_method_9_code (1 : Nat) (Option.some Jvm.ClassFile.FieldType.boolean)).before args0 about1 = true := code_word (m := ⟨6, 0⟩) (meth := k6m0) (c := k6c0) (by decide +kernel) rfl rfl rfl (by decide +kernel)
def codes1 : List Jvm.Cond := [Jvm.Cond.code x code maxLocals ret, Jvm.Cond.code ({ cls := "com/example/hits_from_terms/hitsfromterms/analysis/WordBreak", name := "isMidLetter", desc := "()Z" } : Jvm.MethodName) prog_18_method_9_code (1 : Nat) (Option.some Jvm.ClassFile.FieldType.boolean)]
set_option maxRecDepth 65536 in
theorem codes_eq : words1.filter isCode = codes1 := rfl
theorem w_codes : ∀ c ∈ words1.filter isCode, c.before args0 about1 = true := by
  rw [codes_eq]
  intro c hc
  simp only [codes1, List.mem_cons, List.not_mem_nil, or_false] at hc
  rcases hc with rfl | rfl
  · exact w_c0
  · exact w_c1
set_option maxRecDepth 65536 in
theorem w_t1 : (words1.take 24).all (fun c => isCode c || c.before args0 about1) = true := by decide +kernel
set_option maxRecDepth 65536 in
theorem w_t2 : ((words1.drop 24).take 24).all (fun c => isCode c || c.before args0 about1) = true := by decide +kernel
set_option maxRecDepth 65536 in
theorem w_t3 : ((words1.drop 24).drop 24).all (fun c => isCode c || c.before args0 about1) = true := by decide +kernel
theorem w_tables : (allAtoms (Jvm.Cond.code x code maxLocals ret :: tables_1)).before args0 about1 = true := by
  rw [allAtoms_all]
  show words1.all (fun c => c.before args0 about1) = true
  refine all_split ?_ w_codes
  rw [← List.take_append_drop 24 words1, List.all_append, w_t1, ← List.take_append_drop 24 (words1.drop 24), List.all_append, w_t2, w_t3]
  rfl
set_option maxRecDepth 65536 in
theorem w_case : (Jvm.Cond.and given_1 narrow_1).before args0 about1 = true := by decide +kernel
theorem w_applies : (headSpec (Jvm.Cond.code x code maxLocals ret :: tables_1) room_1).applies x e0.platform about1 = true :=
  (Spec.applies_iff w_frames).mpr ⟨w_running, w_runnable, w_alone, w_named, w_hears, w_ripe, w_room, w_tables⟩
theorem atStart : AtStart classFile x code maxLocals ret World_1 tables_1 room_1 Calls_1 rest_1 Pre_1 launch0 p0 e0 about1 theMethod args0 below0 :=
  ⟨lists_1, trivial, launch0.admits_env _ _ _, launch0.least_env, fairChoices_fair.cas, fairChoices_fair.clock, w_frames, w_args, w_heap, w_applies, trivial, trivial, w_case⟩
end start1
theorem witness_1 : WitnessClaimed_1 := ⟨start1.p0, start1.e0, start1.about1, start1.theMethod, start1.args0, start1.below0, start1.atStart⟩
end Jvm.Pilot.@@N@@
