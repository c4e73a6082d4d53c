import JvmDerived
import JvmDerived.Pilot.@@N@@Statement
import JvmDerived.Pilot.@@N@@Code
set_option linter.unusedVariables false
set_option linter.unusedSimpArgs false
namespace Jvm.RoadKit
open Sem ClassFile Op Lib Jvm.Stand Jvm.Free Jvm.LawKit
section New
variable {p : Program} {l : Launch} {e : Env} {R : Room} {s : State} {m : MethodId} {args : Array Value} {below : List Frame} {meth : Method} {c : Code} {T : State} {locs : List Loc} {cells slots : Nat}
theorem retI (X : Stand p l e R s m args below meth c T locs cells slots) (hx : p.tables.exec = Jvm.exec) {pc : Nat} {Ls : Array Slot} {z : Int32} {rest : List Value} (hret : meth.sig.returnType = some .int) (hd : decode c.code pc = .ok (.ireturn, 1)) {fs : List Frame}
    (hl : ∀ (f : JFrame) (acts : List Action), f.method = m → f.locked = none → f.entered = [] → (doReturn e (T.setTop f) acts (some (.int z))).1 = T.setFrames fs) : Steps p.tables e below (T.setTop (mkF m pc Ls (.int z :: rest))) (T.setFrames fs) := by
  have hm' : T.vm.method? m = some meth := X.method'
  have hn : narrow .int (.int z) = .int z := rfl
  show Steps p.tables e below (T.setTop { method := m, pc := pc, locals := Ls, stack := _ :: rest, locked := none }) _
  jvm_step X.here [X.here.top, hx, hd, hm', hret, hn]
  first | (intro acts; rw [hl _ acts rfl rfl rfl]) | rw [hl _ _ rfl rfl rfl]
  exact Steps.refl _
theorem eqv_r {Z : State} {args : Array Value} {X F : Term} {idx : List Nat} {y : Addr} (hF : F.eval args Z none idx Z = some (.ref y)) (h : (Cond.eq X F).value args Z none Z idx = some true) : X.eval args Z none idx Z = some (.ref y) := by
  obtain ⟨x, y', e1, e2, k1, k2⟩ := cmp_v (Or.inl h)
  cases hF.symm.trans e2
  have hx : x.isRef = true := k2.2
  have q : x = .ref y := gotT (eq_R e1 hF hx rfl) h
  rw [e1, q]
end New
end Jvm.RoadKit
namespace Jvm.Pilot.@@N@@
open Jvm Jvm.ClassFile Sem Op Lib Jvm.Free Jvm.Stand Jvm.LawKit Jvm.RoadKit Bundle Jvm.Pilot.@@N@@.Jvm.D
theorem own_eT {Z T : State} {h : Heap} {a : Addr} {c : Cell} {ty : FieldType} (e : T.heap = h) (A : Arr Z h a c ty) : T.heap[a]? = some c := by rw [e]; exact A.1
def Go (p : Program) (e : Env) (below : List Frame) (Qf : Outcome → State → Prop) (W : State) : Prop := ∃ s₂ o, Steps p.tables e below W s₂ ∧ s₂.status = .running ∧ Ended s₂ below o ∧ Qf o s₂
theorem Go.st {p : Program} {e : Env} {below : List Frame} {Qf : Outcome → State → Prop} {W V' : State} (h : ∀ t, Steps p.tables e below V' t → Steps p.tables e below W t) (g : Go p e below Qf V') : Go p e below Qf W := by
  obtain ⟨s₂, o, g1, g2⟩ := g
  exact ⟨s₂, o, h _ g1, g2⟩
theorem Go.out {p : Program} {e : Env} {below : List Frame} {Qf : Outcome → State → Prop} {W : State} (g : Go p e below Qf W) : ∃ s₂ o, Steps p.tables e below W s₂ ∧ s₂.status = .running ∧ Ended s₂ below o ∧ Qf o s₂ := g
theorem Go.mk' {p : Program} {e : Env} {below : List Frame} {Qf : Outcome → State → Prop} {W : State} (g : ∃ s₂ o, Steps p.tables e below W s₂ ∧ s₂.status = .running ∧ Ended s₂ below o ∧ Qf o s₂) : Go p e below Qf W := g
theorem own_rng (x d : Int32) (D : Int) (hd : d.toInt = D) (h0 : 0 < D) : 0 ≤ ((x &&& (2147483647 : Int32)) % d).toInt ∧ ((x &&& (2147483647 : Int32)) % d).toInt < D := by
  have a := c_and x 2147483647 (by decide)
  have b := (c_irem (x &&& 2147483647) d D hd).1 a.1
  rw [b]
  exact ⟨Int.emod_nonneg _ (by omega), Int.emod_lt_of_pos _ h0⟩
theorem own_cases19 {k : Int32} (h : 0 ≤ k.toInt ∧ k.toInt < 19) : k = (0 : Int32) ∨ k = (1 : Int32) ∨ k = (2 : Int32) ∨ k = (3 : Int32) ∨ k = (4 : Int32) ∨ k = (5 : Int32) ∨ k = (6 : Int32) ∨ k = (7 : Int32) ∨ k = (8 : Int32) ∨ k = (9 : Int32) ∨ k = (10 : Int32) ∨ k = (11 : Int32) ∨ k = (12 : Int32) ∨ k = (13 : Int32) ∨ k = (14 : Int32) ∨ k = (15 : Int32) ∨ k = (16 : Int32) ∨ k = (17 : Int32) ∨ k = (18 : Int32) := by
  have e : ∀ n : Int32, k.toInt = n.toInt → k = n := fun n h => Int32.toInt_inj.mp h
  have q : k.toInt = 0 ∨ k.toInt = 1 ∨ k.toInt = 2 ∨ k.toInt = 3 ∨ k.toInt = 4 ∨ k.toInt = 5 ∨ k.toInt = 6 ∨ k.toInt = 7 ∨ k.toInt = 8 ∨ k.toInt = 9 ∨ k.toInt = 10 ∨ k.toInt = 11 ∨ k.toInt = 12 ∨ k.toInt = 13 ∨ k.toInt = 14 ∨ k.toInt = 15 ∨ k.toInt = 16 ∨ k.toInt = 17 ∨ k.toInt = 18 := by omega
  rcases q with q | q | q | q | q | q | q | q | q | q | q | q | q | q | q | q | q | q | q
  · exact Or.inl (e 0 (q.trans (by decide)))
  · exact Or.inr (Or.inl (e 1 (q.trans (by decide))))
  · exact Or.inr (Or.inr (Or.inl (e 2 (q.trans (by decide)))))
  · exact Or.inr (Or.inr (Or.inr (Or.inl (e 3 (q.trans (by decide))))))
  · exact Or.inr (Or.inr (Or.inr (Or.inr (Or.inl (e 4 (q.trans (by decide)))))))
  · exact Or.inr (Or.inr (Or.inr (Or.inr (Or.inr (Or.inl (e 5 (q.trans (by decide))))))))
  · exact Or.inr (Or.inr (Or.inr (Or.inr (Or.inr (Or.inr (Or.inl (e 6 (q.trans (by decide)))))))))
  · exact Or.inr (Or.inr (Or.inr (Or.inr (Or.inr (Or.inr (Or.inr (Or.inl (e 7 (q.trans (by decide))))))))))
  · exact Or.inr (Or.inr (Or.inr (Or.inr (Or.inr (Or.inr (Or.inr (Or.inr (Or.inl (e 8 (q.trans (by decide)))))))))))
  · exact Or.inr (Or.inr (Or.inr (Or.inr (Or.inr (Or.inr (Or.inr (Or.inr (Or.inr (Or.inl (e 9 (q.trans (by decide))))))))))))
  · exact Or.inr (Or.inr (Or.inr (Or.inr (Or.inr (Or.inr (Or.inr (Or.inr (Or.inr (Or.inr (Or.inl (e 10 (q.trans (by decide)))))))))))))
  · exact Or.inr (Or.inr (Or.inr (Or.inr (Or.inr (Or.inr (Or.inr (Or.inr (Or.inr (Or.inr (Or.inr (Or.inl (e 11 (q.trans (by decide))))))))))))))
  · exact Or.inr (Or.inr (Or.inr (Or.inr (Or.inr (Or.inr (Or.inr (Or.inr (Or.inr (Or.inr (Or.inr (Or.inr (Or.inl (e 12 (q.trans (by decide)))))))))))))))
  · exact Or.inr (Or.inr (Or.inr (Or.inr (Or.inr (Or.inr (Or.inr (Or.inr (Or.inr (Or.inr (Or.inr (Or.inr (Or.inr (Or.inl (e 13 (q.trans (by decide))))))))))))))))
  · exact Or.inr (Or.inr (Or.inr (Or.inr (Or.inr (Or.inr (Or.inr (Or.inr (Or.inr (Or.inr (Or.inr (Or.inr (Or.inr (Or.inr (Or.inl (e 14 (q.trans (by decide)))))))))))))))))
  · exact Or.inr (Or.inr (Or.inr (Or.inr (Or.inr (Or.inr (Or.inr (Or.inr (Or.inr (Or.inr (Or.inr (Or.inr (Or.inr (Or.inr (Or.inr (Or.inl (e 15 (q.trans (by decide))))))))))))))))))
  · exact Or.inr (Or.inr (Or.inr (Or.inr (Or.inr (Or.inr (Or.inr (Or.inr (Or.inr (Or.inr (Or.inr (Or.inr (Or.inr (Or.inr (Or.inr (Or.inr (Or.inl (e 16 (q.trans (by decide)))))))))))))))))))
  · exact Or.inr (Or.inr (Or.inr (Or.inr (Or.inr (Or.inr (Or.inr (Or.inr (Or.inr (Or.inr (Or.inr (Or.inr (Or.inr (Or.inr (Or.inr (Or.inr (Or.inr (Or.inl (e 17 (q.trans (by decide))))))))))))))))))))
  · exact Or.inr (Or.inr (Or.inr (Or.inr (Or.inr (Or.inr (Or.inr (Or.inr (Or.inr (Or.inr (Or.inr (Or.inr (Or.inr (Or.inr (Or.inr (Or.inr (Or.inr (Or.inr (e 18 (q.trans (by decide))))))))))))))))))))
theorem own_len {s : State} {args : Array Value} {t : Term} {a : Addr} {cl : Cell} {ty : FieldType} {n : Int32} (et : t.eval args s none [] s = some (.ref a)) (A : Arr s s.heap a cl ty) (h : (Jvm.Cond.eq (.length t) (.int n)).value args s none s [] = some true) : cl.slots.size < 2 ^ 31 ∧ cl.slots.size.toInt32 = n := by
  have q := eqv_i (Term.int_eval n) h
  have f := A.fin (U := s) (Vm.Alike.refl _)
  simp only [Term.eval, et, f, Option.bind_eq_bind, Option.bind_some] at q
  split at q
  · rename_i hs
    exact ⟨hs, by simpa using q⟩
  · simp at q
theorem own_elr {s : State} {args : Array Value} {t F : Term} {a y : Addr} {cl : Cell} {ty : FieldType} {j : Int32} {i : Nat} (et : t.eval args s none [] s = some (.ref a)) (A : Arr s s.heap a cl ty) (eX : F.eval args s none [] s = some (.ref y)) (h : (Jvm.Cond.eq (.elem t (.int j)) F).value args s none s [] = some true) (hj : ¬ j < 0) (hi : j.toNatClampNeg = i) : cl.slots[i]? = some (.ref y) :=
  hi ▸ (elem_f et (Term.int_eval j) (A.fin (Vm.Alike.refl _)) hj).symm.trans (eqv_r eX h)
def W0 (Z : State) (s_OTHER : Addr) (s_CR : Addr) (s_LF : Addr) (s_NEWLINE : Addr) (s_SINGLE_QUOTE : Addr) (s_FORMAT : Addr) (s_REGIONAL_INDICATOR : Addr) (s_ALETTER : Addr) (s_EXTEND_NUM_LET : Addr) (s_KATAKANA : Addr) (s_HEBREW_LETTER : Addr) (s_MID_NUM_LET : Addr) (s_WSEG_SPACE : Addr) (s_ZWJ : Addr) (s_DOUBLE_QUOTE : Addr) (s_EXTEND : Addr) (s_NUMERIC : Addr) (s_MID_LETTER : Addr) (s_MID_NUM : Addr) (s_VALUES : Addr) (k_VALUES : ClassId) : Prop :=
  (Exa Z Z.heap s_OTHER "com/example/hits_from_terms/hitsfromterms/analysis/WordBreak") ∧
  (Sta Z Z.heap "com/example/hits_from_terms/hitsfromterms/analysis/WordBreak" "OTHER" "Lcom/example/hits_from_terms/hitsfromterms/analysis/WordBreak;" (.ref s_OTHER)) ∧
  (Exa Z Z.heap s_CR "com/example/hits_from_terms/hitsfromterms/analysis/WordBreak") ∧
  (Sta Z Z.heap "com/example/hits_from_terms/hitsfromterms/analysis/WordBreak" "CR" "Lcom/example/hits_from_terms/hitsfromterms/analysis/WordBreak;" (.ref s_CR)) ∧
  (Exa Z Z.heap s_LF "com/example/hits_from_terms/hitsfromterms/analysis/WordBreak") ∧
  (Sta Z Z.heap "com/example/hits_from_terms/hitsfromterms/analysis/WordBreak" "LF" "Lcom/example/hits_from_terms/hitsfromterms/analysis/WordBreak;" (.ref s_LF)) ∧
  (Exa Z Z.heap s_NEWLINE "com/example/hits_from_terms/hitsfromterms/analysis/WordBreak") ∧
  (Sta Z Z.heap "com/example/hits_from_terms/hitsfromterms/analysis/WordBreak" "NEWLINE" "Lcom/example/hits_from_terms/hitsfromterms/analysis/WordBreak;" (.ref s_NEWLINE)) ∧
  (Exa Z Z.heap s_SINGLE_QUOTE "com/example/hits_from_terms/hitsfromterms/analysis/WordBreak") ∧
  (Sta Z Z.heap "com/example/hits_from_terms/hitsfromterms/analysis/WordBreak" "SINGLE_QUOTE" "Lcom/example/hits_from_terms/hitsfromterms/analysis/WordBreak;" (.ref s_SINGLE_QUOTE)) ∧
  (Exa Z Z.heap s_FORMAT "com/example/hits_from_terms/hitsfromterms/analysis/WordBreak") ∧
  (Sta Z Z.heap "com/example/hits_from_terms/hitsfromterms/analysis/WordBreak" "FORMAT" "Lcom/example/hits_from_terms/hitsfromterms/analysis/WordBreak;" (.ref s_FORMAT)) ∧
  (Exa Z Z.heap s_REGIONAL_INDICATOR "com/example/hits_from_terms/hitsfromterms/analysis/WordBreak") ∧
  (Sta Z Z.heap "com/example/hits_from_terms/hitsfromterms/analysis/WordBreak" "REGIONAL_INDICATOR" "Lcom/example/hits_from_terms/hitsfromterms/analysis/WordBreak;" (.ref s_REGIONAL_INDICATOR)) ∧
  (Exa Z Z.heap s_ALETTER "com/example/hits_from_terms/hitsfromterms/analysis/WordBreak") ∧
  (Sta Z Z.heap "com/example/hits_from_terms/hitsfromterms/analysis/WordBreak" "ALETTER" "Lcom/example/hits_from_terms/hitsfromterms/analysis/WordBreak;" (.ref s_ALETTER)) ∧
  (Exa Z Z.heap s_EXTEND_NUM_LET "com/example/hits_from_terms/hitsfromterms/analysis/WordBreak") ∧
  (Sta Z Z.heap "com/example/hits_from_terms/hitsfromterms/analysis/WordBreak" "EXTEND_NUM_LET" "Lcom/example/hits_from_terms/hitsfromterms/analysis/WordBreak;" (.ref s_EXTEND_NUM_LET)) ∧
  (Exa Z Z.heap s_KATAKANA "com/example/hits_from_terms/hitsfromterms/analysis/WordBreak") ∧
  (Sta Z Z.heap "com/example/hits_from_terms/hitsfromterms/analysis/WordBreak" "KATAKANA" "Lcom/example/hits_from_terms/hitsfromterms/analysis/WordBreak;" (.ref s_KATAKANA)) ∧
  (Exa Z Z.heap s_HEBREW_LETTER "com/example/hits_from_terms/hitsfromterms/analysis/WordBreak") ∧
  (Sta Z Z.heap "com/example/hits_from_terms/hitsfromterms/analysis/WordBreak" "HEBREW_LETTER" "Lcom/example/hits_from_terms/hitsfromterms/analysis/WordBreak;" (.ref s_HEBREW_LETTER)) ∧
  (Exa Z Z.heap s_MID_NUM_LET "com/example/hits_from_terms/hitsfromterms/analysis/WordBreak") ∧
  (Sta Z Z.heap "com/example/hits_from_terms/hitsfromterms/analysis/WordBreak" "MID_NUM_LET" "Lcom/example/hits_from_terms/hitsfromterms/analysis/WordBreak;" (.ref s_MID_NUM_LET)) ∧
  (Exa Z Z.heap s_WSEG_SPACE "com/example/hits_from_terms/hitsfromterms/analysis/WordBreak") ∧
  (Sta Z Z.heap "com/example/hits_from_terms/hitsfromterms/analysis/WordBreak" "WSEG_SPACE" "Lcom/example/hits_from_terms/hitsfromterms/analysis/WordBreak;" (.ref s_WSEG_SPACE)) ∧
  (Exa Z Z.heap s_ZWJ "com/example/hits_from_terms/hitsfromterms/analysis/WordBreak") ∧
  (Sta Z Z.heap "com/example/hits_from_terms/hitsfromterms/analysis/WordBreak" "ZWJ" "Lcom/example/hits_from_terms/hitsfromterms/analysis/WordBreak;" (.ref s_ZWJ)) ∧
  (Exa Z Z.heap s_DOUBLE_QUOTE "com/example/hits_from_terms/hitsfromterms/analysis/WordBreak") ∧
  (Sta Z Z.heap "com/example/hits_from_terms/hitsfromterms/analysis/WordBreak" "DOUBLE_QUOTE" "Lcom/example/hits_from_terms/hitsfromterms/analysis/WordBreak;" (.ref s_DOUBLE_QUOTE)) ∧
  (Exa Z Z.heap s_EXTEND "com/example/hits_from_terms/hitsfromterms/analysis/WordBreak") ∧
  (Sta Z Z.heap "com/example/hits_from_terms/hitsfromterms/analysis/WordBreak" "EXTEND" "Lcom/example/hits_from_terms/hitsfromterms/analysis/WordBreak;" (.ref s_EXTEND)) ∧
  (Exa Z Z.heap s_NUMERIC "com/example/hits_from_terms/hitsfromterms/analysis/WordBreak") ∧
  (Sta Z Z.heap "com/example/hits_from_terms/hitsfromterms/analysis/WordBreak" "NUMERIC" "Lcom/example/hits_from_terms/hitsfromterms/analysis/WordBreak;" (.ref s_NUMERIC)) ∧
  (Exa Z Z.heap s_MID_LETTER "com/example/hits_from_terms/hitsfromterms/analysis/WordBreak") ∧
  (Sta Z Z.heap "com/example/hits_from_terms/hitsfromterms/analysis/WordBreak" "MID_LETTER" "Lcom/example/hits_from_terms/hitsfromterms/analysis/WordBreak;" (.ref s_MID_LETTER)) ∧
  (Exa Z Z.heap s_MID_NUM "com/example/hits_from_terms/hitsfromterms/analysis/WordBreak") ∧
  (Sta Z Z.heap "com/example/hits_from_terms/hitsfromterms/analysis/WordBreak" "MID_NUM" "Lcom/example/hits_from_terms/hitsfromterms/analysis/WordBreak;" (.ref s_MID_NUM)) ∧
  (Fld Z Z.heap s_OTHER "java/lang/Enum" "ordinal" "I" (.int (0 : Int32))) ∧
  (Fld Z Z.heap s_CR "java/lang/Enum" "ordinal" "I" (.int (1 : Int32))) ∧
  (Fld Z Z.heap s_LF "java/lang/Enum" "ordinal" "I" (.int (2 : Int32))) ∧
  (Fld Z Z.heap s_NEWLINE "java/lang/Enum" "ordinal" "I" (.int (3 : Int32))) ∧
  (Fld Z Z.heap s_SINGLE_QUOTE "java/lang/Enum" "ordinal" "I" (.int (15 : Int32))) ∧
  (Fld Z Z.heap s_FORMAT "java/lang/Enum" "ordinal" "I" (.int (5 : Int32))) ∧
  (Fld Z Z.heap s_REGIONAL_INDICATOR "java/lang/Enum" "ordinal" "I" (.int (17 : Int32))) ∧
  (Fld Z Z.heap s_ALETTER "java/lang/Enum" "ordinal" "I" (.int (7 : Int32))) ∧
  (Fld Z Z.heap s_EXTEND_NUM_LET "java/lang/Enum" "ordinal" "I" (.int (11 : Int32))) ∧
  (Fld Z Z.heap s_KATAKANA "java/lang/Enum" "ordinal" "I" (.int (10 : Int32))) ∧
  (Fld Z Z.heap s_HEBREW_LETTER "java/lang/Enum" "ordinal" "I" (.int (8 : Int32))) ∧
  (Fld Z Z.heap s_MID_NUM_LET "java/lang/Enum" "ordinal" "I" (.int (14 : Int32))) ∧
  (Fld Z Z.heap s_WSEG_SPACE "java/lang/Enum" "ordinal" "I" (.int (18 : Int32))) ∧
  (Fld Z Z.heap s_ZWJ "java/lang/Enum" "ordinal" "I" (.int (6 : Int32))) ∧
  (Fld Z Z.heap s_DOUBLE_QUOTE "java/lang/Enum" "ordinal" "I" (.int (16 : Int32))) ∧
  (Fld Z Z.heap s_EXTEND "java/lang/Enum" "ordinal" "I" (.int (4 : Int32))) ∧
  (Fld Z Z.heap s_NUMERIC "java/lang/Enum" "ordinal" "I" (.int (9 : Int32))) ∧
  (Fld Z Z.heap s_MID_LETTER "java/lang/Enum" "ordinal" "I" (.int (12 : Int32))) ∧
  (Fld Z Z.heap s_MID_NUM "java/lang/Enum" "ordinal" "I" (.int (13 : Int32))) ∧
  (Arv Z Z.heap s_VALUES k_VALUES (.object "com/example/hits_from_terms/hitsfromterms/analysis/WordBreak") (19 : Int32) [(.ref s_OTHER), (.ref s_CR), (.ref s_LF), (.ref s_NEWLINE), (.ref s_EXTEND), (.ref s_FORMAT), (.ref s_ZWJ), (.ref s_ALETTER), (.ref s_HEBREW_LETTER), (.ref s_NUMERIC), (.ref s_KATAKANA), (.ref s_EXTEND_NUM_LET), (.ref s_MID_LETTER), (.ref s_MID_NUM), (.ref s_MID_NUM_LET), (.ref s_SINGLE_QUOTE), (.ref s_DOUBLE_QUOTE), (.ref s_REGIONAL_INDICATOR), (.ref s_WSEG_SPACE)] .null) ∧
  (Sta Z Z.heap "com/example/hits_from_terms/hitsfromterms/analysis/WordBreak" "VALUES" "[Lcom/example/hits_from_terms/hitsfromterms/analysis/WordBreak;" (.ref s_VALUES))
theorem own_d1_0 : decode prog_18_method_5_code 0 = .ok (.getstatic 90, 3) := by decide +kernel
theorem own_d1_3 : decode prog_18_method_5_code 3 = .ok (.iload_n 0, 1) := by decide +kernel
theorem own_d1_4 : decode prog_18_method_5_code 4 = .ok (.aaload, 1) := by decide +kernel
theorem own_d1_5 : decode prog_18_method_5_code 5 = .ok (.areturn, 1) := by decide +kernel
theorem own_pn0 : plainName "com/example/hits_from_terms/hitsfromterms/analysis/WordBreak" = true := by first | (simp [plainName, overriddenIn]; done) | decide +kernel
theorem ef1 (m : MethodId) (p0 : Int32) : entryFrame m #[(.int p0)] 1 = mkF m 0 #[.val (.int p0)] [] := by first | (simp [entryFrame, mkF, argsToLocals, Value.category]; done) | rfl
def Q1 (Z : State) (w_el : Addr) (h0 : Heap) (n0 : Nat) (v : Option Value) (h : Heap) (L : List Loc) : Prop := v = some (.ref w_el) ∧ Fr n0 L ∧ h = h0
set_option maxRecDepth 65536 in
set_option maxHeartbeats 40000000 in
theorem rm1 (l : Launch) (Z : State) (a0 : Array Value) (hw : ∀ d ∈ tables_1, d.before a0 Z = true) (ws : List Jvm.Cond) (s_OTHER : Addr) (s_CR : Addr) (s_LF : Addr) (s_NEWLINE : Addr) (s_SINGLE_QUOTE : Addr) (s_FORMAT : Addr) (s_REGIONAL_INDICATOR : Addr) (s_ALETTER : Addr) (s_EXTEND_NUM_LET : Addr) (s_KATAKANA : Addr) (s_HEBREW_LETTER : Addr) (s_MID_NUM_LET : Addr) (s_WSEG_SPACE : Addr) (s_ZWJ : Addr) (s_DOUBLE_QUOTE : Addr) (s_EXTEND : Addr) (s_NUMERIC : Addr) (s_MID_LETTER : Addr) (s_MID_NUM : Addr) (s_VALUES : Addr) (k_VALUES : ClassId) (HW : W0 Z s_OTHER s_CR s_LF s_NEWLINE s_SINGLE_QUOTE s_FORMAT s_REGIONAL_INDICATOR s_ALETTER s_EXTEND_NUM_LET s_KATAKANA s_HEBREW_LETTER s_MID_NUM_LET s_WSEG_SPACE s_ZWJ s_DOUBLE_QUOTE s_EXTEND s_NUMERIC s_MID_LETTER s_MID_NUM s_VALUES k_VALUES) (p0 : Int32) (w_el : Addr) (h0 : Heap) (n0 : Nat) (O0 : Old Z n0 h0) (hrg : ¬ p0 < 0 ∧ p0 < (19 : Int32)) (hel : ([(.ref s_OTHER), (.ref s_CR), (.ref s_LF), (.ref s_NEWLINE), (.ref s_EXTEND), (.ref s_FORMAT), (.ref s_ZWJ), (.ref s_ALETTER), (.ref s_HEBREW_LETTER), (.ref s_NUMERIC), (.ref s_KATAKANA), (.ref s_EXTEND_NUM_LET), (.ref s_MID_LETTER), (.ref s_MID_NUM), (.ref s_MID_NUM_LET), (.ref s_SINGLE_QUOTE), (.ref s_DOUBLE_QUOTE), (.ref s_REGIONAL_INDICATOR), (.ref s_WSEG_SPACE)] : List Value).getD (p0).toNatClampNeg .null = .ref w_el) :
    MetFree l (⟨"com/example/hits_from_terms/hitsfromterms/analysis/WordBreak", "forOrdinal", "(I)Lcom/example/hits_from_terms/hitsfromterms/analysis/WordBreak;"⟩ : MethodName) (head1 (Jvm.Cond.code (⟨"com/example/hits_from_terms/hitsfromterms/analysis/WordBreak", "forOrdinal", "(I)Lcom/example/hits_from_terms/hitsfromterms/analysis/WordBreak;"⟩ : MethodName) prog_18_method_5_code 1 (some (.object "com/example/hits_from_terms/hitsfromterms/analysis/WordBreak")) :: ws) ({ frames := 0, cells := 0, slots := 0, locals := 0 } : Room)) (fun a U => a = #[(.int p0)] ∧ Z.Warmed39 U.vm ∧ U.heap = h0) (fun _ _ _ _ _ => True) (fun _ U o U' => ∃ v L, o = .returned v ∧ Q1 Z w_el h0 n0 v U'.heap L ∧ FrameEnd U o U' L ({ frames := 0, cells := 0, slots := 0, locals := 0 } : Room).cells ({ frames := 0, cells := 0, slots := 0, locals := 0 } : Room).slots) := by
  refine MetFree.of_bodySF (plainFor_of_name own_pn0) hisR ?_
  intro p e s m args below meth c s₁ Bd hml0 hP hK
  obtain ⟨rfl, hZ, hh⟩ := hP
  obtain ⟨E_OTHER, S_OTHER, E_CR, S_CR, E_LF, S_LF, E_NEWLINE, S_NEWLINE, E_SINGLE_QUOTE, S_SINGLE_QUOTE, E_FORMAT, S_FORMAT, E_REGIONAL_INDICATOR, S_REGIONAL_INDICATOR, E_ALETTER, S_ALETTER, E_EXTEND_NUM_LET, S_EXTEND_NUM_LET, E_KATAKANA, S_KATAKANA, E_HEBREW_LETTER, S_HEBREW_LETTER, E_MID_NUM_LET, S_MID_NUM_LET, E_WSEG_SPACE, S_WSEG_SPACE, E_ZWJ, S_ZWJ, E_DOUBLE_QUOTE, S_DOUBLE_QUOTE, E_EXTEND, S_EXTEND, E_NUMERIC, S_NUMERIC, E_MID_LETTER, S_MID_LETTER, E_MID_NUM, S_MID_NUM, F_OTHER_ordinal, F_CR_ordinal, F_LF_ordinal, F_NEWLINE_ordinal, F_SINGLE_QUOTE_ordinal, F_FORMAT_ordinal, F_REGIONAL_INDICATOR_ordinal, F_ALETTER_ordinal, F_EXTEND_NUM_LET_ordinal, F_KATAKANA_ordinal, F_HEBREW_LETTER_ordinal, F_MID_NUM_LET_ordinal, F_WSEG_SPACE_ordinal, F_ZWJ_ordinal, F_DOUBLE_QUOTE_ordinal, F_EXTEND_ordinal, F_NUMERIC_ordinal, F_MID_LETTER_ordinal, F_MID_NUM_ordinal, V_VALUES, S_VALUES⟩ := id HW
  have hx := Bd.exec
  have hby := Bd.bytes
  have hml : c.maxLocals = 1 := hml0
  have hown : s.vm.findClass "com/example/hits_from_terms/hitsfromterms/analysis/WordBreak" = some m.cls := findClass_of_methodNamed Bd.named
  have hnm := (name_of_methodNamed Bd.named Bd.method).1
  have X0 : Stand p l e ({ frames := 0, cells := 0, slots := 0, locals := 0 } : Room) s m #[(.int p0)] below meth c s₁ [] 0 0 := Stand.of_body Bd
  have e0 : s₁.heap = h0 := by rw [← hh, Bd.state]; rfl
  have N0 := Fr.nil n0
  have K0 := Keep.refl h0 []
  refine Go.out ?_
  refine Go.st (V' := s₁.setTop (mkF m 0 #[.val (.int p0)] [])) (fun t k => castTop (ef1 m p0) k) ?_
  obtain ⟨T1, X1, e1, st1⟩ := getS2 X0 hx hZ hown (host := "") (Or.inl (hw _ (List.mem_of_getElem? (i := 5) rfl))) Via.refl e0 (S_VALUES.ext O0.2) (g := (mkF m 0 #[.val (.int p0)] [])) rfl (hb hby own_d1_0)
  refine Go.st (V' := T1.setTop (mkF m 3 #[.val (.int p0)] [(.ref s_VALUES)])) (fun t k => st1 t k) ?_
  refine Go.st (V' := T1.setTop (mkF m 4 #[.val (.int p0)] [(.int p0), (.ref s_VALUES)])) (fun t k => ?_) ?_
  · refine XS.iloadN X1.here hx rfl (hb hby own_d1_3) rfl  ?_
    show Steps p.tables e below (T1.setTop (mkF m 4 #[.val (.int p0)] [(.int p0), (.ref s_VALUES)])) _
    exact k
  obtain ⟨cl2, Ar2, q2, Sz2, Nn2, Ha2, Ga2⟩ := id ((V_VALUES.ext O0.2))
  have hin2 := inb_of (j := p0) Sz2 hrg
  refine Go.st (V' := T1.setTop (mkF m 5 #[.val (.int p0)] [(.ref w_el)])) (fun t k => ?_) ?_
  · show Steps p.tables e below (T1.setTop (mkF m 4 #[.val (.int p0)] [(.int p0), (.ref s_VALUES)])) _
    refine X1.aaload hx (j := p0) (v := (.ref w_el)) (own_eT e1 Ar2) (State.isArrayOf_alike hZ.alike Ar2.2.1) rfl Ar2.2.2 hin2 (Ha2.at hin2 hel) (g := (mkF m 4 #[.val (.int p0)] [(.int p0), (.ref s_VALUES)])) rfl rfl (hb hby own_d1_4) _ ?_
    show Steps p.tables e below (T1.setTop (mkF m 5 #[.val (.int p0)] [(.ref w_el)])) _
    exact k
  obtain ⟨fs, hr, hrun, hended, hW, hsame⟩ := X1.leave (v := some (.ref w_el)) (fun h => by rw [Bd.returns] at h; cases h)
  refine Go.mk' ⟨_, _, retOut X1 hx Bd.returns rfl (Or.inr (Or.inr (Or.inr (Or.inr ⟨rfl, rfl, rfl⟩)))) (hb hby own_d1_5) hr, hrun, hended, _, _, rfl, ?_, ⟨_, rfl⟩, hW, hsame.mono (by decide) (by decide)⟩
  show Q1 Z w_el h0 n0 _ T1.heap _
  rw [e1]
  exact ⟨rfl, N0, rfl⟩
theorem own_d2_0 : decode prog_18_method_7_code 0 = .ok (.aload_n 0, 1) := by decide +kernel
theorem own_d2_1 : decode prog_18_method_7_code 1 = .ok (.getstatic 7, 3) := by decide +kernel
theorem own_d2_4 : decode prog_18_method_7_code 4 = .ok (.if_acmp .eq 17, 3) := by decide +kernel
theorem own_d2_21 : decode prog_18_method_7_code 21 = .ok (.iconst 1, 1) := by decide +kernel
theorem own_d2_22 : decode prog_18_method_7_code 22 = .ok (.goto 4, 3) := by decide +kernel
theorem own_d2_26 : decode prog_18_method_7_code 26 = .ok (.ireturn, 1) := by decide +kernel
theorem own_d2_7 : decode prog_18_method_7_code 7 = .ok (.aload_n 0, 1) := by decide +kernel
theorem own_d2_8 : decode prog_18_method_7_code 8 = .ok (.getstatic 10, 3) := by decide +kernel
theorem own_d2_11 : decode prog_18_method_7_code 11 = .ok (.if_acmp .eq 10, 3) := by decide +kernel
theorem own_d2_14 : decode prog_18_method_7_code 14 = .ok (.aload_n 0, 1) := by decide +kernel
theorem own_d2_15 : decode prog_18_method_7_code 15 = .ok (.getstatic 13, 3) := by decide +kernel
theorem own_d2_18 : decode prog_18_method_7_code 18 = .ok (.if_acmp .ne 7, 3) := by decide +kernel
theorem own_d2_25 : decode prog_18_method_7_code 25 = .ok (.iconst 0, 1) := by decide +kernel
theorem ef2 (m : MethodId) (r0 : Addr) : entryFrame m #[(.ref r0)] 1 = mkF m 0 #[.val (.ref r0)] [] := by first | (simp [entryFrame, mkF, argsToLocals, Value.category]; done) | rfl
def f2 (s_CR : Addr) (s_LF : Addr) (s_NEWLINE : Addr) (r0 : Addr) : Int32 := (if r0 = s_CR then (1 : Int32) else (if r0 = s_LF then (1 : Int32) else (if r0 = s_NEWLINE then (1 : Int32) else (0 : Int32))))
def Q2 (Z : State) (s_CR : Addr) (s_LF : Addr) (s_NEWLINE : Addr) (r0 : Addr) (h0 : Heap) (n0 : Nat) (v : Option Value) (h : Heap) (L : List Loc) : Prop := v = some (.int (f2 s_CR s_LF s_NEWLINE r0)) ∧ Fr n0 L ∧ h = h0
set_option maxRecDepth 65536 in
set_option maxHeartbeats 40000000 in
theorem rm2 (l : Launch) (Z : State) (a0 : Array Value) (hw : ∀ d ∈ tables_1, d.before a0 Z = true) (ws : List Jvm.Cond) (s_OTHER : Addr) (s_CR : Addr) (s_LF : Addr) (s_NEWLINE : Addr) (s_SINGLE_QUOTE : Addr) (s_FORMAT : Addr) (s_REGIONAL_INDICATOR : Addr) (s_ALETTER : Addr) (s_EXTEND_NUM_LET : Addr) (s_KATAKANA : Addr) (s_HEBREW_LETTER : Addr) (s_MID_NUM_LET : Addr) (s_WSEG_SPACE : Addr) (s_ZWJ : Addr) (s_DOUBLE_QUOTE : Addr) (s_EXTEND : Addr) (s_NUMERIC : Addr) (s_MID_LETTER : Addr) (s_MID_NUM : Addr) (s_VALUES : Addr) (k_VALUES : ClassId) (HW : W0 Z s_OTHER s_CR s_LF s_NEWLINE s_SINGLE_QUOTE s_FORMAT s_REGIONAL_INDICATOR s_ALETTER s_EXTEND_NUM_LET s_KATAKANA s_HEBREW_LETTER s_MID_NUM_LET s_WSEG_SPACE s_ZWJ s_DOUBLE_QUOTE s_EXTEND s_NUMERIC s_MID_LETTER s_MID_NUM s_VALUES k_VALUES) (r0 : Addr) (h0 : Heap) (n0 : Nat) (O0 : Old Z n0 h0) :
    MetFree l (⟨"com/example/hits_from_terms/hitsfromterms/analysis/WordBreak", "isLineBreak", "()Z"⟩ : MethodName) (head1 (Jvm.Cond.code (⟨"com/example/hits_from_terms/hitsfromterms/analysis/WordBreak", "isLineBreak", "()Z"⟩ : MethodName) prog_18_method_7_code 1 (some .boolean) :: ws) ({ frames := 0, cells := 0, slots := 0, locals := 0 } : Room)) (fun a U => a = #[(.ref r0)] ∧ Z.Warmed39 U.vm ∧ U.heap = h0) (fun _ _ _ _ _ => True) (fun _ U o U' => ∃ v L, o = .returned v ∧ Q2 Z s_CR s_LF s_NEWLINE r0 h0 n0 v U'.heap L ∧ FrameEnd U o U' L ({ frames := 0, cells := 0, slots := 0, locals := 0 } : Room).cells ({ frames := 0, cells := 0, slots := 0, locals := 0 } : Room).slots) := by
  refine MetFree.of_bodySF (plainFor_of_name own_pn0) hisR ?_
  intro p e s m args below meth c s₁ Bd hml0 hP hK
  obtain ⟨rfl, hZ, hh⟩ := hP
  obtain ⟨E_OTHER, S_OTHER, E_CR, S_CR, E_LF, S_LF, E_NEWLINE, S_NEWLINE, E_SINGLE_QUOTE, S_SINGLE_QUOTE, E_FORMAT, S_FORMAT, E_REGIONAL_INDICATOR, S_REGIONAL_INDICATOR, E_ALETTER, S_ALETTER, E_EXTEND_NUM_LET, S_EXTEND_NUM_LET, E_KATAKANA, S_KATAKANA, E_HEBREW_LETTER, S_HEBREW_LETTER, E_MID_NUM_LET, S_MID_NUM_LET, E_WSEG_SPACE, S_WSEG_SPACE, E_ZWJ, S_ZWJ, E_DOUBLE_QUOTE, S_DOUBLE_QUOTE, E_EXTEND, S_EXTEND, E_NUMERIC, S_NUMERIC, E_MID_LETTER, S_MID_LETTER, E_MID_NUM, S_MID_NUM, F_OTHER_ordinal, F_CR_ordinal, F_LF_ordinal, F_NEWLINE_ordinal, F_SINGLE_QUOTE_ordinal, F_FORMAT_ordinal, F_REGIONAL_INDICATOR_ordinal, F_ALETTER_ordinal, F_EXTEND_NUM_LET_ordinal, F_KATAKANA_ordinal, F_HEBREW_LETTER_ordinal, F_MID_NUM_LET_ordinal, F_WSEG_SPACE_ordinal, F_ZWJ_ordinal, F_DOUBLE_QUOTE_ordinal, F_EXTEND_ordinal, F_NUMERIC_ordinal, F_MID_LETTER_ordinal, F_MID_NUM_ordinal, V_VALUES, S_VALUES⟩ := id HW
  have hx := Bd.exec
  have hby := Bd.bytes
  have hml : c.maxLocals = 1 := hml0
  have hown : s.vm.findClass "com/example/hits_from_terms/hitsfromterms/analysis/WordBreak" = some m.cls := findClass_of_methodNamed Bd.named
  have hnm := (name_of_methodNamed Bd.named Bd.method).1
  have X0 : Stand p l e ({ frames := 0, cells := 0, slots := 0, locals := 0 } : Room) s m #[(.ref r0)] below meth c s₁ [] 0 0 := Stand.of_body Bd
  have e0 : s₁.heap = h0 := by rw [← hh, Bd.state]; rfl
  have N0 := Fr.nil n0
  have K0 := Keep.refl h0 []
  refine Go.out ?_
  refine Go.st (V' := s₁.setTop (mkF m 0 #[.val (.ref r0)] [])) (fun t k => castTop (ef2 m r0) k) ?_
  refine Go.st (V' := s₁.setTop (mkF m 1 #[.val (.ref r0)] [(.ref r0)])) (fun t k => ?_) ?_
  · refine XS.aloadN X0.here hx rfl (hb hby own_d2_0) rfl rfl ?_
    show Steps p.tables e below (s₁.setTop (mkF m 1 #[.val (.ref r0)] [(.ref r0)])) _
    exact k
  obtain ⟨T3, X3, e3, st3⟩ := getS2 X0 hx hZ hown (host := "") (Or.inl (hw _ (List.mem_of_getElem? (i := 13) rfl))) Via.refl e0 (S_CR.ext O0.2) (g := (mkF m 1 #[.val (.ref r0)] [(.ref r0)])) rfl (hb hby own_d2_1)
  refine Go.st (V' := T3.setTop (mkF m 4 #[.val (.ref r0)] [(.ref s_CR), (.ref r0)])) (fun t k => st3 t k) ?_
  by_cases hc4 : r0 = s_CR
  · refine Go.st (V' := T3.setTop (mkF m 26 #[.val (.ref r0)] [(.int (1 : Int32))])) (fun t k => ?_) ?_
    · refine Jvm.RoadKit.acmp (g := (mkF m 4 #[.val (.ref r0)] [(.ref s_CR), (.ref r0)])) X3 hx rfl rfl rfl (pc0 := 4) (pc' := 21) (same := true) rfl (hb hby own_d2_4) rfl (decide_eq_true (congrArg Value.ref hc4)) (by decide) (by decide) ?_
      show Steps p.tables e below (T3.setTop (mkF m 21 #[.val (.ref r0)] [])) _
      refine XS.iconst X3.here hx rfl (hb hby own_d2_21) ?_
      show Steps p.tables e below (T3.setTop (mkF m 22 #[.val (.ref r0)] [(.int (1 : Int32))])) _
      refine XS.goto X3.here hx rfl (pc0 := 22) (pc' := 26) rfl (hb hby own_d2_22) (by decide) (by decide) ?_
      show Steps p.tables e below (T3.setTop (mkF m 26 #[.val (.ref r0)] [(.int (1 : Int32))])) _
      exact k
    obtain ⟨fs, hr, hrun, hended, hW, hsame⟩ := X3.leave (v := some (.int (1 : Int32))) (fun h => by rw [Bd.returns] at h; cases h)
    refine Go.mk' ⟨_, _, retN X3 hx (t := .boolean) Bd.returns (by simp) (hb hby own_d2_26) hr, hrun, hended, _, _, rfl, ?_, ⟨_, rfl⟩, hW, hsame.mono (by decide) (by decide)⟩
    show Q2 Z s_CR s_LF s_NEWLINE r0 h0 n0 _ T3.heap _
    rw [e3]
    exact ⟨(by rw [f2, if_pos hc4]), N0, rfl⟩
  · refine Go.st (V' := T3.setTop (mkF m 8 #[.val (.ref r0)] [(.ref r0)])) (fun t k => ?_) ?_
    · refine Jvm.RoadKit.acmp (g := (mkF m 4 #[.val (.ref r0)] [(.ref s_CR), (.ref r0)])) X3 hx rfl rfl rfl (pc0 := 4) (pc' := 7) (same := false) rfl (hb hby own_d2_4) rfl (decide_eq_false fun q => hc4 (Value.ref.inj q)) (by decide) (by decide) ?_
      show Steps p.tables e below (T3.setTop (mkF m 7 #[.val (.ref r0)] [])) _
      refine XS.aloadN X3.here hx rfl (hb hby own_d2_7) rfl rfl ?_
      show Steps p.tables e below (T3.setTop (mkF m 8 #[.val (.ref r0)] [(.ref r0)])) _
      exact k
    obtain ⟨T5, X5, e5, st5⟩ := getS2 X3 hx hZ hown (host := "") (Or.inl (hw _ (List.mem_of_getElem? (i := 15) rfl))) Via.refl e3 (S_LF.ext O0.2) (g := (mkF m 8 #[.val (.ref r0)] [(.ref r0)])) rfl (hb hby own_d2_8)
    refine Go.st (V' := T5.setTop (mkF m 11 #[.val (.ref r0)] [(.ref s_LF), (.ref r0)])) (fun t k => st5 t k) ?_
    by_cases hc6 : r0 = s_LF
    · refine Go.st (V' := T5.setTop (mkF m 26 #[.val (.ref r0)] [(.int (1 : Int32))])) (fun t k => ?_) ?_
      · refine Jvm.RoadKit.acmp (g := (mkF m 11 #[.val (.ref r0)] [(.ref s_LF), (.ref r0)])) X5 hx rfl rfl rfl (pc0 := 11) (pc' := 21) (same := true) rfl (hb hby own_d2_11) rfl (decide_eq_true (congrArg Value.ref hc6)) (by decide) (by decide) ?_
        show Steps p.tables e below (T5.setTop (mkF m 21 #[.val (.ref r0)] [])) _
        refine XS.iconst X5.here hx rfl (hb hby own_d2_21) ?_
        show Steps p.tables e below (T5.setTop (mkF m 22 #[.val (.ref r0)] [(.int (1 : Int32))])) _
        refine XS.goto X5.here hx rfl (pc0 := 22) (pc' := 26) rfl (hb hby own_d2_22) (by decide) (by decide) ?_
        show Steps p.tables e below (T5.setTop (mkF m 26 #[.val (.ref r0)] [(.int (1 : Int32))])) _
        exact k
      obtain ⟨fs, hr, hrun, hended, hW, hsame⟩ := X5.leave (v := some (.int (1 : Int32))) (fun h => by rw [Bd.returns] at h; cases h)
      refine Go.mk' ⟨_, _, retN X5 hx (t := .boolean) Bd.returns (by simp) (hb hby own_d2_26) hr, hrun, hended, _, _, rfl, ?_, ⟨_, rfl⟩, hW, hsame.mono (by decide) (by decide)⟩
      show Q2 Z s_CR s_LF s_NEWLINE r0 h0 n0 _ T5.heap _
      rw [e5]
      exact ⟨(by rw [f2, if_neg hc4, if_pos hc6]), N0, rfl⟩
    · refine Go.st (V' := T5.setTop (mkF m 15 #[.val (.ref r0)] [(.ref r0)])) (fun t k => ?_) ?_
      · refine Jvm.RoadKit.acmp (g := (mkF m 11 #[.val (.ref r0)] [(.ref s_LF), (.ref r0)])) X5 hx rfl rfl rfl (pc0 := 11) (pc' := 14) (same := false) rfl (hb hby own_d2_11) rfl (decide_eq_false fun q => hc6 (Value.ref.inj q)) (by decide) (by decide) ?_
        show Steps p.tables e below (T5.setTop (mkF m 14 #[.val (.ref r0)] [])) _
        refine XS.aloadN X5.here hx rfl (hb hby own_d2_14) rfl rfl ?_
        show Steps p.tables e below (T5.setTop (mkF m 15 #[.val (.ref r0)] [(.ref r0)])) _
        exact k
      obtain ⟨T7, X7, e7, st7⟩ := getS2 X5 hx hZ hown (host := "") (Or.inl (hw _ (List.mem_of_getElem? (i := 17) rfl))) Via.refl e5 (S_NEWLINE.ext O0.2) (g := (mkF m 15 #[.val (.ref r0)] [(.ref r0)])) rfl (hb hby own_d2_15)
      refine Go.st (V' := T7.setTop (mkF m 18 #[.val (.ref r0)] [(.ref s_NEWLINE), (.ref r0)])) (fun t k => st7 t k) ?_
      by_cases hc8 : r0 = s_NEWLINE
      · refine Go.st (V' := T7.setTop (mkF m 26 #[.val (.ref r0)] [(.int (1 : Int32))])) (fun t k => ?_) ?_
        · refine Jvm.RoadKit.acmp (g := (mkF m 18 #[.val (.ref r0)] [(.ref s_NEWLINE), (.ref r0)])) X7 hx rfl rfl rfl (pc0 := 18) (pc' := 21) (same := true) rfl (hb hby own_d2_18) rfl (decide_eq_true (congrArg Value.ref hc8)) (by decide) (by decide) ?_
          show Steps p.tables e below (T7.setTop (mkF m 21 #[.val (.ref r0)] [])) _
          refine XS.iconst X7.here hx rfl (hb hby own_d2_21) ?_
          show Steps p.tables e below (T7.setTop (mkF m 22 #[.val (.ref r0)] [(.int (1 : Int32))])) _
          refine XS.goto X7.here hx rfl (pc0 := 22) (pc' := 26) rfl (hb hby own_d2_22) (by decide) (by decide) ?_
          show Steps p.tables e below (T7.setTop (mkF m 26 #[.val (.ref r0)] [(.int (1 : Int32))])) _
          exact k
        obtain ⟨fs, hr, hrun, hended, hW, hsame⟩ := X7.leave (v := some (.int (1 : Int32))) (fun h => by rw [Bd.returns] at h; cases h)
        refine Go.mk' ⟨_, _, retN X7 hx (t := .boolean) Bd.returns (by simp) (hb hby own_d2_26) hr, hrun, hended, _, _, rfl, ?_, ⟨_, rfl⟩, hW, hsame.mono (by decide) (by decide)⟩
        show Q2 Z s_CR s_LF s_NEWLINE r0 h0 n0 _ T7.heap _
        rw [e7]
        exact ⟨(by rw [f2, if_neg hc4, if_neg hc6, if_pos hc8]), N0, rfl⟩
      · refine Go.st (V' := T7.setTop (mkF m 26 #[.val (.ref r0)] [(.int (0 : Int32))])) (fun t k => ?_) ?_
        · refine Jvm.RoadKit.acmp (g := (mkF m 18 #[.val (.ref r0)] [(.ref s_NEWLINE), (.ref r0)])) X7 hx rfl rfl rfl (pc0 := 18) (pc' := 25) (same := false) rfl (hb hby own_d2_18) rfl (decide_eq_false fun q => hc8 (Value.ref.inj q)) (by decide) (by decide) ?_
          show Steps p.tables e below (T7.setTop (mkF m 25 #[.val (.ref r0)] [])) _
          refine XS.iconst X7.here hx rfl (hb hby own_d2_25) ?_
          show Steps p.tables e below (T7.setTop (mkF m 26 #[.val (.ref r0)] [(.int (0 : Int32))])) _
          exact k
        obtain ⟨fs, hr, hrun, hended, hW, hsame⟩ := X7.leave (v := some (.int (0 : Int32))) (fun h => by rw [Bd.returns] at h; cases h)
        refine Go.mk' ⟨_, _, retN X7 hx (t := .boolean) Bd.returns (by simp) (hb hby own_d2_26) hr, hrun, hended, _, _, rfl, ?_, ⟨_, rfl⟩, hW, hsame.mono (by decide) (by decide)⟩
        show Q2 Z s_CR s_LF s_NEWLINE r0 h0 n0 _ T7.heap _
        rw [e7]
        exact ⟨(by rw [f2, if_neg hc4, if_neg hc6, if_neg hc8]), N0, rfl⟩
theorem own_pd17 : parseMethodDescriptor "(I)Lcom/example/hits_from_terms/hitsfromterms/analysis/WordBreak;" = some ⟨[.int], some (.object "com/example/hits_from_terms/hitsfromterms/analysis/WordBreak")⟩ := by decide +kernel
theorem own_pd18 : parseMethodDescriptor "()Z" = some ⟨[], some .boolean⟩ := by decide +kernel
theorem own_pn1 : plainName "com/example/hits_from_terms/hitsfromterms/analysis/WordBreakIsLineBreakPinLaw" = true := by first | (simp [plainName, overriddenIn]; done) | decide +kernel
theorem ef0 (m : MethodId) (p0 : Int32) : entryFrame m #[(.int p0)] maxLocals = mkF m 0 #[.val (.int p0), .unset, .unset, .unset] [] := by first | (simp [entryFrame, mkF, argsToLocals, Value.category, maxLocals]; done) | rfl
def Q0 (Z : State) (p0 : Int32) (h0 : Heap) (n0 : Nat) (v : Option Value) (h : Heap) (L : List Loc) : Prop := v = some (.int 1) ∧ Fr n0 L
set_option maxRecDepth 65536 in
set_option maxHeartbeats 40000000 in
theorem rm0 (l : Launch) (Z : State) (a0 : Array Value) (hw : ∀ d ∈ tables_1, d.before a0 Z = true) (ws : List Jvm.Cond) (s_OTHER : Addr) (s_CR : Addr) (s_LF : Addr) (s_NEWLINE : Addr) (s_SINGLE_QUOTE : Addr) (s_FORMAT : Addr) (s_REGIONAL_INDICATOR : Addr) (s_ALETTER : Addr) (s_EXTEND_NUM_LET : Addr) (s_KATAKANA : Addr) (s_HEBREW_LETTER : Addr) (s_MID_NUM_LET : Addr) (s_WSEG_SPACE : Addr) (s_ZWJ : Addr) (s_DOUBLE_QUOTE : Addr) (s_EXTEND : Addr) (s_NUMERIC : Addr) (s_MID_LETTER : Addr) (s_MID_NUM : Addr) (s_VALUES : Addr) (k_VALUES : ClassId) (HW : W0 Z s_OTHER s_CR s_LF s_NEWLINE s_SINGLE_QUOTE s_FORMAT s_REGIONAL_INDICATOR s_ALETTER s_EXTEND_NUM_LET s_KATAKANA s_HEBREW_LETTER s_MID_NUM_LET s_WSEG_SPACE s_ZWJ s_DOUBLE_QUOTE s_EXTEND s_NUMERIC s_MID_LETTER s_MID_NUM s_VALUES k_VALUES) (p0 : Int32) (h0 : Heap) (n0 : Nat) (O0 : Old Z n0 h0) :
    MetFree l x (head1 (Jvm.Cond.code x code maxLocals ret :: ws) room_1) (fun a U => a = #[(.int p0)] ∧ Z.Warmed39 U.vm ∧ U.heap = h0) (fun _ _ _ _ _ => True) (fun _ U o U' => ∃ v L, o = .returned v ∧ Q0 Z p0 h0 n0 v U'.heap L ∧ FrameEnd U o U' L room_1.cells room_1.slots) := by
  refine MetFree.of_bodySF (plainFor_of_name own_pn1) hisR ?_
  intro p e s m args below meth c s₁ Bd hml0 hP hK
  obtain ⟨rfl, hZ, hh⟩ := hP
  obtain ⟨E_OTHER, S_OTHER, E_CR, S_CR, E_LF, S_LF, E_NEWLINE, S_NEWLINE, E_SINGLE_QUOTE, S_SINGLE_QUOTE, E_FORMAT, S_FORMAT, E_REGIONAL_INDICATOR, S_REGIONAL_INDICATOR, E_ALETTER, S_ALETTER, E_EXTEND_NUM_LET, S_EXTEND_NUM_LET, E_KATAKANA, S_KATAKANA, E_HEBREW_LETTER, S_HEBREW_LETTER, E_MID_NUM_LET, S_MID_NUM_LET, E_WSEG_SPACE, S_WSEG_SPACE, E_ZWJ, S_ZWJ, E_DOUBLE_QUOTE, S_DOUBLE_QUOTE, E_EXTEND, S_EXTEND, E_NUMERIC, S_NUMERIC, E_MID_LETTER, S_MID_LETTER, E_MID_NUM, S_MID_NUM, F_OTHER_ordinal, F_CR_ordinal, F_LF_ordinal, F_NEWLINE_ordinal, F_SINGLE_QUOTE_ordinal, F_FORMAT_ordinal, F_REGIONAL_INDICATOR_ordinal, F_ALETTER_ordinal, F_EXTEND_NUM_LET_ordinal, F_KATAKANA_ordinal, F_HEBREW_LETTER_ordinal, F_MID_NUM_LET_ordinal, F_WSEG_SPACE_ordinal, F_ZWJ_ordinal, F_DOUBLE_QUOTE_ordinal, F_EXTEND_ordinal, F_NUMERIC_ordinal, F_MID_LETTER_ordinal, F_MID_NUM_ordinal, V_VALUES, S_VALUES⟩ := id HW
  have hx := Bd.exec
  have hby := Bd.bytes
  have hml : c.maxLocals = 4 := hml0
  have hown : s.vm.findClass "com/example/hits_from_terms/hitsfromterms/analysis/WordBreakIsLineBreakPinLaw" = some m.cls := findClass_of_methodNamed Bd.named
  have hnm := (name_of_methodNamed Bd.named Bd.method).1
  have X0 : Stand p l e room_1 s m #[(.int p0)] below meth c s₁ [] 0 0 := Stand.of_body Bd
  have e0 : s₁.heap = h0 := by rw [← hh, Bd.state]; rfl
  have N0 := Fr.nil n0
  refine Go.out ?_
  refine Go.st (V' := s₁.setTop (mkF m 0 #[.val (.int p0), .unset, .unset, .unset] [])) (fun t k => castTop (ef0 m p0) k) ?_
  refine Go.st (V' := s₁.setTop (mkF m 8 #[.val (.int p0), .val (.int ((p0 &&& (2147483647 : Int32)) % (19 : Int32))), .unset, .unset] [])) (fun t k => ?_) ?_
  · refine XS.iloadN X0.here hx rfl (hb hby at_0) rfl  ?_
    show Steps p.tables e below (s₁.setTop (mkF m 1 #[.val (.int p0), .unset, .unset, .unset] [(.int p0)])) _
    refine X0.ldcInt hx hown (mvT hZ (hw _ (List.mem_of_getElem? (i := 0) rfl))) (g := (mkF m 1 #[.val (.int p0), .unset, .unset, .unset] [(.int p0)])) rfl (hb hby at_1) _ ?_
    show Steps p.tables e below (s₁.setTop (mkF m 3 #[.val (.int p0), .unset, .unset, .unset] [(.int (2147483647 : Int32)), (.int p0)])) _
    refine XS.iand X0.here hx rfl (hb hby at_3) rfl ?_
    show Steps p.tables e below (s₁.setTop (mkF m 4 #[.val (.int p0), .unset, .unset, .unset] [(.int (p0 &&& (2147483647 : Int32)))])) _
    refine XS.bipush X0.here hx rfl (hb hby at_4) ?_
    show Steps p.tables e below (s₁.setTop (mkF m 6 #[.val (.int p0), .unset, .unset, .unset] [(.int (19 : Int32)), (.int (p0 &&& (2147483647 : Int32)))])) _
    refine iremM X0 hx rfl (hb hby at_6) rfl (by decide) ?_
    show Steps p.tables e below (s₁.setTop (mkF m 7 #[.val (.int p0), .unset, .unset, .unset] [(.int ((p0 &&& (2147483647 : Int32)) % (19 : Int32)))])) _
    refine XS.istoreN X0.here hx rfl (hb hby at_7) rfl (l' := #[.val (.int p0), .val (.int ((p0 &&& (2147483647 : Int32)) % (19 : Int32))), .unset, .unset]) rfl ?_
    show Steps p.tables e below (s₁.setTop (mkF m 8 #[.val (.int p0), .val (.int ((p0 &&& (2147483647 : Int32)) % (19 : Int32))), .unset, .unset] [])) _
    exact k
  obtain ⟨k_1, h_k_1⟩ : ∃ z, z = ((p0 &&& (2147483647 : Int32)) % (19 : Int32)) := ⟨_, rfl⟩
  rw [← h_k_1]
  have hrg_k_1 : 0 ≤ k_1.toInt ∧ k_1.toInt < 19 := by rw [h_k_1]; exact own_rng _ _ _ (by decide) (by decide)
  rcases own_cases19 hrg_k_1 with rfl | rfl | rfl | rfl | rfl | rfl | rfl | rfl | rfl | rfl | rfl | rfl | rfl | rfl | rfl | rfl | rfl | rfl | rfl
  · show Go p e below _ (s₁.setTop (mkF m 8 #[.val (.int p0), .val (.int (0 : Int32)), .unset, .unset] []))
    refine Go.st (V' := s₁.setTop (mkF m 9 #[.val (.int p0), .val (.int (0 : Int32)), .unset, .unset] [(.int (0 : Int32))])) (fun t k => ?_) ?_
    · refine XS.iloadN X0.here hx rfl (hb hby at_8) rfl  ?_
      show Steps p.tables e below (s₁.setTop (mkF m 9 #[.val (.int p0), .val (.int (0 : Int32)), .unset, .unset] [(.int (0 : Int32))])) _
      exact k
    obtain ⟨_, _, ⟨T9, L9, k9, n9⟩, -, X9, ⟨Lc9, hQ9, l9, y9, z9⟩, st9⟩ := Jvm.LawKit.callS X0 hx (y := (⟨"com/example/hits_from_terms/hitsfromterms/analysis/WordBreak", "forOrdinal", "(I)Lcom/example/hits_from_terms/hitsfromterms/analysis/WordBreak;"⟩ : MethodName)) hown (mvT hZ (hw _ (List.mem_of_getElem? (i := 1) rfl))) (mvT hZ (hw _ (List.mem_of_getElem? (i := 2) rfl))) (mvT hZ (hw _ (List.mem_of_getElem? (i := 3) rfl))) (mvT hZ (hw _ (List.mem_of_getElem? (i := 4) rfl))) (by decide) (backOf (W := 0) (rm1 l Z a0 hw [] s_OTHER s_CR s_LF s_NEWLINE s_SINGLE_QUOTE s_FORMAT s_REGIONAL_INDICATOR s_ALETTER s_EXTEND_NUM_LET s_KATAKANA s_HEBREW_LETTER s_MID_NUM_LET s_WSEG_SPACE s_ZWJ s_DOUBLE_QUOTE s_EXTEND s_NUMERIC s_MID_LETTER s_MID_NUM s_VALUES k_VALUES HW (0 : Int32) s_OTHER h0 n0 O0 ⟨by decide, by decide⟩ rfl) hZ (hw _ (List.mem_of_getElem? (i := 4) rfl)) (hw _ (List.mem_of_getElem? (i := 3) rfl)) (by decide) (by decide)) (g := (mkF m 9 #[.val (.int p0), .val (.int (0 : Int32)), .unset, .unset] [(.int (0 : Int32))])) rfl (by rw [hml]; rfl) (argsL := [(.int (0 : Int32))]) (rest := []) (lenOf own_pd17 rfl) rfl (by show 2 * 0 + _ ≤ _; exact Nat.le_of_eq rfl) (hb hby at_9) (fun _ _ => ⟨rfl, e0, (by decide : 0 + 0 ≤ _), (by decide : 0 + 0 ≤ _)⟩)
    dsimp only [Pt.U, Pt.locs, Pt.cells, Pt.slots] at X9 l9 y9 z9 st9 hQ9
    subst l9 y9 z9
    obtain ⟨rfl, N9q, e9⟩ := hQ9
    have N9 := Fr.app N0 N9q
    refine Go.st (V' := T9.setTop (mkF m 12 #[.val (.int p0), .val (.int (0 : Int32)), .unset, .unset] [(.ref s_OTHER)])) (fun t k => st9 t k) ?_
    refine Go.st (V' := T9.setTop (mkF m 30 #[.val (.int p0), .val (.int (0 : Int32)), .val (.ref s_OTHER), .val (.int (0 : Int32))] [(.ref s_OTHER)])) (fun t k => ?_) ?_
    · refine XS.astoreN X9.here hx rfl (hb hby at_12) rfl rfl (l' := #[.val (.int p0), .val (.int (0 : Int32)), .val (.ref s_OTHER), .unset]) rfl ?_
      show Steps p.tables e below (T9.setTop (mkF m 13 #[.val (.int p0), .val (.int (0 : Int32)), .val (.ref s_OTHER), .unset] [])) _
      refine XS.iloadN X9.here hx rfl (hb hby at_13) rfl  ?_
      show Steps p.tables e below (T9.setTop (mkF m 14 #[.val (.int p0), .val (.int (0 : Int32)), .val (.ref s_OTHER), .unset] [(.int (0 : Int32))])) _
      refine XS.iconst X9.here hx rfl (hb hby at_14) ?_
      show Steps p.tables e below (T9.setTop (mkF m 15 #[.val (.int p0), .val (.int (0 : Int32)), .val (.ref s_OTHER), .unset] [(.int (1 : Int32)), (.int (0 : Int32))])) _
      refine XS.icmpYes X9.here hx rfl (pc0 := 15) (pc' := 27) rfl (hb hby at_15) rfl (tlt (by decide : ((0 : Int32) < (1 : Int32)))).1 (by decide) (by decide) ?_
      show Steps p.tables e below (T9.setTop (mkF m 27 #[.val (.int p0), .val (.int (0 : Int32)), .val (.ref s_OTHER), .unset] [])) _
      refine XS.iconst X9.here hx rfl (hb hby at_27) ?_
      show Steps p.tables e below (T9.setTop (mkF m 28 #[.val (.int p0), .val (.int (0 : Int32)), .val (.ref s_OTHER), .unset] [(.int (0 : Int32))])) _
      refine XS.istoreN X9.here hx rfl (hb hby at_28) rfl (l' := #[.val (.int p0), .val (.int (0 : Int32)), .val (.ref s_OTHER), .val (.int (0 : Int32))]) rfl ?_
      show Steps p.tables e below (T9.setTop (mkF m 29 #[.val (.int p0), .val (.int (0 : Int32)), .val (.ref s_OTHER), .val (.int (0 : Int32))] [])) _
      refine XS.aloadN X9.here hx rfl (hb hby at_29) rfl rfl ?_
      show Steps p.tables e below (T9.setTop (mkF m 30 #[.val (.int p0), .val (.int (0 : Int32)), .val (.ref s_OTHER), .val (.int (0 : Int32))] [(.ref s_OTHER)])) _
      exact k
    obtain ⟨cq10, kq10, q10a, q10b, q10c⟩ := isOf hZ e9 (E_OTHER.ext O0.2)
    obtain ⟨_, _, ⟨T10, L10, k10, n10⟩, -, X10, ⟨Lc10, hQ10, l10, y10, z10⟩, st10⟩ := X9.virtualBack hx (y := (⟨"com/example/hits_from_terms/hitsfromterms/analysis/WordBreak", "isLineBreak", "()Z"⟩ : MethodName)) (z := (⟨"com/example/hits_from_terms/hitsfromterms/analysis/WordBreak", "isLineBreak", "()Z"⟩ : MethodName)) hown (mvT hZ (hw _ (List.mem_of_getElem? (i := 8) rfl))) (mvT hZ (hw _ (List.mem_of_getElem? (i := 9) rfl))) (notFace_of_selects (args := #[]) (mvT hZ (hw _ (List.mem_of_getElem? (i := 11) rfl)))) (mvT hZ (hw _ (List.mem_of_getElem? (i := 11) rfl))) (mvT hZ (hw _ (List.mem_of_getElem? (i := 10) rfl))) (by decide) (backOf (W := 0) (rm2 l Z a0 hw [] s_OTHER s_CR s_LF s_NEWLINE s_SINGLE_QUOTE s_FORMAT s_REGIONAL_INDICATOR s_ALETTER s_EXTEND_NUM_LET s_KATAKANA s_HEBREW_LETTER s_MID_NUM_LET s_WSEG_SPACE s_ZWJ s_DOUBLE_QUOTE s_EXTEND s_NUMERIC s_MID_LETTER s_MID_NUM s_VALUES k_VALUES HW s_OTHER h0 n0 O0) hZ (hw _ (List.mem_of_getElem? (i := 12) rfl)) (hw _ (List.mem_of_getElem? (i := 3) rfl)) (by decide) (by decide)) q10a q10c (g := (mkF m 30 #[.val (.int p0), .val (.int (0 : Int32)), .val (.ref s_OTHER), .val (.int (0 : Int32))] [(.ref s_OTHER)])) rfl (by rw [hml]; rfl) (Steps.refl _) (argsL := []) (rest := []) (lenOf own_pd18 rfl) rfl (by show 2 * 0 + _ ≤ _; exact Nat.le_of_eq rfl) (hb hby at_30) (fun _ _ => ⟨rfl, e9, (by decide : 0 + 0 ≤ _), (by decide : 0 + 0 ≤ _)⟩)
    dsimp only [Pt.U, Pt.locs, Pt.cells, Pt.slots] at X10 l10 y10 z10 st10 hQ10
    subst l10 y10 z10
    obtain ⟨rfl, N10q, e10⟩ := hQ10
    have N10 := Fr.app N9 N10q
    refine Go.st (V' := T10.setTop (mkF m 33 #[.val (.int p0), .val (.int (0 : Int32)), .val (.ref s_OTHER), .val (.int (0 : Int32))] [(.int (f2 s_CR s_LF s_NEWLINE s_OTHER))])) (fun t k => st10.trans k) ?_
    have r11 : (f2 s_CR s_LF s_NEWLINE s_OTHER) = (0 : Int32) := by rw [f2, if_neg (Fld.ne (F_OTHER_ordinal.ext O0.2) (F_CR_ordinal.ext O0.2) (by decide)), if_neg (Fld.ne (F_OTHER_ordinal.ext O0.2) (F_LF_ordinal.ext O0.2) (by decide)), if_neg (Fld.ne (F_OTHER_ordinal.ext O0.2) (F_NEWLINE_ordinal.ext O0.2) (by decide))]
    rw [r11]
    refine Go.st (V' := T10.setTop (mkF m 42 #[.val (.int p0), .val (.int (0 : Int32)), .val (.ref s_OTHER), .val (.int (0 : Int32))] [(.int (1 : Int32))])) (fun t k => ?_) ?_
    · refine XS.iloadN X10.here hx rfl (hb hby at_33) rfl  ?_
      show Steps p.tables e below (T10.setTop (mkF m 34 #[.val (.int p0), .val (.int (0 : Int32)), .val (.ref s_OTHER), .val (.int (0 : Int32))] [(.int (0 : Int32)), (.int (0 : Int32))])) _
      refine XS.icmpNo X10.here hx rfl (hb hby at_34) rfl (teq (by decide : ((0 : Int32) = (0 : Int32)))).2 ?_
      show Steps p.tables e below (T10.setTop (mkF m 37 #[.val (.int p0), .val (.int (0 : Int32)), .val (.ref s_OTHER), .val (.int (0 : Int32))] [])) _
      refine XS.iconst X10.here hx rfl (hb hby at_37) ?_
      show Steps p.tables e below (T10.setTop (mkF m 38 #[.val (.int p0), .val (.int (0 : Int32)), .val (.ref s_OTHER), .val (.int (0 : Int32))] [(.int (1 : Int32))])) _
      refine XS.goto X10.here hx rfl (pc0 := 38) (pc' := 42) rfl (hb hby at_38) (by decide) (by decide) ?_
      show Steps p.tables e below (T10.setTop (mkF m 42 #[.val (.int p0), .val (.int (0 : Int32)), .val (.ref s_OTHER), .val (.int (0 : Int32))] [(.int (1 : Int32))])) _
      exact k
    obtain ⟨fs, hr, hrun, hended, hW, hsame⟩ := X10.leave (v := some (.int (1 : Int32))) (fun h => by rw [Bd.returns] at h; cases h)
    refine Go.mk' ⟨_, _, retN X10 hx (t := .boolean) Bd.returns (by simp) (hb hby at_42) hr, hrun, hended, _, _, rfl, ?_, ⟨_, rfl⟩, hW, hsame.mono (by decide) (by decide)⟩
    show Q0 Z p0 h0 n0 _ T10.heap _
    rw [e10]
    exact ⟨rfl, N10⟩
  · show Go p e below _ (s₁.setTop (mkF m 8 #[.val (.int p0), .val (.int (1 : Int32)), .unset, .unset] []))
    refine Go.st (V' := s₁.setTop (mkF m 9 #[.val (.int p0), .val (.int (1 : Int32)), .unset, .unset] [(.int (1 : Int32))])) (fun t k => ?_) ?_
    · refine XS.iloadN X0.here hx rfl (hb hby at_8) rfl  ?_
      show Steps p.tables e below (s₁.setTop (mkF m 9 #[.val (.int p0), .val (.int (1 : Int32)), .unset, .unset] [(.int (1 : Int32))])) _
      exact k
    obtain ⟨_, _, ⟨T12, L12, k12, n12⟩, -, X12, ⟨Lc12, hQ12, l12, y12, z12⟩, st12⟩ := Jvm.LawKit.callS X0 hx (y := (⟨"com/example/hits_from_terms/hitsfromterms/analysis/WordBreak", "forOrdinal", "(I)Lcom/example/hits_from_terms/hitsfromterms/analysis/WordBreak;"⟩ : MethodName)) hown (mvT hZ (hw _ (List.mem_of_getElem? (i := 1) rfl))) (mvT hZ (hw _ (List.mem_of_getElem? (i := 2) rfl))) (mvT hZ (hw _ (List.mem_of_getElem? (i := 3) rfl))) (mvT hZ (hw _ (List.mem_of_getElem? (i := 4) rfl))) (by decide) (backOf (W := 0) (rm1 l Z a0 hw [] s_OTHER s_CR s_LF s_NEWLINE s_SINGLE_QUOTE s_FORMAT s_REGIONAL_INDICATOR s_ALETTER s_EXTEND_NUM_LET s_KATAKANA s_HEBREW_LETTER s_MID_NUM_LET s_WSEG_SPACE s_ZWJ s_DOUBLE_QUOTE s_EXTEND s_NUMERIC s_MID_LETTER s_MID_NUM s_VALUES k_VALUES HW (1 : Int32) s_CR h0 n0 O0 ⟨by decide, by decide⟩ rfl) hZ (hw _ (List.mem_of_getElem? (i := 4) rfl)) (hw _ (List.mem_of_getElem? (i := 3) rfl)) (by decide) (by decide)) (g := (mkF m 9 #[.val (.int p0), .val (.int (1 : Int32)), .unset, .unset] [(.int (1 : Int32))])) rfl (by rw [hml]; rfl) (argsL := [(.int (1 : Int32))]) (rest := []) (lenOf own_pd17 rfl) rfl (by show 2 * 0 + _ ≤ _; exact Nat.le_of_eq rfl) (hb hby at_9) (fun _ _ => ⟨rfl, e0, (by decide : 0 + 0 ≤ _), (by decide : 0 + 0 ≤ _)⟩)
    dsimp only [Pt.U, Pt.locs, Pt.cells, Pt.slots] at X12 l12 y12 z12 st12 hQ12
    subst l12 y12 z12
    obtain ⟨rfl, N12q, e12⟩ := hQ12
    have N12 := Fr.app N0 N12q
    refine Go.st (V' := T12.setTop (mkF m 12 #[.val (.int p0), .val (.int (1 : Int32)), .unset, .unset] [(.ref s_CR)])) (fun t k => st12 t k) ?_
    refine Go.st (V' := T12.setTop (mkF m 30 #[.val (.int p0), .val (.int (1 : Int32)), .val (.ref s_CR), .val (.int (1 : Int32))] [(.ref s_CR)])) (fun t k => ?_) ?_
    · refine XS.astoreN X12.here hx rfl (hb hby at_12) rfl rfl (l' := #[.val (.int p0), .val (.int (1 : Int32)), .val (.ref s_CR), .unset]) rfl ?_
      show Steps p.tables e below (T12.setTop (mkF m 13 #[.val (.int p0), .val (.int (1 : Int32)), .val (.ref s_CR), .unset] [])) _
      refine XS.iloadN X12.here hx rfl (hb hby at_13) rfl  ?_
      show Steps p.tables e below (T12.setTop (mkF m 14 #[.val (.int p0), .val (.int (1 : Int32)), .val (.ref s_CR), .unset] [(.int (1 : Int32))])) _
      refine XS.iconst X12.here hx rfl (hb hby at_14) ?_
      show Steps p.tables e below (T12.setTop (mkF m 15 #[.val (.int p0), .val (.int (1 : Int32)), .val (.ref s_CR), .unset] [(.int (1 : Int32)), (.int (1 : Int32))])) _
      refine XS.icmpNo X12.here hx rfl (hb hby at_15) rfl (flt (by decide : ¬ ((1 : Int32) < (1 : Int32)))).1 ?_
      show Steps p.tables e below (T12.setTop (mkF m 18 #[.val (.int p0), .val (.int (1 : Int32)), .val (.ref s_CR), .unset] [])) _
      refine XS.iloadN X12.here hx rfl (hb hby at_18) rfl  ?_
      show Steps p.tables e below (T12.setTop (mkF m 19 #[.val (.int p0), .val (.int (1 : Int32)), .val (.ref s_CR), .unset] [(.int (1 : Int32))])) _
      refine XS.iconst X12.here hx rfl (hb hby at_19) ?_
      show Steps p.tables e below (T12.setTop (mkF m 20 #[.val (.int p0), .val (.int (1 : Int32)), .val (.ref s_CR), .unset] [(.int (3 : Int32)), (.int (1 : Int32))])) _
      refine XS.icmpNo X12.here hx rfl (hb hby at_20) rfl (flt (by decide : ¬ ((3 : Int32) < (1 : Int32)))).2.2.1 ?_
      show Steps p.tables e below (T12.setTop (mkF m 23 #[.val (.int p0), .val (.int (1 : Int32)), .val (.ref s_CR), .unset] [])) _
      refine XS.iconst X12.here hx rfl (hb hby at_23) ?_
      show Steps p.tables e below (T12.setTop (mkF m 24 #[.val (.int p0), .val (.int (1 : Int32)), .val (.ref s_CR), .unset] [(.int (1 : Int32))])) _
      refine XS.goto X12.here hx rfl (pc0 := 24) (pc' := 28) rfl (hb hby at_24) (by decide) (by decide) ?_
      show Steps p.tables e below (T12.setTop (mkF m 28 #[.val (.int p0), .val (.int (1 : Int32)), .val (.ref s_CR), .unset] [(.int (1 : Int32))])) _
      refine XS.istoreN X12.here hx rfl (hb hby at_28) rfl (l' := #[.val (.int p0), .val (.int (1 : Int32)), .val (.ref s_CR), .val (.int (1 : Int32))]) rfl ?_
      show Steps p.tables e below (T12.setTop (mkF m 29 #[.val (.int p0), .val (.int (1 : Int32)), .val (.ref s_CR), .val (.int (1 : Int32))] [])) _
      refine XS.aloadN X12.here hx rfl (hb hby at_29) rfl rfl ?_
      show Steps p.tables e below (T12.setTop (mkF m 30 #[.val (.int p0), .val (.int (1 : Int32)), .val (.ref s_CR), .val (.int (1 : Int32))] [(.ref s_CR)])) _
      exact k
    obtain ⟨cq13, kq13, q13a, q13b, q13c⟩ := isOf hZ e12 (E_CR.ext O0.2)
    obtain ⟨_, _, ⟨T13, L13, k13, n13⟩, -, X13, ⟨Lc13, hQ13, l13, y13, z13⟩, st13⟩ := X12.virtualBack hx (y := (⟨"com/example/hits_from_terms/hitsfromterms/analysis/WordBreak", "isLineBreak", "()Z"⟩ : MethodName)) (z := (⟨"com/example/hits_from_terms/hitsfromterms/analysis/WordBreak", "isLineBreak", "()Z"⟩ : MethodName)) hown (mvT hZ (hw _ (List.mem_of_getElem? (i := 8) rfl))) (mvT hZ (hw _ (List.mem_of_getElem? (i := 9) rfl))) (notFace_of_selects (args := #[]) (mvT hZ (hw _ (List.mem_of_getElem? (i := 11) rfl)))) (mvT hZ (hw _ (List.mem_of_getElem? (i := 11) rfl))) (mvT hZ (hw _ (List.mem_of_getElem? (i := 10) rfl))) (by decide) (backOf (W := 0) (rm2 l Z a0 hw [] s_OTHER s_CR s_LF s_NEWLINE s_SINGLE_QUOTE s_FORMAT s_REGIONAL_INDICATOR s_ALETTER s_EXTEND_NUM_LET s_KATAKANA s_HEBREW_LETTER s_MID_NUM_LET s_WSEG_SPACE s_ZWJ s_DOUBLE_QUOTE s_EXTEND s_NUMERIC s_MID_LETTER s_MID_NUM s_VALUES k_VALUES HW s_CR h0 n0 O0) hZ (hw _ (List.mem_of_getElem? (i := 12) rfl)) (hw _ (List.mem_of_getElem? (i := 3) rfl)) (by decide) (by decide)) q13a q13c (g := (mkF m 30 #[.val (.int p0), .val (.int (1 : Int32)), .val (.ref s_CR), .val (.int (1 : Int32))] [(.ref s_CR)])) rfl (by rw [hml]; rfl) (Steps.refl _) (argsL := []) (rest := []) (lenOf own_pd18 rfl) rfl (by show 2 * 0 + _ ≤ _; exact Nat.le_of_eq rfl) (hb hby at_30) (fun _ _ => ⟨rfl, e12, (by decide : 0 + 0 ≤ _), (by decide : 0 + 0 ≤ _)⟩)
    dsimp only [Pt.U, Pt.locs, Pt.cells, Pt.slots] at X13 l13 y13 z13 st13 hQ13
    subst l13 y13 z13
    obtain ⟨rfl, N13q, e13⟩ := hQ13
    have N13 := Fr.app N12 N13q
    refine Go.st (V' := T13.setTop (mkF m 33 #[.val (.int p0), .val (.int (1 : Int32)), .val (.ref s_CR), .val (.int (1 : Int32))] [(.int (f2 s_CR s_LF s_NEWLINE s_CR))])) (fun t k => st13.trans k) ?_
    have r14 : (f2 s_CR s_LF s_NEWLINE s_CR) = (1 : Int32) := by rw [f2, if_pos (rfl : s_CR = s_CR)]
    rw [r14]
    refine Go.st (V' := T13.setTop (mkF m 42 #[.val (.int p0), .val (.int (1 : Int32)), .val (.ref s_CR), .val (.int (1 : Int32))] [(.int (1 : Int32))])) (fun t k => ?_) ?_
    · refine XS.iloadN X13.here hx rfl (hb hby at_33) rfl  ?_
      show Steps p.tables e below (T13.setTop (mkF m 34 #[.val (.int p0), .val (.int (1 : Int32)), .val (.ref s_CR), .val (.int (1 : Int32))] [(.int (1 : Int32)), (.int (1 : Int32))])) _
      refine XS.icmpNo X13.here hx rfl (hb hby at_34) rfl (teq (by decide : ((1 : Int32) = (1 : Int32)))).2 ?_
      show Steps p.tables e below (T13.setTop (mkF m 37 #[.val (.int p0), .val (.int (1 : Int32)), .val (.ref s_CR), .val (.int (1 : Int32))] [])) _
      refine XS.iconst X13.here hx rfl (hb hby at_37) ?_
      show Steps p.tables e below (T13.setTop (mkF m 38 #[.val (.int p0), .val (.int (1 : Int32)), .val (.ref s_CR), .val (.int (1 : Int32))] [(.int (1 : Int32))])) _
      refine XS.goto X13.here hx rfl (pc0 := 38) (pc' := 42) rfl (hb hby at_38) (by decide) (by decide) ?_
      show Steps p.tables e below (T13.setTop (mkF m 42 #[.val (.int p0), .val (.int (1 : Int32)), .val (.ref s_CR), .val (.int (1 : Int32))] [(.int (1 : Int32))])) _
      exact k
    obtain ⟨fs, hr, hrun, hended, hW, hsame⟩ := X13.leave (v := some (.int (1 : Int32))) (fun h => by rw [Bd.returns] at h; cases h)
    refine Go.mk' ⟨_, _, retN X13 hx (t := .boolean) Bd.returns (by simp) (hb hby at_42) hr, hrun, hended, _, _, rfl, ?_, ⟨_, rfl⟩, hW, hsame.mono (by decide) (by decide)⟩
    show Q0 Z p0 h0 n0 _ T13.heap _
    rw [e13]
    exact ⟨rfl, N13⟩
  · show Go p e below _ (s₁.setTop (mkF m 8 #[.val (.int p0), .val (.int (2 : Int32)), .unset, .unset] []))
    refine Go.st (V' := s₁.setTop (mkF m 9 #[.val (.int p0), .val (.int (2 : Int32)), .unset, .unset] [(.int (2 : Int32))])) (fun t k => ?_) ?_
    · refine XS.iloadN X0.here hx rfl (hb hby at_8) rfl  ?_
      show Steps p.tables e below (s₁.setTop (mkF m 9 #[.val (.int p0), .val (.int (2 : Int32)), .unset, .unset] [(.int (2 : Int32))])) _
      exact k
    obtain ⟨_, _, ⟨T15, L15, k15, n15⟩, -, X15, ⟨Lc15, hQ15, l15, y15, z15⟩, st15⟩ := Jvm.LawKit.callS X0 hx (y := (⟨"com/example/hits_from_terms/hitsfromterms/analysis/WordBreak", "forOrdinal", "(I)Lcom/example/hits_from_terms/hitsfromterms/analysis/WordBreak;"⟩ : MethodName)) hown (mvT hZ (hw _ (List.mem_of_getElem? (i := 1) rfl))) (mvT hZ (hw _ (List.mem_of_getElem? (i := 2) rfl))) (mvT hZ (hw _ (List.mem_of_getElem? (i := 3) rfl))) (mvT hZ (hw _ (List.mem_of_getElem? (i := 4) rfl))) (by decide) (backOf (W := 0) (rm1 l Z a0 hw [] s_OTHER s_CR s_LF s_NEWLINE s_SINGLE_QUOTE s_FORMAT s_REGIONAL_INDICATOR s_ALETTER s_EXTEND_NUM_LET s_KATAKANA s_HEBREW_LETTER s_MID_NUM_LET s_WSEG_SPACE s_ZWJ s_DOUBLE_QUOTE s_EXTEND s_NUMERIC s_MID_LETTER s_MID_NUM s_VALUES k_VALUES HW (2 : Int32) s_LF h0 n0 O0 ⟨by decide, by decide⟩ rfl) hZ (hw _ (List.mem_of_getElem? (i := 4) rfl)) (hw _ (List.mem_of_getElem? (i := 3) rfl)) (by decide) (by decide)) (g := (mkF m 9 #[.val (.int p0), .val (.int (2 : Int32)), .unset, .unset] [(.int (2 : Int32))])) rfl (by rw [hml]; rfl) (argsL := [(.int (2 : Int32))]) (rest := []) (lenOf own_pd17 rfl) rfl (by show 2 * 0 + _ ≤ _; exact Nat.le_of_eq rfl) (hb hby at_9) (fun _ _ => ⟨rfl, e0, (by decide : 0 + 0 ≤ _), (by decide : 0 + 0 ≤ _)⟩)
    dsimp only [Pt.U, Pt.locs, Pt.cells, Pt.slots] at X15 l15 y15 z15 st15 hQ15
    subst l15 y15 z15
    obtain ⟨rfl, N15q, e15⟩ := hQ15
    have N15 := Fr.app N0 N15q
    refine Go.st (V' := T15.setTop (mkF m 12 #[.val (.int p0), .val (.int (2 : Int32)), .unset, .unset] [(.ref s_LF)])) (fun t k => st15 t k) ?_
    refine Go.st (V' := T15.setTop (mkF m 30 #[.val (.int p0), .val (.int (2 : Int32)), .val (.ref s_LF), .val (.int (1 : Int32))] [(.ref s_LF)])) (fun t k => ?_) ?_
    · refine XS.astoreN X15.here hx rfl (hb hby at_12) rfl rfl (l' := #[.val (.int p0), .val (.int (2 : Int32)), .val (.ref s_LF), .unset]) rfl ?_
      show Steps p.tables e below (T15.setTop (mkF m 13 #[.val (.int p0), .val (.int (2 : Int32)), .val (.ref s_LF), .unset] [])) _
      refine XS.iloadN X15.here hx rfl (hb hby at_13) rfl  ?_
      show Steps p.tables e below (T15.setTop (mkF m 14 #[.val (.int p0), .val (.int (2 : Int32)), .val (.ref s_LF), .unset] [(.int (2 : Int32))])) _
      refine XS.iconst X15.here hx rfl (hb hby at_14) ?_
      show Steps p.tables e below (T15.setTop (mkF m 15 #[.val (.int p0), .val (.int (2 : Int32)), .val (.ref s_LF), .unset] [(.int (1 : Int32)), (.int (2 : Int32))])) _
      refine XS.icmpNo X15.here hx rfl (hb hby at_15) rfl (flt (by decide : ¬ ((2 : Int32) < (1 : Int32)))).1 ?_
      show Steps p.tables e below (T15.setTop (mkF m 18 #[.val (.int p0), .val (.int (2 : Int32)), .val (.ref s_LF), .unset] [])) _
      refine XS.iloadN X15.here hx rfl (hb hby at_18) rfl  ?_
      show Steps p.tables e below (T15.setTop (mkF m 19 #[.val (.int p0), .val (.int (2 : Int32)), .val (.ref s_LF), .unset] [(.int (2 : Int32))])) _
      refine XS.iconst X15.here hx rfl (hb hby at_19) ?_
      show Steps p.tables e below (T15.setTop (mkF m 20 #[.val (.int p0), .val (.int (2 : Int32)), .val (.ref s_LF), .unset] [(.int (3 : Int32)), (.int (2 : Int32))])) _
      refine XS.icmpNo X15.here hx rfl (hb hby at_20) rfl (flt (by decide : ¬ ((3 : Int32) < (2 : Int32)))).2.2.1 ?_
      show Steps p.tables e below (T15.setTop (mkF m 23 #[.val (.int p0), .val (.int (2 : Int32)), .val (.ref s_LF), .unset] [])) _
      refine XS.iconst X15.here hx rfl (hb hby at_23) ?_
      show Steps p.tables e below (T15.setTop (mkF m 24 #[.val (.int p0), .val (.int (2 : Int32)), .val (.ref s_LF), .unset] [(.int (1 : Int32))])) _
      refine XS.goto X15.here hx rfl (pc0 := 24) (pc' := 28) rfl (hb hby at_24) (by decide) (by decide) ?_
      show Steps p.tables e below (T15.setTop (mkF m 28 #[.val (.int p0), .val (.int (2 : Int32)), .val (.ref s_LF), .unset] [(.int (1 : Int32))])) _
      refine XS.istoreN X15.here hx rfl (hb hby at_28) rfl (l' := #[.val (.int p0), .val (.int (2 : Int32)), .val (.ref s_LF), .val (.int (1 : Int32))]) rfl ?_
      show Steps p.tables e below (T15.setTop (mkF m 29 #[.val (.int p0), .val (.int (2 : Int32)), .val (.ref s_LF), .val (.int (1 : Int32))] [])) _
      refine XS.aloadN X15.here hx rfl (hb hby at_29) rfl rfl ?_
      show Steps p.tables e below (T15.setTop (mkF m 30 #[.val (.int p0), .val (.int (2 : Int32)), .val (.ref s_LF), .val (.int (1 : Int32))] [(.ref s_LF)])) _
      exact k
    obtain ⟨cq16, kq16, q16a, q16b, q16c⟩ := isOf hZ e15 (E_LF.ext O0.2)
    obtain ⟨_, _, ⟨T16, L16, k16, n16⟩, -, X16, ⟨Lc16, hQ16, l16, y16, z16⟩, st16⟩ := X15.virtualBack hx (y := (⟨"com/example/hits_from_terms/hitsfromterms/analysis/WordBreak", "isLineBreak", "()Z"⟩ : MethodName)) (z := (⟨"com/example/hits_from_terms/hitsfromterms/analysis/WordBreak", "isLineBreak", "()Z"⟩ : MethodName)) hown (mvT hZ (hw _ (List.mem_of_getElem? (i := 8) rfl))) (mvT hZ (hw _ (List.mem_of_getElem? (i := 9) rfl))) (notFace_of_selects (args := #[]) (mvT hZ (hw _ (List.mem_of_getElem? (i := 11) rfl)))) (mvT hZ (hw _ (List.mem_of_getElem? (i := 11) rfl))) (mvT hZ (hw _ (List.mem_of_getElem? (i := 10) rfl))) (by decide) (backOf (W := 0) (rm2 l Z a0 hw [] s_OTHER s_CR s_LF s_NEWLINE s_SINGLE_QUOTE s_FORMAT s_REGIONAL_INDICATOR s_ALETTER s_EXTEND_NUM_LET s_KATAKANA s_HEBREW_LETTER s_MID_NUM_LET s_WSEG_SPACE s_ZWJ s_DOUBLE_QUOTE s_EXTEND s_NUMERIC s_MID_LETTER s_MID_NUM s_VALUES k_VALUES HW s_LF h0 n0 O0) hZ (hw _ (List.mem_of_getElem? (i := 12) rfl)) (hw _ (List.mem_of_getElem? (i := 3) rfl)) (by decide) (by decide)) q16a q16c (g := (mkF m 30 #[.val (.int p0), .val (.int (2 : Int32)), .val (.ref s_LF), .val (.int (1 : Int32))] [(.ref s_LF)])) rfl (by rw [hml]; rfl) (Steps.refl _) (argsL := []) (rest := []) (lenOf own_pd18 rfl) rfl (by show 2 * 0 + _ ≤ _; exact Nat.le_of_eq rfl) (hb hby at_30) (fun _ _ => ⟨rfl, e15, (by decide : 0 + 0 ≤ _), (by decide : 0 + 0 ≤ _)⟩)
    dsimp only [Pt.U, Pt.locs, Pt.cells, Pt.slots] at X16 l16 y16 z16 st16 hQ16
    subst l16 y16 z16
    obtain ⟨rfl, N16q, e16⟩ := hQ16
    have N16 := Fr.app N15 N16q
    refine Go.st (V' := T16.setTop (mkF m 33 #[.val (.int p0), .val (.int (2 : Int32)), .val (.ref s_LF), .val (.int (1 : Int32))] [(.int (f2 s_CR s_LF s_NEWLINE s_LF))])) (fun t k => st16.trans k) ?_
    have r17 : (f2 s_CR s_LF s_NEWLINE s_LF) = (1 : Int32) := by rw [f2, if_neg (Fld.ne (F_LF_ordinal.ext O0.2) (F_CR_ordinal.ext O0.2) (by decide)), if_pos (rfl : s_LF = s_LF)]
    rw [r17]
    refine Go.st (V' := T16.setTop (mkF m 42 #[.val (.int p0), .val (.int (2 : Int32)), .val (.ref s_LF), .val (.int (1 : Int32))] [(.int (1 : Int32))])) (fun t k => ?_) ?_
    · refine XS.iloadN X16.here hx rfl (hb hby at_33) rfl  ?_
      show Steps p.tables e below (T16.setTop (mkF m 34 #[.val (.int p0), .val (.int (2 : Int32)), .val (.ref s_LF), .val (.int (1 : Int32))] [(.int (1 : Int32)), (.int (1 : Int32))])) _
      refine XS.icmpNo X16.here hx rfl (hb hby at_34) rfl (teq (by decide : ((1 : Int32) = (1 : Int32)))).2 ?_
      show Steps p.tables e below (T16.setTop (mkF m 37 #[.val (.int p0), .val (.int (2 : Int32)), .val (.ref s_LF), .val (.int (1 : Int32))] [])) _
      refine XS.iconst X16.here hx rfl (hb hby at_37) ?_
      show Steps p.tables e below (T16.setTop (mkF m 38 #[.val (.int p0), .val (.int (2 : Int32)), .val (.ref s_LF), .val (.int (1 : Int32))] [(.int (1 : Int32))])) _
      refine XS.goto X16.here hx rfl (pc0 := 38) (pc' := 42) rfl (hb hby at_38) (by decide) (by decide) ?_
      show Steps p.tables e below (T16.setTop (mkF m 42 #[.val (.int p0), .val (.int (2 : Int32)), .val (.ref s_LF), .val (.int (1 : Int32))] [(.int (1 : Int32))])) _
      exact k
    obtain ⟨fs, hr, hrun, hended, hW, hsame⟩ := X16.leave (v := some (.int (1 : Int32))) (fun h => by rw [Bd.returns] at h; cases h)
    refine Go.mk' ⟨_, _, retN X16 hx (t := .boolean) Bd.returns (by simp) (hb hby at_42) hr, hrun, hended, _, _, rfl, ?_, ⟨_, rfl⟩, hW, hsame.mono (by decide) (by decide)⟩
    show Q0 Z p0 h0 n0 _ T16.heap _
    rw [e16]
    exact ⟨rfl, N16⟩
  · show Go p e below _ (s₁.setTop (mkF m 8 #[.val (.int p0), .val (.int (3 : Int32)), .unset, .unset] []))
    refine Go.st (V' := s₁.setTop (mkF m 9 #[.val (.int p0), .val (.int (3 : Int32)), .unset, .unset] [(.int (3 : Int32))])) (fun t k => ?_) ?_
    · refine XS.iloadN X0.here hx rfl (hb hby at_8) rfl  ?_
      show Steps p.tables e below (s₁.setTop (mkF m 9 #[.val (.int p0), .val (.int (3 : Int32)), .unset, .unset] [(.int (3 : Int32))])) _
      exact k
    obtain ⟨_, _, ⟨T18, L18, k18, n18⟩, -, X18, ⟨Lc18, hQ18, l18, y18, z18⟩, st18⟩ := Jvm.LawKit.callS X0 hx (y := (⟨"com/example/hits_from_terms/hitsfromterms/analysis/WordBreak", "forOrdinal", "(I)Lcom/example/hits_from_terms/hitsfromterms/analysis/WordBreak;"⟩ : MethodName)) hown (mvT hZ (hw _ (List.mem_of_getElem? (i := 1) rfl))) (mvT hZ (hw _ (List.mem_of_getElem? (i := 2) rfl))) (mvT hZ (hw _ (List.mem_of_getElem? (i := 3) rfl))) (mvT hZ (hw _ (List.mem_of_getElem? (i := 4) rfl))) (by decide) (backOf (W := 0) (rm1 l Z a0 hw [] s_OTHER s_CR s_LF s_NEWLINE s_SINGLE_QUOTE s_FORMAT s_REGIONAL_INDICATOR s_ALETTER s_EXTEND_NUM_LET s_KATAKANA s_HEBREW_LETTER s_MID_NUM_LET s_WSEG_SPACE s_ZWJ s_DOUBLE_QUOTE s_EXTEND s_NUMERIC s_MID_LETTER s_MID_NUM s_VALUES k_VALUES HW (3 : Int32) s_NEWLINE h0 n0 O0 ⟨by decide, by decide⟩ rfl) hZ (hw _ (List.mem_of_getElem? (i := 4) rfl)) (hw _ (List.mem_of_getElem? (i := 3) rfl)) (by decide) (by decide)) (g := (mkF m 9 #[.val (.int p0), .val (.int (3 : Int32)), .unset, .unset] [(.int (3 : Int32))])) rfl (by rw [hml]; rfl) (argsL := [(.int (3 : Int32))]) (rest := []) (lenOf own_pd17 rfl) rfl (by show 2 * 0 + _ ≤ _; exact Nat.le_of_eq rfl) (hb hby at_9) (fun _ _ => ⟨rfl, e0, (by decide : 0 + 0 ≤ _), (by decide : 0 + 0 ≤ _)⟩)
    dsimp only [Pt.U, Pt.locs, Pt.cells, Pt.slots] at X18 l18 y18 z18 st18 hQ18
    subst l18 y18 z18
    obtain ⟨rfl, N18q, e18⟩ := hQ18
    have N18 := Fr.app N0 N18q
    refine Go.st (V' := T18.setTop (mkF m 12 #[.val (.int p0), .val (.int (3 : Int32)), .unset, .unset] [(.ref s_NEWLINE)])) (fun t k => st18 t k) ?_
    refine Go.st (V' := T18.setTop (mkF m 30 #[.val (.int p0), .val (.int (3 : Int32)), .val (.ref s_NEWLINE), .val (.int (1 : Int32))] [(.ref s_NEWLINE)])) (fun t k => ?_) ?_
    · refine XS.astoreN X18.here hx rfl (hb hby at_12) rfl rfl (l' := #[.val (.int p0), .val (.int (3 : Int32)), .val (.ref s_NEWLINE), .unset]) rfl ?_
      show Steps p.tables e below (T18.setTop (mkF m 13 #[.val (.int p0), .val (.int (3 : Int32)), .val (.ref s_NEWLINE), .unset] [])) _
      refine XS.iloadN X18.here hx rfl (hb hby at_13) rfl  ?_
      show Steps p.tables e below (T18.setTop (mkF m 14 #[.val (.int p0), .val (.int (3 : Int32)), .val (.ref s_NEWLINE), .unset] [(.int (3 : Int32))])) _
      refine XS.iconst X18.here hx rfl (hb hby at_14) ?_
      show Steps p.tables e below (T18.setTop (mkF m 15 #[.val (.int p0), .val (.int (3 : Int32)), .val (.ref s_NEWLINE), .unset] [(.int (1 : Int32)), (.int (3 : Int32))])) _
      refine XS.icmpNo X18.here hx rfl (hb hby at_15) rfl (flt (by decide : ¬ ((3 : Int32) < (1 : Int32)))).1 ?_
      show Steps p.tables e below (T18.setTop (mkF m 18 #[.val (.int p0), .val (.int (3 : Int32)), .val (.ref s_NEWLINE), .unset] [])) _
      refine XS.iloadN X18.here hx rfl (hb hby at_18) rfl  ?_
      show Steps p.tables e below (T18.setTop (mkF m 19 #[.val (.int p0), .val (.int (3 : Int32)), .val (.ref s_NEWLINE), .unset] [(.int (3 : Int32))])) _
      refine XS.iconst X18.here hx rfl (hb hby at_19) ?_
      show Steps p.tables e below (T18.setTop (mkF m 20 #[.val (.int p0), .val (.int (3 : Int32)), .val (.ref s_NEWLINE), .unset] [(.int (3 : Int32)), (.int (3 : Int32))])) _
      refine XS.icmpNo X18.here hx rfl (hb hby at_20) rfl (flt (by decide : ¬ ((3 : Int32) < (3 : Int32)))).2.2.1 ?_
      show Steps p.tables e below (T18.setTop (mkF m 23 #[.val (.int p0), .val (.int (3 : Int32)), .val (.ref s_NEWLINE), .unset] [])) _
      refine XS.iconst X18.here hx rfl (hb hby at_23) ?_
      show Steps p.tables e below (T18.setTop (mkF m 24 #[.val (.int p0), .val (.int (3 : Int32)), .val (.ref s_NEWLINE), .unset] [(.int (1 : Int32))])) _
      refine XS.goto X18.here hx rfl (pc0 := 24) (pc' := 28) rfl (hb hby at_24) (by decide) (by decide) ?_
      show Steps p.tables e below (T18.setTop (mkF m 28 #[.val (.int p0), .val (.int (3 : Int32)), .val (.ref s_NEWLINE), .unset] [(.int (1 : Int32))])) _
      refine XS.istoreN X18.here hx rfl (hb hby at_28) rfl (l' := #[.val (.int p0), .val (.int (3 : Int32)), .val (.ref s_NEWLINE), .val (.int (1 : Int32))]) rfl ?_
      show Steps p.tables e below (T18.setTop (mkF m 29 #[.val (.int p0), .val (.int (3 : Int32)), .val (.ref s_NEWLINE), .val (.int (1 : Int32))] [])) _
      refine XS.aloadN X18.here hx rfl (hb hby at_29) rfl rfl ?_
      show Steps p.tables e below (T18.setTop (mkF m 30 #[.val (.int p0), .val (.int (3 : Int32)), .val (.ref s_NEWLINE), .val (.int (1 : Int32))] [(.ref s_NEWLINE)])) _
      exact k
    obtain ⟨cq19, kq19, q19a, q19b, q19c⟩ := isOf hZ e18 (E_NEWLINE.ext O0.2)
    obtain ⟨_, _, ⟨T19, L19, k19, n19⟩, -, X19, ⟨Lc19, hQ19, l19, y19, z19⟩, st19⟩ := X18.virtualBack hx (y := (⟨"com/example/hits_from_terms/hitsfromterms/analysis/WordBreak", "isLineBreak", "()Z"⟩ : MethodName)) (z := (⟨"com/example/hits_from_terms/hitsfromterms/analysis/WordBreak", "isLineBreak", "()Z"⟩ : MethodName)) hown (mvT hZ (hw _ (List.mem_of_getElem? (i := 8) rfl))) (mvT hZ (hw _ (List.mem_of_getElem? (i := 9) rfl))) (notFace_of_selects (args := #[]) (mvT hZ (hw _ (List.mem_of_getElem? (i := 11) rfl)))) (mvT hZ (hw _ (List.mem_of_getElem? (i := 11) rfl))) (mvT hZ (hw _ (List.mem_of_getElem? (i := 10) rfl))) (by decide) (backOf (W := 0) (rm2 l Z a0 hw [] s_OTHER s_CR s_LF s_NEWLINE s_SINGLE_QUOTE s_FORMAT s_REGIONAL_INDICATOR s_ALETTER s_EXTEND_NUM_LET s_KATAKANA s_HEBREW_LETTER s_MID_NUM_LET s_WSEG_SPACE s_ZWJ s_DOUBLE_QUOTE s_EXTEND s_NUMERIC s_MID_LETTER s_MID_NUM s_VALUES k_VALUES HW s_NEWLINE h0 n0 O0) hZ (hw _ (List.mem_of_getElem? (i := 12) rfl)) (hw _ (List.mem_of_getElem? (i := 3) rfl)) (by decide) (by decide)) q19a q19c (g := (mkF m 30 #[.val (.int p0), .val (.int (3 : Int32)), .val (.ref s_NEWLINE), .val (.int (1 : Int32))] [(.ref s_NEWLINE)])) rfl (by rw [hml]; rfl) (Steps.refl _) (argsL := []) (rest := []) (lenOf own_pd18 rfl) rfl (by show 2 * 0 + _ ≤ _; exact Nat.le_of_eq rfl) (hb hby at_30) (fun _ _ => ⟨rfl, e18, (by decide : 0 + 0 ≤ _), (by decide : 0 + 0 ≤ _)⟩)
    dsimp only [Pt.U, Pt.locs, Pt.cells, Pt.slots] at X19 l19 y19 z19 st19 hQ19
    subst l19 y19 z19
    obtain ⟨rfl, N19q, e19⟩ := hQ19
    have N19 := Fr.app N18 N19q
    refine Go.st (V' := T19.setTop (mkF m 33 #[.val (.int p0), .val (.int (3 : Int32)), .val (.ref s_NEWLINE), .val (.int (1 : Int32))] [(.int (f2 s_CR s_LF s_NEWLINE s_NEWLINE))])) (fun t k => st19.trans k) ?_
    have r20 : (f2 s_CR s_LF s_NEWLINE s_NEWLINE) = (1 : Int32) := by rw [f2, if_neg (Fld.ne (F_NEWLINE_ordinal.ext O0.2) (F_CR_ordinal.ext O0.2) (by decide)), if_neg (Fld.ne (F_NEWLINE_ordinal.ext O0.2) (F_LF_ordinal.ext O0.2) (by decide)), if_pos (rfl : s_NEWLINE = s_NEWLINE)]
    rw [r20]
    refine Go.st (V' := T19.setTop (mkF m 42 #[.val (.int p0), .val (.int (3 : Int32)), .val (.ref s_NEWLINE), .val (.int (1 : Int32))] [(.int (1 : Int32))])) (fun t k => ?_) ?_
    · refine XS.iloadN X19.here hx rfl (hb hby at_33) rfl  ?_
      show Steps p.tables e below (T19.setTop (mkF m 34 #[.val (.int p0), .val (.int (3 : Int32)), .val (.ref s_NEWLINE), .val (.int (1 : Int32))] [(.int (1 : Int32)), (.int (1 : Int32))])) _
      refine XS.icmpNo X19.here hx rfl (hb hby at_34) rfl (teq (by decide : ((1 : Int32) = (1 : Int32)))).2 ?_
      show Steps p.tables e below (T19.setTop (mkF m 37 #[.val (.int p0), .val (.int (3 : Int32)), .val (.ref s_NEWLINE), .val (.int (1 : Int32))] [])) _
      refine XS.iconst X19.here hx rfl (hb hby at_37) ?_
      show Steps p.tables e below (T19.setTop (mkF m 38 #[.val (.int p0), .val (.int (3 : Int32)), .val (.ref s_NEWLINE), .val (.int (1 : Int32))] [(.int (1 : Int32))])) _
      refine XS.goto X19.here hx rfl (pc0 := 38) (pc' := 42) rfl (hb hby at_38) (by decide) (by decide) ?_
      show Steps p.tables e below (T19.setTop (mkF m 42 #[.val (.int p0), .val (.int (3 : Int32)), .val (.ref s_NEWLINE), .val (.int (1 : Int32))] [(.int (1 : Int32))])) _
      exact k
    obtain ⟨fs, hr, hrun, hended, hW, hsame⟩ := X19.leave (v := some (.int (1 : Int32))) (fun h => by rw [Bd.returns] at h; cases h)
    refine Go.mk' ⟨_, _, retN X19 hx (t := .boolean) Bd.returns (by simp) (hb hby at_42) hr, hrun, hended, _, _, rfl, ?_, ⟨_, rfl⟩, hW, hsame.mono (by decide) (by decide)⟩
    show Q0 Z p0 h0 n0 _ T19.heap _
    rw [e19]
    exact ⟨rfl, N19⟩
  · show Go p e below _ (s₁.setTop (mkF m 8 #[.val (.int p0), .val (.int (4 : Int32)), .unset, .unset] []))
    refine Go.st (V' := s₁.setTop (mkF m 9 #[.val (.int p0), .val (.int (4 : Int32)), .unset, .unset] [(.int (4 : Int32))])) (fun t k => ?_) ?_
    · refine XS.iloadN X0.here hx rfl (hb hby at_8) rfl  ?_
      show Steps p.tables e below (s₁.setTop (mkF m 9 #[.val (.int p0), .val (.int (4 : Int32)), .unset, .unset] [(.int (4 : Int32))])) _
      exact k
    obtain ⟨_, _, ⟨T21, L21, k21, n21⟩, -, X21, ⟨Lc21, hQ21, l21, y21, z21⟩, st21⟩ := Jvm.LawKit.callS X0 hx (y := (⟨"com/example/hits_from_terms/hitsfromterms/analysis/WordBreak", "forOrdinal", "(I)Lcom/example/hits_from_terms/hitsfromterms/analysis/WordBreak;"⟩ : MethodName)) hown (mvT hZ (hw _ (List.mem_of_getElem? (i := 1) rfl))) (mvT hZ (hw _ (List.mem_of_getElem? (i := 2) rfl))) (mvT hZ (hw _ (List.mem_of_getElem? (i := 3) rfl))) (mvT hZ (hw _ (List.mem_of_getElem? (i := 4) rfl))) (by decide) (backOf (W := 0) (rm1 l Z a0 hw [] s_OTHER s_CR s_LF s_NEWLINE s_SINGLE_QUOTE s_FORMAT s_REGIONAL_INDICATOR s_ALETTER s_EXTEND_NUM_LET s_KATAKANA s_HEBREW_LETTER s_MID_NUM_LET s_WSEG_SPACE s_ZWJ s_DOUBLE_QUOTE s_EXTEND s_NUMERIC s_MID_LETTER s_MID_NUM s_VALUES k_VALUES HW (4 : Int32) s_EXTEND h0 n0 O0 ⟨by decide, by decide⟩ rfl) hZ (hw _ (List.mem_of_getElem? (i := 4) rfl)) (hw _ (List.mem_of_getElem? (i := 3) rfl)) (by decide) (by decide)) (g := (mkF m 9 #[.val (.int p0), .val (.int (4 : Int32)), .unset, .unset] [(.int (4 : Int32))])) rfl (by rw [hml]; rfl) (argsL := [(.int (4 : Int32))]) (rest := []) (lenOf own_pd17 rfl) rfl (by show 2 * 0 + _ ≤ _; exact Nat.le_of_eq rfl) (hb hby at_9) (fun _ _ => ⟨rfl, e0, (by decide : 0 + 0 ≤ _), (by decide : 0 + 0 ≤ _)⟩)
    dsimp only [Pt.U, Pt.locs, Pt.cells, Pt.slots] at X21 l21 y21 z21 st21 hQ21
    subst l21 y21 z21
    obtain ⟨rfl, N21q, e21⟩ := hQ21
    have N21 := Fr.app N0 N21q
    refine Go.st (V' := T21.setTop (mkF m 12 #[.val (.int p0), .val (.int (4 : Int32)), .unset, .unset] [(.ref s_EXTEND)])) (fun t k => st21 t k) ?_
    refine Go.st (V' := T21.setTop (mkF m 30 #[.val (.int p0), .val (.int (4 : Int32)), .val (.ref s_EXTEND), .val (.int (0 : Int32))] [(.ref s_EXTEND)])) (fun t k => ?_) ?_
    · refine XS.astoreN X21.here hx rfl (hb hby at_12) rfl rfl (l' := #[.val (.int p0), .val (.int (4 : Int32)), .val (.ref s_EXTEND), .unset]) rfl ?_
      show Steps p.tables e below (T21.setTop (mkF m 13 #[.val (.int p0), .val (.int (4 : Int32)), .val (.ref s_EXTEND), .unset] [])) _
      refine XS.iloadN X21.here hx rfl (hb hby at_13) rfl  ?_
      show Steps p.tables e below (T21.setTop (mkF m 14 #[.val (.int p0), .val (.int (4 : Int32)), .val (.ref s_EXTEND), .unset] [(.int (4 : Int32))])) _
      refine XS.iconst X21.here hx rfl (hb hby at_14) ?_
      show Steps p.tables e below (T21.setTop (mkF m 15 #[.val (.int p0), .val (.int (4 : Int32)), .val (.ref s_EXTEND), .unset] [(.int (1 : Int32)), (.int (4 : Int32))])) _
      refine XS.icmpNo X21.here hx rfl (hb hby at_15) rfl (flt (by decide : ¬ ((4 : Int32) < (1 : Int32)))).1 ?_
      show Steps p.tables e below (T21.setTop (mkF m 18 #[.val (.int p0), .val (.int (4 : Int32)), .val (.ref s_EXTEND), .unset] [])) _
      refine XS.iloadN X21.here hx rfl (hb hby at_18) rfl  ?_
      show Steps p.tables e below (T21.setTop (mkF m 19 #[.val (.int p0), .val (.int (4 : Int32)), .val (.ref s_EXTEND), .unset] [(.int (4 : Int32))])) _
      refine XS.iconst X21.here hx rfl (hb hby at_19) ?_
      show Steps p.tables e below (T21.setTop (mkF m 20 #[.val (.int p0), .val (.int (4 : Int32)), .val (.ref s_EXTEND), .unset] [(.int (3 : Int32)), (.int (4 : Int32))])) _
      refine XS.icmpYes X21.here hx rfl (pc0 := 20) (pc' := 27) rfl (hb hby at_20) rfl (tlt (by decide : ((3 : Int32) < (4 : Int32)))).2.2.1 (by decide) (by decide) ?_
      show Steps p.tables e below (T21.setTop (mkF m 27 #[.val (.int p0), .val (.int (4 : Int32)), .val (.ref s_EXTEND), .unset] [])) _
      refine XS.iconst X21.here hx rfl (hb hby at_27) ?_
      show Steps p.tables e below (T21.setTop (mkF m 28 #[.val (.int p0), .val (.int (4 : Int32)), .val (.ref s_EXTEND), .unset] [(.int (0 : Int32))])) _
      refine XS.istoreN X21.here hx rfl (hb hby at_28) rfl (l' := #[.val (.int p0), .val (.int (4 : Int32)), .val (.ref s_EXTEND), .val (.int (0 : Int32))]) rfl ?_
      show Steps p.tables e below (T21.setTop (mkF m 29 #[.val (.int p0), .val (.int (4 : Int32)), .val (.ref s_EXTEND), .val (.int (0 : Int32))] [])) _
      refine XS.aloadN X21.here hx rfl (hb hby at_29) rfl rfl ?_
      show Steps p.tables e below (T21.setTop (mkF m 30 #[.val (.int p0), .val (.int (4 : Int32)), .val (.ref s_EXTEND), .val (.int (0 : Int32))] [(.ref s_EXTEND)])) _
      exact k
    obtain ⟨cq22, kq22, q22a, q22b, q22c⟩ := isOf hZ e21 (E_EXTEND.ext O0.2)
    obtain ⟨_, _, ⟨T22, L22, k22, n22⟩, -, X22, ⟨Lc22, hQ22, l22, y22, z22⟩, st22⟩ := X21.virtualBack hx (y := (⟨"com/example/hits_from_terms/hitsfromterms/analysis/WordBreak", "isLineBreak", "()Z"⟩ : MethodName)) (z := (⟨"com/example/hits_from_terms/hitsfromterms/analysis/WordBreak", "isLineBreak", "()Z"⟩ : MethodName)) hown (mvT hZ (hw _ (List.mem_of_getElem? (i := 8) rfl))) (mvT hZ (hw _ (List.mem_of_getElem? (i := 9) rfl))) (notFace_of_selects (args := #[]) (mvT hZ (hw _ (List.mem_of_getElem? (i := 11) rfl)))) (mvT hZ (hw _ (List.mem_of_getElem? (i := 11) rfl))) (mvT hZ (hw _ (List.mem_of_getElem? (i := 10) rfl))) (by decide) (backOf (W := 0) (rm2 l Z a0 hw [] s_OTHER s_CR s_LF s_NEWLINE s_SINGLE_QUOTE s_FORMAT s_REGIONAL_INDICATOR s_ALETTER s_EXTEND_NUM_LET s_KATAKANA s_HEBREW_LETTER s_MID_NUM_LET s_WSEG_SPACE s_ZWJ s_DOUBLE_QUOTE s_EXTEND s_NUMERIC s_MID_LETTER s_MID_NUM s_VALUES k_VALUES HW s_EXTEND h0 n0 O0) hZ (hw _ (List.mem_of_getElem? (i := 12) rfl)) (hw _ (List.mem_of_getElem? (i := 3) rfl)) (by decide) (by decide)) q22a q22c (g := (mkF m 30 #[.val (.int p0), .val (.int (4 : Int32)), .val (.ref s_EXTEND), .val (.int (0 : Int32))] [(.ref s_EXTEND)])) rfl (by rw [hml]; rfl) (Steps.refl _) (argsL := []) (rest := []) (lenOf own_pd18 rfl) rfl (by show 2 * 0 + _ ≤ _; exact Nat.le_of_eq rfl) (hb hby at_30) (fun _ _ => ⟨rfl, e21, (by decide : 0 + 0 ≤ _), (by decide : 0 + 0 ≤ _)⟩)
    dsimp only [Pt.U, Pt.locs, Pt.cells, Pt.slots] at X22 l22 y22 z22 st22 hQ22
    subst l22 y22 z22
    obtain ⟨rfl, N22q, e22⟩ := hQ22
    have N22 := Fr.app N21 N22q
    refine Go.st (V' := T22.setTop (mkF m 33 #[.val (.int p0), .val (.int (4 : Int32)), .val (.ref s_EXTEND), .val (.int (0 : Int32))] [(.int (f2 s_CR s_LF s_NEWLINE s_EXTEND))])) (fun t k => st22.trans k) ?_
    have r23 : (f2 s_CR s_LF s_NEWLINE s_EXTEND) = (0 : Int32) := by rw [f2, if_neg (Fld.ne (F_EXTEND_ordinal.ext O0.2) (F_CR_ordinal.ext O0.2) (by decide)), if_neg (Fld.ne (F_EXTEND_ordinal.ext O0.2) (F_LF_ordinal.ext O0.2) (by decide)), if_neg (Fld.ne (F_EXTEND_ordinal.ext O0.2) (F_NEWLINE_ordinal.ext O0.2) (by decide))]
    rw [r23]
    refine Go.st (V' := T22.setTop (mkF m 42 #[.val (.int p0), .val (.int (4 : Int32)), .val (.ref s_EXTEND), .val (.int (0 : Int32))] [(.int (1 : Int32))])) (fun t k => ?_) ?_
    · refine XS.iloadN X22.here hx rfl (hb hby at_33) rfl  ?_
      show Steps p.tables e below (T22.setTop (mkF m 34 #[.val (.int p0), .val (.int (4 : Int32)), .val (.ref s_EXTEND), .val (.int (0 : Int32))] [(.int (0 : Int32)), (.int (0 : Int32))])) _
      refine XS.icmpNo X22.here hx rfl (hb hby at_34) rfl (teq (by decide : ((0 : Int32) = (0 : Int32)))).2 ?_
      show Steps p.tables e below (T22.setTop (mkF m 37 #[.val (.int p0), .val (.int (4 : Int32)), .val (.ref s_EXTEND), .val (.int (0 : Int32))] [])) _
      refine XS.iconst X22.here hx rfl (hb hby at_37) ?_
      show Steps p.tables e below (T22.setTop (mkF m 38 #[.val (.int p0), .val (.int (4 : Int32)), .val (.ref s_EXTEND), .val (.int (0 : Int32))] [(.int (1 : Int32))])) _
      refine XS.goto X22.here hx rfl (pc0 := 38) (pc' := 42) rfl (hb hby at_38) (by decide) (by decide) ?_
      show Steps p.tables e below (T22.setTop (mkF m 42 #[.val (.int p0), .val (.int (4 : Int32)), .val (.ref s_EXTEND), .val (.int (0 : Int32))] [(.int (1 : Int32))])) _
      exact k
    obtain ⟨fs, hr, hrun, hended, hW, hsame⟩ := X22.leave (v := some (.int (1 : Int32))) (fun h => by rw [Bd.returns] at h; cases h)
    refine Go.mk' ⟨_, _, retN X22 hx (t := .boolean) Bd.returns (by simp) (hb hby at_42) hr, hrun, hended, _, _, rfl, ?_, ⟨_, rfl⟩, hW, hsame.mono (by decide) (by decide)⟩
    show Q0 Z p0 h0 n0 _ T22.heap _
    rw [e22]
    exact ⟨rfl, N22⟩
  · show Go p e below _ (s₁.setTop (mkF m 8 #[.val (.int p0), .val (.int (5 : Int32)), .unset, .unset] []))
    refine Go.st (V' := s₁.setTop (mkF m 9 #[.val (.int p0), .val (.int (5 : Int32)), .unset, .unset] [(.int (5 : Int32))])) (fun t k => ?_) ?_
    · refine XS.iloadN X0.here hx rfl (hb hby at_8) rfl  ?_
      show Steps p.tables e below (s₁.setTop (mkF m 9 #[.val (.int p0), .val (.int (5 : Int32)), .unset, .unset] [(.int (5 : Int32))])) _
      exact k
    obtain ⟨_, _, ⟨T24, L24, k24, n24⟩, -, X24, ⟨Lc24, hQ24, l24, y24, z24⟩, st24⟩ := Jvm.LawKit.callS X0 hx (y := (⟨"com/example/hits_from_terms/hitsfromterms/analysis/WordBreak", "forOrdinal", "(I)Lcom/example/hits_from_terms/hitsfromterms/analysis/WordBreak;"⟩ : MethodName)) hown (mvT hZ (hw _ (List.mem_of_getElem? (i := 1) rfl))) (mvT hZ (hw _ (List.mem_of_getElem? (i := 2) rfl))) (mvT hZ (hw _ (List.mem_of_getElem? (i := 3) rfl))) (mvT hZ (hw _ (List.mem_of_getElem? (i := 4) rfl))) (by decide) (backOf (W := 0) (rm1 l Z a0 hw [] s_OTHER s_CR s_LF s_NEWLINE s_SINGLE_QUOTE s_FORMAT s_REGIONAL_INDICATOR s_ALETTER s_EXTEND_NUM_LET s_KATAKANA s_HEBREW_LETTER s_MID_NUM_LET s_WSEG_SPACE s_ZWJ s_DOUBLE_QUOTE s_EXTEND s_NUMERIC s_MID_LETTER s_MID_NUM s_VALUES k_VALUES HW (5 : Int32) s_FORMAT h0 n0 O0 ⟨by decide, by decide⟩ rfl) hZ (hw _ (List.mem_of_getElem? (i := 4) rfl)) (hw _ (List.mem_of_getElem? (i := 3) rfl)) (by decide) (by decide)) (g := (mkF m 9 #[.val (.int p0), .val (.int (5 : Int32)), .unset, .unset] [(.int (5 : Int32))])) rfl (by rw [hml]; rfl) (argsL := [(.int (5 : Int32))]) (rest := []) (lenOf own_pd17 rfl) rfl (by show 2 * 0 + _ ≤ _; exact Nat.le_of_eq rfl) (hb hby at_9) (fun _ _ => ⟨rfl, e0, (by decide : 0 + 0 ≤ _), (by decide : 0 + 0 ≤ _)⟩)
    dsimp only [Pt.U, Pt.locs, Pt.cells, Pt.slots] at X24 l24 y24 z24 st24 hQ24
    subst l24 y24 z24
    obtain ⟨rfl, N24q, e24⟩ := hQ24
    have N24 := Fr.app N0 N24q
    refine Go.st (V' := T24.setTop (mkF m 12 #[.val (.int p0), .val (.int (5 : Int32)), .unset, .unset] [(.ref s_FORMAT)])) (fun t k => st24 t k) ?_
    refine Go.st (V' := T24.setTop (mkF m 30 #[.val (.int p0), .val (.int (5 : Int32)), .val (.ref s_FORMAT), .val (.int (0 : Int32))] [(.ref s_FORMAT)])) (fun t k => ?_) ?_
    · refine XS.astoreN X24.here hx rfl (hb hby at_12) rfl rfl (l' := #[.val (.int p0), .val (.int (5 : Int32)), .val (.ref s_FORMAT), .unset]) rfl ?_
      show Steps p.tables e below (T24.setTop (mkF m 13 #[.val (.int p0), .val (.int (5 : Int32)), .val (.ref s_FORMAT), .unset] [])) _
      refine XS.iloadN X24.here hx rfl (hb hby at_13) rfl  ?_
      show Steps p.tables e below (T24.setTop (mkF m 14 #[.val (.int p0), .val (.int (5 : Int32)), .val (.ref s_FORMAT), .unset] [(.int (5 : Int32))])) _
      refine XS.iconst X24.here hx rfl (hb hby at_14) ?_
      show Steps p.tables e below (T24.setTop (mkF m 15 #[.val (.int p0), .val (.int (5 : Int32)), .val (.ref s_FORMAT), .unset] [(.int (1 : Int32)), (.int (5 : Int32))])) _
      refine XS.icmpNo X24.here hx rfl (hb hby at_15) rfl (flt (by decide : ¬ ((5 : Int32) < (1 : Int32)))).1 ?_
      show Steps p.tables e below (T24.setTop (mkF m 18 #[.val (.int p0), .val (.int (5 : Int32)), .val (.ref s_FORMAT), .unset] [])) _
      refine XS.iloadN X24.here hx rfl (hb hby at_18) rfl  ?_
      show Steps p.tables e below (T24.setTop (mkF m 19 #[.val (.int p0), .val (.int (5 : Int32)), .val (.ref s_FORMAT), .unset] [(.int (5 : Int32))])) _
      refine XS.iconst X24.here hx rfl (hb hby at_19) ?_
      show Steps p.tables e below (T24.setTop (mkF m 20 #[.val (.int p0), .val (.int (5 : Int32)), .val (.ref s_FORMAT), .unset] [(.int (3 : Int32)), (.int (5 : Int32))])) _
      refine XS.icmpYes X24.here hx rfl (pc0 := 20) (pc' := 27) rfl (hb hby at_20) rfl (tlt (by decide : ((3 : Int32) < (5 : Int32)))).2.2.1 (by decide) (by decide) ?_
      show Steps p.tables e below (T24.setTop (mkF m 27 #[.val (.int p0), .val (.int (5 : Int32)), .val (.ref s_FORMAT), .unset] [])) _
      refine XS.iconst X24.here hx rfl (hb hby at_27) ?_
      show Steps p.tables e below (T24.setTop (mkF m 28 #[.val (.int p0), .val (.int (5 : Int32)), .val (.ref s_FORMAT), .unset] [(.int (0 : Int32))])) _
      refine XS.istoreN X24.here hx rfl (hb hby at_28) rfl (l' := #[.val (.int p0), .val (.int (5 : Int32)), .val (.ref s_FORMAT), .val (.int (0 : Int32))]) rfl ?_
      show Steps p.tables e below (T24.setTop (mkF m 29 #[.val (.int p0), .val (.int (5 : Int32)), .val (.ref s_FORMAT), .val (.int (0 : Int32))] [])) _
      refine XS.aloadN X24.here hx rfl (hb hby at_29) rfl rfl ?_
      show Steps p.tables e below (T24.setTop (mkF m 30 #[.val (.int p0), .val (.int (5 : Int32)), .val (.ref s_FORMAT), .val (.int (0 : Int32))] [(.ref s_FORMAT)])) _
      exact k
    obtain ⟨cq25, kq25, q25a, q25b, q25c⟩ := isOf hZ e24 (E_FORMAT.ext O0.2)
    obtain ⟨_, _, ⟨T25, L25, k25, n25⟩, -, X25, ⟨Lc25, hQ25, l25, y25, z25⟩, st25⟩ := X24.virtualBack hx (y := (⟨"com/example/hits_from_terms/hitsfromterms/analysis/WordBreak", "isLineBreak", "()Z"⟩ : MethodName)) (z := (⟨"com/example/hits_from_terms/hitsfromterms/analysis/WordBreak", "isLineBreak", "()Z"⟩ : MethodName)) hown (mvT hZ (hw _ (List.mem_of_getElem? (i := 8) rfl))) (mvT hZ (hw _ (List.mem_of_getElem? (i := 9) rfl))) (notFace_of_selects (args := #[]) (mvT hZ (hw _ (List.mem_of_getElem? (i := 11) rfl)))) (mvT hZ (hw _ (List.mem_of_getElem? (i := 11) rfl))) (mvT hZ (hw _ (List.mem_of_getElem? (i := 10) rfl))) (by decide) (backOf (W := 0) (rm2 l Z a0 hw [] s_OTHER s_CR s_LF s_NEWLINE s_SINGLE_QUOTE s_FORMAT s_REGIONAL_INDICATOR s_ALETTER s_EXTEND_NUM_LET s_KATAKANA s_HEBREW_LETTER s_MID_NUM_LET s_WSEG_SPACE s_ZWJ s_DOUBLE_QUOTE s_EXTEND s_NUMERIC s_MID_LETTER s_MID_NUM s_VALUES k_VALUES HW s_FORMAT h0 n0 O0) hZ (hw _ (List.mem_of_getElem? (i := 12) rfl)) (hw _ (List.mem_of_getElem? (i := 3) rfl)) (by decide) (by decide)) q25a q25c (g := (mkF m 30 #[.val (.int p0), .val (.int (5 : Int32)), .val (.ref s_FORMAT), .val (.int (0 : Int32))] [(.ref s_FORMAT)])) rfl (by rw [hml]; rfl) (Steps.refl _) (argsL := []) (rest := []) (lenOf own_pd18 rfl) rfl (by show 2 * 0 + _ ≤ _; exact Nat.le_of_eq rfl) (hb hby at_30) (fun _ _ => ⟨rfl, e24, (by decide : 0 + 0 ≤ _), (by decide : 0 + 0 ≤ _)⟩)
    dsimp only [Pt.U, Pt.locs, Pt.cells, Pt.slots] at X25 l25 y25 z25 st25 hQ25
    subst l25 y25 z25
    obtain ⟨rfl, N25q, e25⟩ := hQ25
    have N25 := Fr.app N24 N25q
    refine Go.st (V' := T25.setTop (mkF m 33 #[.val (.int p0), .val (.int (5 : Int32)), .val (.ref s_FORMAT), .val (.int (0 : Int32))] [(.int (f2 s_CR s_LF s_NEWLINE s_FORMAT))])) (fun t k => st25.trans k) ?_
    have r26 : (f2 s_CR s_LF s_NEWLINE s_FORMAT) = (0 : Int32) := by rw [f2, if_neg (Fld.ne (F_FORMAT_ordinal.ext O0.2) (F_CR_ordinal.ext O0.2) (by decide)), if_neg (Fld.ne (F_FORMAT_ordinal.ext O0.2) (F_LF_ordinal.ext O0.2) (by decide)), if_neg (Fld.ne (F_FORMAT_ordinal.ext O0.2) (F_NEWLINE_ordinal.ext O0.2) (by decide))]
    rw [r26]
    refine Go.st (V' := T25.setTop (mkF m 42 #[.val (.int p0), .val (.int (5 : Int32)), .val (.ref s_FORMAT), .val (.int (0 : Int32))] [(.int (1 : Int32))])) (fun t k => ?_) ?_
    · refine XS.iloadN X25.here hx rfl (hb hby at_33) rfl  ?_
      show Steps p.tables e below (T25.setTop (mkF m 34 #[.val (.int p0), .val (.int (5 : Int32)), .val (.ref s_FORMAT), .val (.int (0 : Int32))] [(.int (0 : Int32)), (.int (0 : Int32))])) _
      refine XS.icmpNo X25.here hx rfl (hb hby at_34) rfl (teq (by decide : ((0 : Int32) = (0 : Int32)))).2 ?_
      show Steps p.tables e below (T25.setTop (mkF m 37 #[.val (.int p0), .val (.int (5 : Int32)), .val (.ref s_FORMAT), .val (.int (0 : Int32))] [])) _
      refine XS.iconst X25.here hx rfl (hb hby at_37) ?_
      show Steps p.tables e below (T25.setTop (mkF m 38 #[.val (.int p0), .val (.int (5 : Int32)), .val (.ref s_FORMAT), .val (.int (0 : Int32))] [(.int (1 : Int32))])) _
      refine XS.goto X25.here hx rfl (pc0 := 38) (pc' := 42) rfl (hb hby at_38) (by decide) (by decide) ?_
      show Steps p.tables e below (T25.setTop (mkF m 42 #[.val (.int p0), .val (.int (5 : Int32)), .val (.ref s_FORMAT), .val (.int (0 : Int32))] [(.int (1 : Int32))])) _
      exact k
    obtain ⟨fs, hr, hrun, hended, hW, hsame⟩ := X25.leave (v := some (.int (1 : Int32))) (fun h => by rw [Bd.returns] at h; cases h)
    refine Go.mk' ⟨_, _, retN X25 hx (t := .boolean) Bd.returns (by simp) (hb hby at_42) hr, hrun, hended, _, _, rfl, ?_, ⟨_, rfl⟩, hW, hsame.mono (by decide) (by decide)⟩
    show Q0 Z p0 h0 n0 _ T25.heap _
    rw [e25]
    exact ⟨rfl, N25⟩
  · show Go p e below _ (s₁.setTop (mkF m 8 #[.val (.int p0), .val (.int (6 : Int32)), .unset, .unset] []))
    refine Go.st (V' := s₁.setTop (mkF m 9 #[.val (.int p0), .val (.int (6 : Int32)), .unset, .unset] [(.int (6 : Int32))])) (fun t k => ?_) ?_
    · refine XS.iloadN X0.here hx rfl (hb hby at_8) rfl  ?_
      show Steps p.tables e below (s₁.setTop (mkF m 9 #[.val (.int p0), .val (.int (6 : Int32)), .unset, .unset] [(.int (6 : Int32))])) _
      exact k
    obtain ⟨_, _, ⟨T27, L27, k27, n27⟩, -, X27, ⟨Lc27, hQ27, l27, y27, z27⟩, st27⟩ := Jvm.LawKit.callS X0 hx (y := (⟨"com/example/hits_from_terms/hitsfromterms/analysis/WordBreak", "forOrdinal", "(I)Lcom/example/hits_from_terms/hitsfromterms/analysis/WordBreak;"⟩ : MethodName)) hown (mvT hZ (hw _ (List.mem_of_getElem? (i := 1) rfl))) (mvT hZ (hw _ (List.mem_of_getElem? (i := 2) rfl))) (mvT hZ (hw _ (List.mem_of_getElem? (i := 3) rfl))) (mvT hZ (hw _ (List.mem_of_getElem? (i := 4) rfl))) (by decide) (backOf (W := 0) (rm1 l Z a0 hw [] s_OTHER s_CR s_LF s_NEWLINE s_SINGLE_QUOTE s_FORMAT s_REGIONAL_INDICATOR s_ALETTER s_EXTEND_NUM_LET s_KATAKANA s_HEBREW_LETTER s_MID_NUM_LET s_WSEG_SPACE s_ZWJ s_DOUBLE_QUOTE s_EXTEND s_NUMERIC s_MID_LETTER s_MID_NUM s_VALUES k_VALUES HW (6 : Int32) s_ZWJ h0 n0 O0 ⟨by decide, by decide⟩ rfl) hZ (hw _ (List.mem_of_getElem? (i := 4) rfl)) (hw _ (List.mem_of_getElem? (i := 3) rfl)) (by decide) (by decide)) (g := (mkF m 9 #[.val (.int p0), .val (.int (6 : Int32)), .unset, .unset] [(.int (6 : Int32))])) rfl (by rw [hml]; rfl) (argsL := [(.int (6 : Int32))]) (rest := []) (lenOf own_pd17 rfl) rfl (by show 2 * 0 + _ ≤ _; exact Nat.le_of_eq rfl) (hb hby at_9) (fun _ _ => ⟨rfl, e0, (by decide : 0 + 0 ≤ _), (by decide : 0 + 0 ≤ _)⟩)
    dsimp only [Pt.U, Pt.locs, Pt.cells, Pt.slots] at X27 l27 y27 z27 st27 hQ27
    subst l27 y27 z27
    obtain ⟨rfl, N27q, e27⟩ := hQ27
    have N27 := Fr.app N0 N27q
    refine Go.st (V' := T27.setTop (mkF m 12 #[.val (.int p0), .val (.int (6 : Int32)), .unset, .unset] [(.ref s_ZWJ)])) (fun t k => st27 t k) ?_
    refine Go.st (V' := T27.setTop (mkF m 30 #[.val (.int p0), .val (.int (6 : Int32)), .val (.ref s_ZWJ), .val (.int (0 : Int32))] [(.ref s_ZWJ)])) (fun t k => ?_) ?_
    · refine XS.astoreN X27.here hx rfl (hb hby at_12) rfl rfl (l' := #[.val (.int p0), .val (.int (6 : Int32)), .val (.ref s_ZWJ), .unset]) rfl ?_
      show Steps p.tables e below (T27.setTop (mkF m 13 #[.val (.int p0), .val (.int (6 : Int32)), .val (.ref s_ZWJ), .unset] [])) _
      refine XS.iloadN X27.here hx rfl (hb hby at_13) rfl  ?_
      show Steps p.tables e below (T27.setTop (mkF m 14 #[.val (.int p0), .val (.int (6 : Int32)), .val (.ref s_ZWJ), .unset] [(.int (6 : Int32))])) _
      refine XS.iconst X27.here hx rfl (hb hby at_14) ?_
      show Steps p.tables e below (T27.setTop (mkF m 15 #[.val (.int p0), .val (.int (6 : Int32)), .val (.ref s_ZWJ), .unset] [(.int (1 : Int32)), (.int (6 : Int32))])) _
      refine XS.icmpNo X27.here hx rfl (hb hby at_15) rfl (flt (by decide : ¬ ((6 : Int32) < (1 : Int32)))).1 ?_
      show Steps p.tables e below (T27.setTop (mkF m 18 #[.val (.int p0), .val (.int (6 : Int32)), .val (.ref s_ZWJ), .unset] [])) _
      refine XS.iloadN X27.here hx rfl (hb hby at_18) rfl  ?_
      show Steps p.tables e below (T27.setTop (mkF m 19 #[.val (.int p0), .val (.int (6 : Int32)), .val (.ref s_ZWJ), .unset] [(.int (6 : Int32))])) _
      refine XS.iconst X27.here hx rfl (hb hby at_19) ?_
      show Steps p.tables e below (T27.setTop (mkF m 20 #[.val (.int p0), .val (.int (6 : Int32)), .val (.ref s_ZWJ), .unset] [(.int (3 : Int32)), (.int (6 : Int32))])) _
      refine XS.icmpYes X27.here hx rfl (pc0 := 20) (pc' := 27) rfl (hb hby at_20) rfl (tlt (by decide : ((3 : Int32) < (6 : Int32)))).2.2.1 (by decide) (by decide) ?_
      show Steps p.tables e below (T27.setTop (mkF m 27 #[.val (.int p0), .val (.int (6 : Int32)), .val (.ref s_ZWJ), .unset] [])) _
      refine XS.iconst X27.here hx rfl (hb hby at_27) ?_
      show Steps p.tables e below (T27.setTop (mkF m 28 #[.val (.int p0), .val (.int (6 : Int32)), .val (.ref s_ZWJ), .unset] [(.int (0 : Int32))])) _
      refine XS.istoreN X27.here hx rfl (hb hby at_28) rfl (l' := #[.val (.int p0), .val (.int (6 : Int32)), .val (.ref s_ZWJ), .val (.int (0 : Int32))]) rfl ?_
      show Steps p.tables e below (T27.setTop (mkF m 29 #[.val (.int p0), .val (.int (6 : Int32)), .val (.ref s_ZWJ), .val (.int (0 : Int32))] [])) _
      refine XS.aloadN X27.here hx rfl (hb hby at_29) rfl rfl ?_
      show Steps p.tables e below (T27.setTop (mkF m 30 #[.val (.int p0), .val (.int (6 : Int32)), .val (.ref s_ZWJ), .val (.int (0 : Int32))] [(.ref s_ZWJ)])) _
      exact k
    obtain ⟨cq28, kq28, q28a, q28b, q28c⟩ := isOf hZ e27 (E_ZWJ.ext O0.2)
    obtain ⟨_, _, ⟨T28, L28, k28, n28⟩, -, X28, ⟨Lc28, hQ28, l28, y28, z28⟩, st28⟩ := X27.virtualBack hx (y := (⟨"com/example/hits_from_terms/hitsfromterms/analysis/WordBreak", "isLineBreak", "()Z"⟩ : MethodName)) (z := (⟨"com/example/hits_from_terms/hitsfromterms/analysis/WordBreak", "isLineBreak", "()Z"⟩ : MethodName)) hown (mvT hZ (hw _ (List.mem_of_getElem? (i := 8) rfl))) (mvT hZ (hw _ (List.mem_of_getElem? (i := 9) rfl))) (notFace_of_selects (args := #[]) (mvT hZ (hw _ (List.mem_of_getElem? (i := 11) rfl)))) (mvT hZ (hw _ (List.mem_of_getElem? (i := 11) rfl))) (mvT hZ (hw _ (List.mem_of_getElem? (i := 10) rfl))) (by decide) (backOf (W := 0) (rm2 l Z a0 hw [] s_OTHER s_CR s_LF s_NEWLINE s_SINGLE_QUOTE s_FORMAT s_REGIONAL_INDICATOR s_ALETTER s_EXTEND_NUM_LET s_KATAKANA s_HEBREW_LETTER s_MID_NUM_LET s_WSEG_SPACE s_ZWJ s_DOUBLE_QUOTE s_EXTEND s_NUMERIC s_MID_LETTER s_MID_NUM s_VALUES k_VALUES HW s_ZWJ h0 n0 O0) hZ (hw _ (List.mem_of_getElem? (i := 12) rfl)) (hw _ (List.mem_of_getElem? (i := 3) rfl)) (by decide) (by decide)) q28a q28c (g := (mkF m 30 #[.val (.int p0), .val (.int (6 : Int32)), .val (.ref s_ZWJ), .val (.int (0 : Int32))] [(.ref s_ZWJ)])) rfl (by rw [hml]; rfl) (Steps.refl _) (argsL := []) (rest := []) (lenOf own_pd18 rfl) rfl (by show 2 * 0 + _ ≤ _; exact Nat.le_of_eq rfl) (hb hby at_30) (fun _ _ => ⟨rfl, e27, (by decide : 0 + 0 ≤ _), (by decide : 0 + 0 ≤ _)⟩)
    dsimp only [Pt.U, Pt.locs, Pt.cells, Pt.slots] at X28 l28 y28 z28 st28 hQ28
    subst l28 y28 z28
    obtain ⟨rfl, N28q, e28⟩ := hQ28
    have N28 := Fr.app N27 N28q
    refine Go.st (V' := T28.setTop (mkF m 33 #[.val (.int p0), .val (.int (6 : Int32)), .val (.ref s_ZWJ), .val (.int (0 : Int32))] [(.int (f2 s_CR s_LF s_NEWLINE s_ZWJ))])) (fun t k => st28.trans k) ?_
    have r29 : (f2 s_CR s_LF s_NEWLINE s_ZWJ) = (0 : Int32) := by rw [f2, if_neg (Fld.ne (F_ZWJ_ordinal.ext O0.2) (F_CR_ordinal.ext O0.2) (by decide)), if_neg (Fld.ne (F_ZWJ_ordinal.ext O0.2) (F_LF_ordinal.ext O0.2) (by decide)), if_neg (Fld.ne (F_ZWJ_ordinal.ext O0.2) (F_NEWLINE_ordinal.ext O0.2) (by decide))]
    rw [r29]
    refine Go.st (V' := T28.setTop (mkF m 42 #[.val (.int p0), .val (.int (6 : Int32)), .val (.ref s_ZWJ), .val (.int (0 : Int32))] [(.int (1 : Int32))])) (fun t k => ?_) ?_
    · refine XS.iloadN X28.here hx rfl (hb hby at_33) rfl  ?_
      show Steps p.tables e below (T28.setTop (mkF m 34 #[.val (.int p0), .val (.int (6 : Int32)), .val (.ref s_ZWJ), .val (.int (0 : Int32))] [(.int (0 : Int32)), (.int (0 : Int32))])) _
      refine XS.icmpNo X28.here hx rfl (hb hby at_34) rfl (teq (by decide : ((0 : Int32) = (0 : Int32)))).2 ?_
      show Steps p.tables e below (T28.setTop (mkF m 37 #[.val (.int p0), .val (.int (6 : Int32)), .val (.ref s_ZWJ), .val (.int (0 : Int32))] [])) _
      refine XS.iconst X28.here hx rfl (hb hby at_37) ?_
      show Steps p.tables e below (T28.setTop (mkF m 38 #[.val (.int p0), .val (.int (6 : Int32)), .val (.ref s_ZWJ), .val (.int (0 : Int32))] [(.int (1 : Int32))])) _
      refine XS.goto X28.here hx rfl (pc0 := 38) (pc' := 42) rfl (hb hby at_38) (by decide) (by decide) ?_
      show Steps p.tables e below (T28.setTop (mkF m 42 #[.val (.int p0), .val (.int (6 : Int32)), .val (.ref s_ZWJ), .val (.int (0 : Int32))] [(.int (1 : Int32))])) _
      exact k
    obtain ⟨fs, hr, hrun, hended, hW, hsame⟩ := X28.leave (v := some (.int (1 : Int32))) (fun h => by rw [Bd.returns] at h; cases h)
    refine Go.mk' ⟨_, _, retN X28 hx (t := .boolean) Bd.returns (by simp) (hb hby at_42) hr, hrun, hended, _, _, rfl, ?_, ⟨_, rfl⟩, hW, hsame.mono (by decide) (by decide)⟩
    show Q0 Z p0 h0 n0 _ T28.heap _
    rw [e28]
    exact ⟨rfl, N28⟩
  · show Go p e below _ (s₁.setTop (mkF m 8 #[.val (.int p0), .val (.int (7 : Int32)), .unset, .unset] []))
    refine Go.st (V' := s₁.setTop (mkF m 9 #[.val (.int p0), .val (.int (7 : Int32)), .unset, .unset] [(.int (7 : Int32))])) (fun t k => ?_) ?_
    · refine XS.iloadN X0.here hx rfl (hb hby at_8) rfl  ?_
      show Steps p.tables e below (s₁.setTop (mkF m 9 #[.val (.int p0), .val (.int (7 : Int32)), .unset, .unset] [(.int (7 : Int32))])) _
      exact k
    obtain ⟨_, _, ⟨T30, L30, k30, n30⟩, -, X30, ⟨Lc30, hQ30, l30, y30, z30⟩, st30⟩ := Jvm.LawKit.callS X0 hx (y := (⟨"com/example/hits_from_terms/hitsfromterms/analysis/WordBreak", "forOrdinal", "(I)Lcom/example/hits_from_terms/hitsfromterms/analysis/WordBreak;"⟩ : MethodName)) hown (mvT hZ (hw _ (List.mem_of_getElem? (i := 1) rfl))) (mvT hZ (hw _ (List.mem_of_getElem? (i := 2) rfl))) (mvT hZ (hw _ (List.mem_of_getElem? (i := 3) rfl))) (mvT hZ (hw _ (List.mem_of_getElem? (i := 4) rfl))) (by decide) (backOf (W := 0) (rm1 l Z a0 hw [] s_OTHER s_CR s_LF s_NEWLINE s_SINGLE_QUOTE s_FORMAT s_REGIONAL_INDICATOR s_ALETTER s_EXTEND_NUM_LET s_KATAKANA s_HEBREW_LETTER s_MID_NUM_LET s_WSEG_SPACE s_ZWJ s_DOUBLE_QUOTE s_EXTEND s_NUMERIC s_MID_LETTER s_MID_NUM s_VALUES k_VALUES HW (7 : Int32) s_ALETTER h0 n0 O0 ⟨by decide, by decide⟩ rfl) hZ (hw _ (List.mem_of_getElem? (i := 4) rfl)) (hw _ (List.mem_of_getElem? (i := 3) rfl)) (by decide) (by decide)) (g := (mkF m 9 #[.val (.int p0), .val (.int (7 : Int32)), .unset, .unset] [(.int (7 : Int32))])) rfl (by rw [hml]; rfl) (argsL := [(.int (7 : Int32))]) (rest := []) (lenOf own_pd17 rfl) rfl (by show 2 * 0 + _ ≤ _; exact Nat.le_of_eq rfl) (hb hby at_9) (fun _ _ => ⟨rfl, e0, (by decide : 0 + 0 ≤ _), (by decide : 0 + 0 ≤ _)⟩)
    dsimp only [Pt.U, Pt.locs, Pt.cells, Pt.slots] at X30 l30 y30 z30 st30 hQ30
    subst l30 y30 z30
    obtain ⟨rfl, N30q, e30⟩ := hQ30
    have N30 := Fr.app N0 N30q
    refine Go.st (V' := T30.setTop (mkF m 12 #[.val (.int p0), .val (.int (7 : Int32)), .unset, .unset] [(.ref s_ALETTER)])) (fun t k => st30 t k) ?_
    refine Go.st (V' := T30.setTop (mkF m 30 #[.val (.int p0), .val (.int (7 : Int32)), .val (.ref s_ALETTER), .val (.int (0 : Int32))] [(.ref s_ALETTER)])) (fun t k => ?_) ?_
    · refine XS.astoreN X30.here hx rfl (hb hby at_12) rfl rfl (l' := #[.val (.int p0), .val (.int (7 : Int32)), .val (.ref s_ALETTER), .unset]) rfl ?_
      show Steps p.tables e below (T30.setTop (mkF m 13 #[.val (.int p0), .val (.int (7 : Int32)), .val (.ref s_ALETTER), .unset] [])) _
      refine XS.iloadN X30.here hx rfl (hb hby at_13) rfl  ?_
      show Steps p.tables e below (T30.setTop (mkF m 14 #[.val (.int p0), .val (.int (7 : Int32)), .val (.ref s_ALETTER), .unset] [(.int (7 : Int32))])) _
      refine XS.iconst X30.here hx rfl (hb hby at_14) ?_
      show Steps p.tables e below (T30.setTop (mkF m 15 #[.val (.int p0), .val (.int (7 : Int32)), .val (.ref s_ALETTER), .unset] [(.int (1 : Int32)), (.int (7 : Int32))])) _
      refine XS.icmpNo X30.here hx rfl (hb hby at_15) rfl (flt (by decide : ¬ ((7 : Int32) < (1 : Int32)))).1 ?_
      show Steps p.tables e below (T30.setTop (mkF m 18 #[.val (.int p0), .val (.int (7 : Int32)), .val (.ref s_ALETTER), .unset] [])) _
      refine XS.iloadN X30.here hx rfl (hb hby at_18) rfl  ?_
      show Steps p.tables e below (T30.setTop (mkF m 19 #[.val (.int p0), .val (.int (7 : Int32)), .val (.ref s_ALETTER), .unset] [(.int (7 : Int32))])) _
      refine XS.iconst X30.here hx rfl (hb hby at_19) ?_
      show Steps p.tables e below (T30.setTop (mkF m 20 #[.val (.int p0), .val (.int (7 : Int32)), .val (.ref s_ALETTER), .unset] [(.int (3 : Int32)), (.int (7 : Int32))])) _
      refine XS.icmpYes X30.here hx rfl (pc0 := 20) (pc' := 27) rfl (hb hby at_20) rfl (tlt (by decide : ((3 : Int32) < (7 : Int32)))).2.2.1 (by decide) (by decide) ?_
      show Steps p.tables e below (T30.setTop (mkF m 27 #[.val (.int p0), .val (.int (7 : Int32)), .val (.ref s_ALETTER), .unset] [])) _
      refine XS.iconst X30.here hx rfl (hb hby at_27) ?_
      show Steps p.tables e below (T30.setTop (mkF m 28 #[.val (.int p0), .val (.int (7 : Int32)), .val (.ref s_ALETTER), .unset] [(.int (0 : Int32))])) _
      refine XS.istoreN X30.here hx rfl (hb hby at_28) rfl (l' := #[.val (.int p0), .val (.int (7 : Int32)), .val (.ref s_ALETTER), .val (.int (0 : Int32))]) rfl ?_
      show Steps p.tables e below (T30.setTop (mkF m 29 #[.val (.int p0), .val (.int (7 : Int32)), .val (.ref s_ALETTER), .val (.int (0 : Int32))] [])) _
      refine XS.aloadN X30.here hx rfl (hb hby at_29) rfl rfl ?_
      show Steps p.tables e below (T30.setTop (mkF m 30 #[.val (.int p0), .val (.int (7 : Int32)), .val (.ref s_ALETTER), .val (.int (0 : Int32))] [(.ref s_ALETTER)])) _
      exact k
    obtain ⟨cq31, kq31, q31a, q31b, q31c⟩ := isOf hZ e30 (E_ALETTER.ext O0.2)
    obtain ⟨_, _, ⟨T31, L31, k31, n31⟩, -, X31, ⟨Lc31, hQ31, l31, y31, z31⟩, st31⟩ := X30.virtualBack hx (y := (⟨"com/example/hits_from_terms/hitsfromterms/analysis/WordBreak", "isLineBreak", "()Z"⟩ : MethodName)) (z := (⟨"com/example/hits_from_terms/hitsfromterms/analysis/WordBreak", "isLineBreak", "()Z"⟩ : MethodName)) hown (mvT hZ (hw _ (List.mem_of_getElem? (i := 8) rfl))) (mvT hZ (hw _ (List.mem_of_getElem? (i := 9) rfl))) (notFace_of_selects (args := #[]) (mvT hZ (hw _ (List.mem_of_getElem? (i := 11) rfl)))) (mvT hZ (hw _ (List.mem_of_getElem? (i := 11) rfl))) (mvT hZ (hw _ (List.mem_of_getElem? (i := 10) rfl))) (by decide) (backOf (W := 0) (rm2 l Z a0 hw [] s_OTHER s_CR s_LF s_NEWLINE s_SINGLE_QUOTE s_FORMAT s_REGIONAL_INDICATOR s_ALETTER s_EXTEND_NUM_LET s_KATAKANA s_HEBREW_LETTER s_MID_NUM_LET s_WSEG_SPACE s_ZWJ s_DOUBLE_QUOTE s_EXTEND s_NUMERIC s_MID_LETTER s_MID_NUM s_VALUES k_VALUES HW s_ALETTER h0 n0 O0) hZ (hw _ (List.mem_of_getElem? (i := 12) rfl)) (hw _ (List.mem_of_getElem? (i := 3) rfl)) (by decide) (by decide)) q31a q31c (g := (mkF m 30 #[.val (.int p0), .val (.int (7 : Int32)), .val (.ref s_ALETTER), .val (.int (0 : Int32))] [(.ref s_ALETTER)])) rfl (by rw [hml]; rfl) (Steps.refl _) (argsL := []) (rest := []) (lenOf own_pd18 rfl) rfl (by show 2 * 0 + _ ≤ _; exact Nat.le_of_eq rfl) (hb hby at_30) (fun _ _ => ⟨rfl, e30, (by decide : 0 + 0 ≤ _), (by decide : 0 + 0 ≤ _)⟩)
    dsimp only [Pt.U, Pt.locs, Pt.cells, Pt.slots] at X31 l31 y31 z31 st31 hQ31
    subst l31 y31 z31
    obtain ⟨rfl, N31q, e31⟩ := hQ31
    have N31 := Fr.app N30 N31q
    refine Go.st (V' := T31.setTop (mkF m 33 #[.val (.int p0), .val (.int (7 : Int32)), .val (.ref s_ALETTER), .val (.int (0 : Int32))] [(.int (f2 s_CR s_LF s_NEWLINE s_ALETTER))])) (fun t k => st31.trans k) ?_
    have r32 : (f2 s_CR s_LF s_NEWLINE s_ALETTER) = (0 : Int32) := by rw [f2, if_neg (Fld.ne (F_ALETTER_ordinal.ext O0.2) (F_CR_ordinal.ext O0.2) (by decide)), if_neg (Fld.ne (F_ALETTER_ordinal.ext O0.2) (F_LF_ordinal.ext O0.2) (by decide)), if_neg (Fld.ne (F_ALETTER_ordinal.ext O0.2) (F_NEWLINE_ordinal.ext O0.2) (by decide))]
    rw [r32]
    refine Go.st (V' := T31.setTop (mkF m 42 #[.val (.int p0), .val (.int (7 : Int32)), .val (.ref s_ALETTER), .val (.int (0 : Int32))] [(.int (1 : Int32))])) (fun t k => ?_) ?_
    · refine XS.iloadN X31.here hx rfl (hb hby at_33) rfl  ?_
      show Steps p.tables e below (T31.setTop (mkF m 34 #[.val (.int p0), .val (.int (7 : Int32)), .val (.ref s_ALETTER), .val (.int (0 : Int32))] [(.int (0 : Int32)), (.int (0 : Int32))])) _
      refine XS.icmpNo X31.here hx rfl (hb hby at_34) rfl (teq (by decide : ((0 : Int32) = (0 : Int32)))).2 ?_
      show Steps p.tables e below (T31.setTop (mkF m 37 #[.val (.int p0), .val (.int (7 : Int32)), .val (.ref s_ALETTER), .val (.int (0 : Int32))] [])) _
      refine XS.iconst X31.here hx rfl (hb hby at_37) ?_
      show Steps p.tables e below (T31.setTop (mkF m 38 #[.val (.int p0), .val (.int (7 : Int32)), .val (.ref s_ALETTER), .val (.int (0 : Int32))] [(.int (1 : Int32))])) _
      refine XS.goto X31.here hx rfl (pc0 := 38) (pc' := 42) rfl (hb hby at_38) (by decide) (by decide) ?_
      show Steps p.tables e below (T31.setTop (mkF m 42 #[.val (.int p0), .val (.int (7 : Int32)), .val (.ref s_ALETTER), .val (.int (0 : Int32))] [(.int (1 : Int32))])) _
      exact k
    obtain ⟨fs, hr, hrun, hended, hW, hsame⟩ := X31.leave (v := some (.int (1 : Int32))) (fun h => by rw [Bd.returns] at h; cases h)
    refine Go.mk' ⟨_, _, retN X31 hx (t := .boolean) Bd.returns (by simp) (hb hby at_42) hr, hrun, hended, _, _, rfl, ?_, ⟨_, rfl⟩, hW, hsame.mono (by decide) (by decide)⟩
    show Q0 Z p0 h0 n0 _ T31.heap _
    rw [e31]
    exact ⟨rfl, N31⟩
  · show Go p e below _ (s₁.setTop (mkF m 8 #[.val (.int p0), .val (.int (8 : Int32)), .unset, .unset] []))
    refine Go.st (V' := s₁.setTop (mkF m 9 #[.val (.int p0), .val (.int (8 : Int32)), .unset, .unset] [(.int (8 : Int32))])) (fun t k => ?_) ?_
    · refine XS.iloadN X0.here hx rfl (hb hby at_8) rfl  ?_
      show Steps p.tables e below (s₁.setTop (mkF m 9 #[.val (.int p0), .val (.int (8 : Int32)), .unset, .unset] [(.int (8 : Int32))])) _
      exact k
    obtain ⟨_, _, ⟨T33, L33, k33, n33⟩, -, X33, ⟨Lc33, hQ33, l33, y33, z33⟩, st33⟩ := Jvm.LawKit.callS X0 hx (y := (⟨"com/example/hits_from_terms/hitsfromterms/analysis/WordBreak", "forOrdinal", "(I)Lcom/example/hits_from_terms/hitsfromterms/analysis/WordBreak;"⟩ : MethodName)) hown (mvT hZ (hw _ (List.mem_of_getElem? (i := 1) rfl))) (mvT hZ (hw _ (List.mem_of_getElem? (i := 2) rfl))) (mvT hZ (hw _ (List.mem_of_getElem? (i := 3) rfl))) (mvT hZ (hw _ (List.mem_of_getElem? (i := 4) rfl))) (by decide) (backOf (W := 0) (rm1 l Z a0 hw [] s_OTHER s_CR s_LF s_NEWLINE s_SINGLE_QUOTE s_FORMAT s_REGIONAL_INDICATOR s_ALETTER s_EXTEND_NUM_LET s_KATAKANA s_HEBREW_LETTER s_MID_NUM_LET s_WSEG_SPACE s_ZWJ s_DOUBLE_QUOTE s_EXTEND s_NUMERIC s_MID_LETTER s_MID_NUM s_VALUES k_VALUES HW (8 : Int32) s_HEBREW_LETTER h0 n0 O0 ⟨by decide, by decide⟩ rfl) hZ (hw _ (List.mem_of_getElem? (i := 4) rfl)) (hw _ (List.mem_of_getElem? (i := 3) rfl)) (by decide) (by decide)) (g := (mkF m 9 #[.val (.int p0), .val (.int (8 : Int32)), .unset, .unset] [(.int (8 : Int32))])) rfl (by rw [hml]; rfl) (argsL := [(.int (8 : Int32))]) (rest := []) (lenOf own_pd17 rfl) rfl (by show 2 * 0 + _ ≤ _; exact Nat.le_of_eq rfl) (hb hby at_9) (fun _ _ => ⟨rfl, e0, (by decide : 0 + 0 ≤ _), (by decide : 0 + 0 ≤ _)⟩)
    dsimp only [Pt.U, Pt.locs, Pt.cells, Pt.slots] at X33 l33 y33 z33 st33 hQ33
    subst l33 y33 z33
    obtain ⟨rfl, N33q, e33⟩ := hQ33
    have N33 := Fr.app N0 N33q
    refine Go.st (V' := T33.setTop (mkF m 12 #[.val (.int p0), .val (.int (8 : Int32)), .unset, .unset] [(.ref s_HEBREW_LETTER)])) (fun t k => st33 t k) ?_
    refine Go.st (V' := T33.setTop (mkF m 30 #[.val (.int p0), .val (.int (8 : Int32)), .val (.ref s_HEBREW_LETTER), .val (.int (0 : Int32))] [(.ref s_HEBREW_LETTER)])) (fun t k => ?_) ?_
    · refine XS.astoreN X33.here hx rfl (hb hby at_12) rfl rfl (l' := #[.val (.int p0), .val (.int (8 : Int32)), .val (.ref s_HEBREW_LETTER), .unset]) rfl ?_
      show Steps p.tables e below (T33.setTop (mkF m 13 #[.val (.int p0), .val (.int (8 : Int32)), .val (.ref s_HEBREW_LETTER), .unset] [])) _
      refine XS.iloadN X33.here hx rfl (hb hby at_13) rfl  ?_
      show Steps p.tables e below (T33.setTop (mkF m 14 #[.val (.int p0), .val (.int (8 : Int32)), .val (.ref s_HEBREW_LETTER), .unset] [(.int (8 : Int32))])) _
      refine XS.iconst X33.here hx rfl (hb hby at_14) ?_
      show Steps p.tables e below (T33.setTop (mkF m 15 #[.val (.int p0), .val (.int (8 : Int32)), .val (.ref s_HEBREW_LETTER), .unset] [(.int (1 : Int32)), (.int (8 : Int32))])) _
      refine XS.icmpNo X33.here hx rfl (hb hby at_15) rfl (flt (by decide : ¬ ((8 : Int32) < (1 : Int32)))).1 ?_
      show Steps p.tables e below (T33.setTop (mkF m 18 #[.val (.int p0), .val (.int (8 : Int32)), .val (.ref s_HEBREW_LETTER), .unset] [])) _
      refine XS.iloadN X33.here hx rfl (hb hby at_18) rfl  ?_
      show Steps p.tables e below (T33.setTop (mkF m 19 #[.val (.int p0), .val (.int (8 : Int32)), .val (.ref s_HEBREW_LETTER), .unset] [(.int (8 : Int32))])) _
      refine XS.iconst X33.here hx rfl (hb hby at_19) ?_
      show Steps p.tables e below (T33.setTop (mkF m 20 #[.val (.int p0), .val (.int (8 : Int32)), .val (.ref s_HEBREW_LETTER), .unset] [(.int (3 : Int32)), (.int (8 : Int32))])) _
      refine XS.icmpYes X33.here hx rfl (pc0 := 20) (pc' := 27) rfl (hb hby at_20) rfl (tlt (by decide : ((3 : Int32) < (8 : Int32)))).2.2.1 (by decide) (by decide) ?_
      show Steps p.tables e below (T33.setTop (mkF m 27 #[.val (.int p0), .val (.int (8 : Int32)), .val (.ref s_HEBREW_LETTER), .unset] [])) _
      refine XS.iconst X33.here hx rfl (hb hby at_27) ?_
      show Steps p.tables e below (T33.setTop (mkF m 28 #[.val (.int p0), .val (.int (8 : Int32)), .val (.ref s_HEBREW_LETTER), .unset] [(.int (0 : Int32))])) _
      refine XS.istoreN X33.here hx rfl (hb hby at_28) rfl (l' := #[.val (.int p0), .val (.int (8 : Int32)), .val (.ref s_HEBREW_LETTER), .val (.int (0 : Int32))]) rfl ?_
      show Steps p.tables e below (T33.setTop (mkF m 29 #[.val (.int p0), .val (.int (8 : Int32)), .val (.ref s_HEBREW_LETTER), .val (.int (0 : Int32))] [])) _
      refine XS.aloadN X33.here hx rfl (hb hby at_29) rfl rfl ?_
      show Steps p.tables e below (T33.setTop (mkF m 30 #[.val (.int p0), .val (.int (8 : Int32)), .val (.ref s_HEBREW_LETTER), .val (.int (0 : Int32))] [(.ref s_HEBREW_LETTER)])) _
      exact k
    obtain ⟨cq34, kq34, q34a, q34b, q34c⟩ := isOf hZ e33 (E_HEBREW_LETTER.ext O0.2)
    obtain ⟨_, _, ⟨T34, L34, k34, n34⟩, -, X34, ⟨Lc34, hQ34, l34, y34, z34⟩, st34⟩ := X33.virtualBack hx (y := (⟨"com/example/hits_from_terms/hitsfromterms/analysis/WordBreak", "isLineBreak", "()Z"⟩ : MethodName)) (z := (⟨"com/example/hits_from_terms/hitsfromterms/analysis/WordBreak", "isLineBreak", "()Z"⟩ : MethodName)) hown (mvT hZ (hw _ (List.mem_of_getElem? (i := 8) rfl))) (mvT hZ (hw _ (List.mem_of_getElem? (i := 9) rfl))) (notFace_of_selects (args := #[]) (mvT hZ (hw _ (List.mem_of_getElem? (i := 11) rfl)))) (mvT hZ (hw _ (List.mem_of_getElem? (i := 11) rfl))) (mvT hZ (hw _ (List.mem_of_getElem? (i := 10) rfl))) (by decide) (backOf (W := 0) (rm2 l Z a0 hw [] s_OTHER s_CR s_LF s_NEWLINE s_SINGLE_QUOTE s_FORMAT s_REGIONAL_INDICATOR s_ALETTER s_EXTEND_NUM_LET s_KATAKANA s_HEBREW_LETTER s_MID_NUM_LET s_WSEG_SPACE s_ZWJ s_DOUBLE_QUOTE s_EXTEND s_NUMERIC s_MID_LETTER s_MID_NUM s_VALUES k_VALUES HW s_HEBREW_LETTER h0 n0 O0) hZ (hw _ (List.mem_of_getElem? (i := 12) rfl)) (hw _ (List.mem_of_getElem? (i := 3) rfl)) (by decide) (by decide)) q34a q34c (g := (mkF m 30 #[.val (.int p0), .val (.int (8 : Int32)), .val (.ref s_HEBREW_LETTER), .val (.int (0 : Int32))] [(.ref s_HEBREW_LETTER)])) rfl (by rw [hml]; rfl) (Steps.refl _) (argsL := []) (rest := []) (lenOf own_pd18 rfl) rfl (by show 2 * 0 + _ ≤ _; exact Nat.le_of_eq rfl) (hb hby at_30) (fun _ _ => ⟨rfl, e33, (by decide : 0 + 0 ≤ _), (by decide : 0 + 0 ≤ _)⟩)
    dsimp only [Pt.U, Pt.locs, Pt.cells, Pt.slots] at X34 l34 y34 z34 st34 hQ34
    subst l34 y34 z34
    obtain ⟨rfl, N34q, e34⟩ := hQ34
    have N34 := Fr.app N33 N34q
    refine Go.st (V' := T34.setTop (mkF m 33 #[.val (.int p0), .val (.int (8 : Int32)), .val (.ref s_HEBREW_LETTER), .val (.int (0 : Int32))] [(.int (f2 s_CR s_LF s_NEWLINE s_HEBREW_LETTER))])) (fun t k => st34.trans k) ?_
    have r35 : (f2 s_CR s_LF s_NEWLINE s_HEBREW_LETTER) = (0 : Int32) := by rw [f2, if_neg (Fld.ne (F_HEBREW_LETTER_ordinal.ext O0.2) (F_CR_ordinal.ext O0.2) (by decide)), if_neg (Fld.ne (F_HEBREW_LETTER_ordinal.ext O0.2) (F_LF_ordinal.ext O0.2) (by decide)), if_neg (Fld.ne (F_HEBREW_LETTER_ordinal.ext O0.2) (F_NEWLINE_ordinal.ext O0.2) (by decide))]
    rw [r35]
    refine Go.st (V' := T34.setTop (mkF m 42 #[.val (.int p0), .val (.int (8 : Int32)), .val (.ref s_HEBREW_LETTER), .val (.int (0 : Int32))] [(.int (1 : Int32))])) (fun t k => ?_) ?_
    · refine XS.iloadN X34.here hx rfl (hb hby at_33) rfl  ?_
      show Steps p.tables e below (T34.setTop (mkF m 34 #[.val (.int p0), .val (.int (8 : Int32)), .val (.ref s_HEBREW_LETTER), .val (.int (0 : Int32))] [(.int (0 : Int32)), (.int (0 : Int32))])) _
      refine XS.icmpNo X34.here hx rfl (hb hby at_34) rfl (teq (by decide : ((0 : Int32) = (0 : Int32)))).2 ?_
      show Steps p.tables e below (T34.setTop (mkF m 37 #[.val (.int p0), .val (.int (8 : Int32)), .val (.ref s_HEBREW_LETTER), .val (.int (0 : Int32))] [])) _
      refine XS.iconst X34.here hx rfl (hb hby at_37) ?_
      show Steps p.tables e below (T34.setTop (mkF m 38 #[.val (.int p0), .val (.int (8 : Int32)), .val (.ref s_HEBREW_LETTER), .val (.int (0 : Int32))] [(.int (1 : Int32))])) _
      refine XS.goto X34.here hx rfl (pc0 := 38) (pc' := 42) rfl (hb hby at_38) (by decide) (by decide) ?_
      show Steps p.tables e below (T34.setTop (mkF m 42 #[.val (.int p0), .val (.int (8 : Int32)), .val (.ref s_HEBREW_LETTER), .val (.int (0 : Int32))] [(.int (1 : Int32))])) _
      exact k
    obtain ⟨fs, hr, hrun, hended, hW, hsame⟩ := X34.leave (v := some (.int (1 : Int32))) (fun h => by rw [Bd.returns] at h; cases h)
    refine Go.mk' ⟨_, _, retN X34 hx (t := .boolean) Bd.returns (by simp) (hb hby at_42) hr, hrun, hended, _, _, rfl, ?_, ⟨_, rfl⟩, hW, hsame.mono (by decide) (by decide)⟩
    show Q0 Z p0 h0 n0 _ T34.heap _
    rw [e34]
    exact ⟨rfl, N34⟩
  · show Go p e below _ (s₁.setTop (mkF m 8 #[.val (.int p0), .val (.int (9 : Int32)), .unset, .unset] []))
    refine Go.st (V' := s₁.setTop (mkF m 9 #[.val (.int p0), .val (.int (9 : Int32)), .unset, .unset] [(.int (9 : Int32))])) (fun t k => ?_) ?_
    · refine XS.iloadN X0.here hx rfl (hb hby at_8) rfl  ?_
      show Steps p.tables e below (s₁.setTop (mkF m 9 #[.val (.int p0), .val (.int (9 : Int32)), .unset, .unset] [(.int (9 : Int32))])) _
      exact k
    obtain ⟨_, _, ⟨T36, L36, k36, n36⟩, -, X36, ⟨Lc36, hQ36, l36, y36, z36⟩, st36⟩ := Jvm.LawKit.callS X0 hx (y := (⟨"com/example/hits_from_terms/hitsfromterms/analysis/WordBreak", "forOrdinal", "(I)Lcom/example/hits_from_terms/hitsfromterms/analysis/WordBreak;"⟩ : MethodName)) hown (mvT hZ (hw _ (List.mem_of_getElem? (i := 1) rfl))) (mvT hZ (hw _ (List.mem_of_getElem? (i := 2) rfl))) (mvT hZ (hw _ (List.mem_of_getElem? (i := 3) rfl))) (mvT hZ (hw _ (List.mem_of_getElem? (i := 4) rfl))) (by decide) (backOf (W := 0) (rm1 l Z a0 hw [] s_OTHER s_CR s_LF s_NEWLINE s_SINGLE_QUOTE s_FORMAT s_REGIONAL_INDICATOR s_ALETTER s_EXTEND_NUM_LET s_KATAKANA s_HEBREW_LETTER s_MID_NUM_LET s_WSEG_SPACE s_ZWJ s_DOUBLE_QUOTE s_EXTEND s_NUMERIC s_MID_LETTER s_MID_NUM s_VALUES k_VALUES HW (9 : Int32) s_NUMERIC h0 n0 O0 ⟨by decide, by decide⟩ rfl) hZ (hw _ (List.mem_of_getElem? (i := 4) rfl)) (hw _ (List.mem_of_getElem? (i := 3) rfl)) (by decide) (by decide)) (g := (mkF m 9 #[.val (.int p0), .val (.int (9 : Int32)), .unset, .unset] [(.int (9 : Int32))])) rfl (by rw [hml]; rfl) (argsL := [(.int (9 : Int32))]) (rest := []) (lenOf own_pd17 rfl) rfl (by show 2 * 0 + _ ≤ _; exact Nat.le_of_eq rfl) (hb hby at_9) (fun _ _ => ⟨rfl, e0, (by decide : 0 + 0 ≤ _), (by decide : 0 + 0 ≤ _)⟩)
    dsimp only [Pt.U, Pt.locs, Pt.cells, Pt.slots] at X36 l36 y36 z36 st36 hQ36
    subst l36 y36 z36
    obtain ⟨rfl, N36q, e36⟩ := hQ36
    have N36 := Fr.app N0 N36q
    refine Go.st (V' := T36.setTop (mkF m 12 #[.val (.int p0), .val (.int (9 : Int32)), .unset, .unset] [(.ref s_NUMERIC)])) (fun t k => st36 t k) ?_
    refine Go.st (V' := T36.setTop (mkF m 30 #[.val (.int p0), .val (.int (9 : Int32)), .val (.ref s_NUMERIC), .val (.int (0 : Int32))] [(.ref s_NUMERIC)])) (fun t k => ?_) ?_
    · refine XS.astoreN X36.here hx rfl (hb hby at_12) rfl rfl (l' := #[.val (.int p0), .val (.int (9 : Int32)), .val (.ref s_NUMERIC), .unset]) rfl ?_
      show Steps p.tables e below (T36.setTop (mkF m 13 #[.val (.int p0), .val (.int (9 : Int32)), .val (.ref s_NUMERIC), .unset] [])) _
      refine XS.iloadN X36.here hx rfl (hb hby at_13) rfl  ?_
      show Steps p.tables e below (T36.setTop (mkF m 14 #[.val (.int p0), .val (.int (9 : Int32)), .val (.ref s_NUMERIC), .unset] [(.int (9 : Int32))])) _
      refine XS.iconst X36.here hx rfl (hb hby at_14) ?_
      show Steps p.tables e below (T36.setTop (mkF m 15 #[.val (.int p0), .val (.int (9 : Int32)), .val (.ref s_NUMERIC), .unset] [(.int (1 : Int32)), (.int (9 : Int32))])) _
      refine XS.icmpNo X36.here hx rfl (hb hby at_15) rfl (flt (by decide : ¬ ((9 : Int32) < (1 : Int32)))).1 ?_
      show Steps p.tables e below (T36.setTop (mkF m 18 #[.val (.int p0), .val (.int (9 : Int32)), .val (.ref s_NUMERIC), .unset] [])) _
      refine XS.iloadN X36.here hx rfl (hb hby at_18) rfl  ?_
      show Steps p.tables e below (T36.setTop (mkF m 19 #[.val (.int p0), .val (.int (9 : Int32)), .val (.ref s_NUMERIC), .unset] [(.int (9 : Int32))])) _
      refine XS.iconst X36.here hx rfl (hb hby at_19) ?_
      show Steps p.tables e below (T36.setTop (mkF m 20 #[.val (.int p0), .val (.int (9 : Int32)), .val (.ref s_NUMERIC), .unset] [(.int (3 : Int32)), (.int (9 : Int32))])) _
      refine XS.icmpYes X36.here hx rfl (pc0 := 20) (pc' := 27) rfl (hb hby at_20) rfl (tlt (by decide : ((3 : Int32) < (9 : Int32)))).2.2.1 (by decide) (by decide) ?_
      show Steps p.tables e below (T36.setTop (mkF m 27 #[.val (.int p0), .val (.int (9 : Int32)), .val (.ref s_NUMERIC), .unset] [])) _
      refine XS.iconst X36.here hx rfl (hb hby at_27) ?_
      show Steps p.tables e below (T36.setTop (mkF m 28 #[.val (.int p0), .val (.int (9 : Int32)), .val (.ref s_NUMERIC), .unset] [(.int (0 : Int32))])) _
      refine XS.istoreN X36.here hx rfl (hb hby at_28) rfl (l' := #[.val (.int p0), .val (.int (9 : Int32)), .val (.ref s_NUMERIC), .val (.int (0 : Int32))]) rfl ?_
      show Steps p.tables e below (T36.setTop (mkF m 29 #[.val (.int p0), .val (.int (9 : Int32)), .val (.ref s_NUMERIC), .val (.int (0 : Int32))] [])) _
      refine XS.aloadN X36.here hx rfl (hb hby at_29) rfl rfl ?_
      show Steps p.tables e below (T36.setTop (mkF m 30 #[.val (.int p0), .val (.int (9 : Int32)), .val (.ref s_NUMERIC), .val (.int (0 : Int32))] [(.ref s_NUMERIC)])) _
      exact k
    obtain ⟨cq37, kq37, q37a, q37b, q37c⟩ := isOf hZ e36 (E_NUMERIC.ext O0.2)
    obtain ⟨_, _, ⟨T37, L37, k37, n37⟩, -, X37, ⟨Lc37, hQ37, l37, y37, z37⟩, st37⟩ := X36.virtualBack hx (y := (⟨"com/example/hits_from_terms/hitsfromterms/analysis/WordBreak", "isLineBreak", "()Z"⟩ : MethodName)) (z := (⟨"com/example/hits_from_terms/hitsfromterms/analysis/WordBreak", "isLineBreak", "()Z"⟩ : MethodName)) hown (mvT hZ (hw _ (List.mem_of_getElem? (i := 8) rfl))) (mvT hZ (hw _ (List.mem_of_getElem? (i := 9) rfl))) (notFace_of_selects (args := #[]) (mvT hZ (hw _ (List.mem_of_getElem? (i := 11) rfl)))) (mvT hZ (hw _ (List.mem_of_getElem? (i := 11) rfl))) (mvT hZ (hw _ (List.mem_of_getElem? (i := 10) rfl))) (by decide) (backOf (W := 0) (rm2 l Z a0 hw [] s_OTHER s_CR s_LF s_NEWLINE s_SINGLE_QUOTE s_FORMAT s_REGIONAL_INDICATOR s_ALETTER s_EXTEND_NUM_LET s_KATAKANA s_HEBREW_LETTER s_MID_NUM_LET s_WSEG_SPACE s_ZWJ s_DOUBLE_QUOTE s_EXTEND s_NUMERIC s_MID_LETTER s_MID_NUM s_VALUES k_VALUES HW s_NUMERIC h0 n0 O0) hZ (hw _ (List.mem_of_getElem? (i := 12) rfl)) (hw _ (List.mem_of_getElem? (i := 3) rfl)) (by decide) (by decide)) q37a q37c (g := (mkF m 30 #[.val (.int p0), .val (.int (9 : Int32)), .val (.ref s_NUMERIC), .val (.int (0 : Int32))] [(.ref s_NUMERIC)])) rfl (by rw [hml]; rfl) (Steps.refl _) (argsL := []) (rest := []) (lenOf own_pd18 rfl) rfl (by show 2 * 0 + _ ≤ _; exact Nat.le_of_eq rfl) (hb hby at_30) (fun _ _ => ⟨rfl, e36, (by decide : 0 + 0 ≤ _), (by decide : 0 + 0 ≤ _)⟩)
    dsimp only [Pt.U, Pt.locs, Pt.cells, Pt.slots] at X37 l37 y37 z37 st37 hQ37
    subst l37 y37 z37
    obtain ⟨rfl, N37q, e37⟩ := hQ37
    have N37 := Fr.app N36 N37q
    refine Go.st (V' := T37.setTop (mkF m 33 #[.val (.int p0), .val (.int (9 : Int32)), .val (.ref s_NUMERIC), .val (.int (0 : Int32))] [(.int (f2 s_CR s_LF s_NEWLINE s_NUMERIC))])) (fun t k => st37.trans k) ?_
    have r38 : (f2 s_CR s_LF s_NEWLINE s_NUMERIC) = (0 : Int32) := by rw [f2, if_neg (Fld.ne (F_NUMERIC_ordinal.ext O0.2) (F_CR_ordinal.ext O0.2) (by decide)), if_neg (Fld.ne (F_NUMERIC_ordinal.ext O0.2) (F_LF_ordinal.ext O0.2) (by decide)), if_neg (Fld.ne (F_NUMERIC_ordinal.ext O0.2) (F_NEWLINE_ordinal.ext O0.2) (by decide))]
    rw [r38]
    refine Go.st (V' := T37.setTop (mkF m 42 #[.val (.int p0), .val (.int (9 : Int32)), .val (.ref s_NUMERIC), .val (.int (0 : Int32))] [(.int (1 : Int32))])) (fun t k => ?_) ?_
    · refine XS.iloadN X37.here hx rfl (hb hby at_33) rfl  ?_
      show Steps p.tables e below (T37.setTop (mkF m 34 #[.val (.int p0), .val (.int (9 : Int32)), .val (.ref s_NUMERIC), .val (.int (0 : Int32))] [(.int (0 : Int32)), (.int (0 : Int32))])) _
      refine XS.icmpNo X37.here hx rfl (hb hby at_34) rfl (teq (by decide : ((0 : Int32) = (0 : Int32)))).2 ?_
      show Steps p.tables e below (T37.setTop (mkF m 37 #[.val (.int p0), .val (.int (9 : Int32)), .val (.ref s_NUMERIC), .val (.int (0 : Int32))] [])) _
      refine XS.iconst X37.here hx rfl (hb hby at_37) ?_
      show Steps p.tables e below (T37.setTop (mkF m 38 #[.val (.int p0), .val (.int (9 : Int32)), .val (.ref s_NUMERIC), .val (.int (0 : Int32))] [(.int (1 : Int32))])) _
      refine XS.goto X37.here hx rfl (pc0 := 38) (pc' := 42) rfl (hb hby at_38) (by decide) (by decide) ?_
      show Steps p.tables e below (T37.setTop (mkF m 42 #[.val (.int p0), .val (.int (9 : Int32)), .val (.ref s_NUMERIC), .val (.int (0 : Int32))] [(.int (1 : Int32))])) _
      exact k
    obtain ⟨fs, hr, hrun, hended, hW, hsame⟩ := X37.leave (v := some (.int (1 : Int32))) (fun h => by rw [Bd.returns] at h; cases h)
    refine Go.mk' ⟨_, _, retN X37 hx (t := .boolean) Bd.returns (by simp) (hb hby at_42) hr, hrun, hended, _, _, rfl, ?_, ⟨_, rfl⟩, hW, hsame.mono (by decide) (by decide)⟩
    show Q0 Z p0 h0 n0 _ T37.heap _
    rw [e37]
    exact ⟨rfl, N37⟩
  · show Go p e below _ (s₁.setTop (mkF m 8 #[.val (.int p0), .val (.int (10 : Int32)), .unset, .unset] []))
    refine Go.st (V' := s₁.setTop (mkF m 9 #[.val (.int p0), .val (.int (10 : Int32)), .unset, .unset] [(.int (10 : Int32))])) (fun t k => ?_) ?_
    · refine XS.iloadN X0.here hx rfl (hb hby at_8) rfl  ?_
      show Steps p.tables e below (s₁.setTop (mkF m 9 #[.val (.int p0), .val (.int (10 : Int32)), .unset, .unset] [(.int (10 : Int32))])) _
      exact k
    obtain ⟨_, _, ⟨T39, L39, k39, n39⟩, -, X39, ⟨Lc39, hQ39, l39, y39, z39⟩, st39⟩ := Jvm.LawKit.callS X0 hx (y := (⟨"com/example/hits_from_terms/hitsfromterms/analysis/WordBreak", "forOrdinal", "(I)Lcom/example/hits_from_terms/hitsfromterms/analysis/WordBreak;"⟩ : MethodName)) hown (mvT hZ (hw _ (List.mem_of_getElem? (i := 1) rfl))) (mvT hZ (hw _ (List.mem_of_getElem? (i := 2) rfl))) (mvT hZ (hw _ (List.mem_of_getElem? (i := 3) rfl))) (mvT hZ (hw _ (List.mem_of_getElem? (i := 4) rfl))) (by decide) (backOf (W := 0) (rm1 l Z a0 hw [] s_OTHER s_CR s_LF s_NEWLINE s_SINGLE_QUOTE s_FORMAT s_REGIONAL_INDICATOR s_ALETTER s_EXTEND_NUM_LET s_KATAKANA s_HEBREW_LETTER s_MID_NUM_LET s_WSEG_SPACE s_ZWJ s_DOUBLE_QUOTE s_EXTEND s_NUMERIC s_MID_LETTER s_MID_NUM s_VALUES k_VALUES HW (10 : Int32) s_KATAKANA h0 n0 O0 ⟨by decide, by decide⟩ rfl) hZ (hw _ (List.mem_of_getElem? (i := 4) rfl)) (hw _ (List.mem_of_getElem? (i := 3) rfl)) (by decide) (by decide)) (g := (mkF m 9 #[.val (.int p0), .val (.int (10 : Int32)), .unset, .unset] [(.int (10 : Int32))])) rfl (by rw [hml]; rfl) (argsL := [(.int (10 : Int32))]) (rest := []) (lenOf own_pd17 rfl) rfl (by show 2 * 0 + _ ≤ _; exact Nat.le_of_eq rfl) (hb hby at_9) (fun _ _ => ⟨rfl, e0, (by decide : 0 + 0 ≤ _), (by decide : 0 + 0 ≤ _)⟩)
    dsimp only [Pt.U, Pt.locs, Pt.cells, Pt.slots] at X39 l39 y39 z39 st39 hQ39
    subst l39 y39 z39
    obtain ⟨rfl, N39q, e39⟩ := hQ39
    have N39 := Fr.app N0 N39q
    refine Go.st (V' := T39.setTop (mkF m 12 #[.val (.int p0), .val (.int (10 : Int32)), .unset, .unset] [(.ref s_KATAKANA)])) (fun t k => st39 t k) ?_
    refine Go.st (V' := T39.setTop (mkF m 30 #[.val (.int p0), .val (.int (10 : Int32)), .val (.ref s_KATAKANA), .val (.int (0 : Int32))] [(.ref s_KATAKANA)])) (fun t k => ?_) ?_
    · refine XS.astoreN X39.here hx rfl (hb hby at_12) rfl rfl (l' := #[.val (.int p0), .val (.int (10 : Int32)), .val (.ref s_KATAKANA), .unset]) rfl ?_
      show Steps p.tables e below (T39.setTop (mkF m 13 #[.val (.int p0), .val (.int (10 : Int32)), .val (.ref s_KATAKANA), .unset] [])) _
      refine XS.iloadN X39.here hx rfl (hb hby at_13) rfl  ?_
      show Steps p.tables e below (T39.setTop (mkF m 14 #[.val (.int p0), .val (.int (10 : Int32)), .val (.ref s_KATAKANA), .unset] [(.int (10 : Int32))])) _
      refine XS.iconst X39.here hx rfl (hb hby at_14) ?_
      show Steps p.tables e below (T39.setTop (mkF m 15 #[.val (.int p0), .val (.int (10 : Int32)), .val (.ref s_KATAKANA), .unset] [(.int (1 : Int32)), (.int (10 : Int32))])) _
      refine XS.icmpNo X39.here hx rfl (hb hby at_15) rfl (flt (by decide : ¬ ((10 : Int32) < (1 : Int32)))).1 ?_
      show Steps p.tables e below (T39.setTop (mkF m 18 #[.val (.int p0), .val (.int (10 : Int32)), .val (.ref s_KATAKANA), .unset] [])) _
      refine XS.iloadN X39.here hx rfl (hb hby at_18) rfl  ?_
      show Steps p.tables e below (T39.setTop (mkF m 19 #[.val (.int p0), .val (.int (10 : Int32)), .val (.ref s_KATAKANA), .unset] [(.int (10 : Int32))])) _
      refine XS.iconst X39.here hx rfl (hb hby at_19) ?_
      show Steps p.tables e below (T39.setTop (mkF m 20 #[.val (.int p0), .val (.int (10 : Int32)), .val (.ref s_KATAKANA), .unset] [(.int (3 : Int32)), (.int (10 : Int32))])) _
      refine XS.icmpYes X39.here hx rfl (pc0 := 20) (pc' := 27) rfl (hb hby at_20) rfl (tlt (by decide : ((3 : Int32) < (10 : Int32)))).2.2.1 (by decide) (by decide) ?_
      show Steps p.tables e below (T39.setTop (mkF m 27 #[.val (.int p0), .val (.int (10 : Int32)), .val (.ref s_KATAKANA), .unset] [])) _
      refine XS.iconst X39.here hx rfl (hb hby at_27) ?_
      show Steps p.tables e below (T39.setTop (mkF m 28 #[.val (.int p0), .val (.int (10 : Int32)), .val (.ref s_KATAKANA), .unset] [(.int (0 : Int32))])) _
      refine XS.istoreN X39.here hx rfl (hb hby at_28) rfl (l' := #[.val (.int p0), .val (.int (10 : Int32)), .val (.ref s_KATAKANA), .val (.int (0 : Int32))]) rfl ?_
      show Steps p.tables e below (T39.setTop (mkF m 29 #[.val (.int p0), .val (.int (10 : Int32)), .val (.ref s_KATAKANA), .val (.int (0 : Int32))] [])) _
      refine XS.aloadN X39.here hx rfl (hb hby at_29) rfl rfl ?_
      show Steps p.tables e below (T39.setTop (mkF m 30 #[.val (.int p0), .val (.int (10 : Int32)), .val (.ref s_KATAKANA), .val (.int (0 : Int32))] [(.ref s_KATAKANA)])) _
      exact k
    obtain ⟨cq40, kq40, q40a, q40b, q40c⟩ := isOf hZ e39 (E_KATAKANA.ext O0.2)
    obtain ⟨_, _, ⟨T40, L40, k40, n40⟩, -, X40, ⟨Lc40, hQ40, l40, y40, z40⟩, st40⟩ := X39.virtualBack hx (y := (⟨"com/example/hits_from_terms/hitsfromterms/analysis/WordBreak", "isLineBreak", "()Z"⟩ : MethodName)) (z := (⟨"com/example/hits_from_terms/hitsfromterms/analysis/WordBreak", "isLineBreak", "()Z"⟩ : MethodName)) hown (mvT hZ (hw _ (List.mem_of_getElem? (i := 8) rfl))) (mvT hZ (hw _ (List.mem_of_getElem? (i := 9) rfl))) (notFace_of_selects (args := #[]) (mvT hZ (hw _ (List.mem_of_getElem? (i := 11) rfl)))) (mvT hZ (hw _ (List.mem_of_getElem? (i := 11) rfl))) (mvT hZ (hw _ (List.mem_of_getElem? (i := 10) rfl))) (by decide) (backOf (W := 0) (rm2 l Z a0 hw [] s_OTHER s_CR s_LF s_NEWLINE s_SINGLE_QUOTE s_FORMAT s_REGIONAL_INDICATOR s_ALETTER s_EXTEND_NUM_LET s_KATAKANA s_HEBREW_LETTER s_MID_NUM_LET s_WSEG_SPACE s_ZWJ s_DOUBLE_QUOTE s_EXTEND s_NUMERIC s_MID_LETTER s_MID_NUM s_VALUES k_VALUES HW s_KATAKANA h0 n0 O0) hZ (hw _ (List.mem_of_getElem? (i := 12) rfl)) (hw _ (List.mem_of_getElem? (i := 3) rfl)) (by decide) (by decide)) q40a q40c (g := (mkF m 30 #[.val (.int p0), .val (.int (10 : Int32)), .val (.ref s_KATAKANA), .val (.int (0 : Int32))] [(.ref s_KATAKANA)])) rfl (by rw [hml]; rfl) (Steps.refl _) (argsL := []) (rest := []) (lenOf own_pd18 rfl) rfl (by show 2 * 0 + _ ≤ _; exact Nat.le_of_eq rfl) (hb hby at_30) (fun _ _ => ⟨rfl, e39, (by decide : 0 + 0 ≤ _), (by decide : 0 + 0 ≤ _)⟩)
    dsimp only [Pt.U, Pt.locs, Pt.cells, Pt.slots] at X40 l40 y40 z40 st40 hQ40
    subst l40 y40 z40
    obtain ⟨rfl, N40q, e40⟩ := hQ40
    have N40 := Fr.app N39 N40q
    refine Go.st (V' := T40.setTop (mkF m 33 #[.val (.int p0), .val (.int (10 : Int32)), .val (.ref s_KATAKANA), .val (.int (0 : Int32))] [(.int (f2 s_CR s_LF s_NEWLINE s_KATAKANA))])) (fun t k => st40.trans k) ?_
    have r41 : (f2 s_CR s_LF s_NEWLINE s_KATAKANA) = (0 : Int32) := by rw [f2, if_neg (Fld.ne (F_KATAKANA_ordinal.ext O0.2) (F_CR_ordinal.ext O0.2) (by decide)), if_neg (Fld.ne (F_KATAKANA_ordinal.ext O0.2) (F_LF_ordinal.ext O0.2) (by decide)), if_neg (Fld.ne (F_KATAKANA_ordinal.ext O0.2) (F_NEWLINE_ordinal.ext O0.2) (by decide))]
    rw [r41]
    refine Go.st (V' := T40.setTop (mkF m 42 #[.val (.int p0), .val (.int (10 : Int32)), .val (.ref s_KATAKANA), .val (.int (0 : Int32))] [(.int (1 : Int32))])) (fun t k => ?_) ?_
    · refine XS.iloadN X40.here hx rfl (hb hby at_33) rfl  ?_
      show Steps p.tables e below (T40.setTop (mkF m 34 #[.val (.int p0), .val (.int (10 : Int32)), .val (.ref s_KATAKANA), .val (.int (0 : Int32))] [(.int (0 : Int32)), (.int (0 : Int32))])) _
      refine XS.icmpNo X40.here hx rfl (hb hby at_34) rfl (teq (by decide : ((0 : Int32) = (0 : Int32)))).2 ?_
      show Steps p.tables e below (T40.setTop (mkF m 37 #[.val (.int p0), .val (.int (10 : Int32)), .val (.ref s_KATAKANA), .val (.int (0 : Int32))] [])) _
      refine XS.iconst X40.here hx rfl (hb hby at_37) ?_
      show Steps p.tables e below (T40.setTop (mkF m 38 #[.val (.int p0), .val (.int (10 : Int32)), .val (.ref s_KATAKANA), .val (.int (0 : Int32))] [(.int (1 : Int32))])) _
      refine XS.goto X40.here hx rfl (pc0 := 38) (pc' := 42) rfl (hb hby at_38) (by decide) (by decide) ?_
      show Steps p.tables e below (T40.setTop (mkF m 42 #[.val (.int p0), .val (.int (10 : Int32)), .val (.ref s_KATAKANA), .val (.int (0 : Int32))] [(.int (1 : Int32))])) _
      exact k
    obtain ⟨fs, hr, hrun, hended, hW, hsame⟩ := X40.leave (v := some (.int (1 : Int32))) (fun h => by rw [Bd.returns] at h; cases h)
    refine Go.mk' ⟨_, _, retN X40 hx (t := .boolean) Bd.returns (by simp) (hb hby at_42) hr, hrun, hended, _, _, rfl, ?_, ⟨_, rfl⟩, hW, hsame.mono (by decide) (by decide)⟩
    show Q0 Z p0 h0 n0 _ T40.heap _
    rw [e40]
    exact ⟨rfl, N40⟩
  · show Go p e below _ (s₁.setTop (mkF m 8 #[.val (.int p0), .val (.int (11 : Int32)), .unset, .unset] []))
    refine Go.st (V' := s₁.setTop (mkF m 9 #[.val (.int p0), .val (.int (11 : Int32)), .unset, .unset] [(.int (11 : Int32))])) (fun t k => ?_) ?_
    · refine XS.iloadN X0.here hx rfl (hb hby at_8) rfl  ?_
      show Steps p.tables e below (s₁.setTop (mkF m 9 #[.val (.int p0), .val (.int (11 : Int32)), .unset, .unset] [(.int (11 : Int32))])) _
      exact k
    obtain ⟨_, _, ⟨T42, L42, k42, n42⟩, -, X42, ⟨Lc42, hQ42, l42, y42, z42⟩, st42⟩ := Jvm.LawKit.callS X0 hx (y := (⟨"com/example/hits_from_terms/hitsfromterms/analysis/WordBreak", "forOrdinal", "(I)Lcom/example/hits_from_terms/hitsfromterms/analysis/WordBreak;"⟩ : MethodName)) hown (mvT hZ (hw _ (List.mem_of_getElem? (i := 1) rfl))) (mvT hZ (hw _ (List.mem_of_getElem? (i := 2) rfl))) (mvT hZ (hw _ (List.mem_of_getElem? (i := 3) rfl))) (mvT hZ (hw _ (List.mem_of_getElem? (i := 4) rfl))) (by decide) (backOf (W := 0) (rm1 l Z a0 hw [] s_OTHER s_CR s_LF s_NEWLINE s_SINGLE_QUOTE s_FORMAT s_REGIONAL_INDICATOR s_ALETTER s_EXTEND_NUM_LET s_KATAKANA s_HEBREW_LETTER s_MID_NUM_LET s_WSEG_SPACE s_ZWJ s_DOUBLE_QUOTE s_EXTEND s_NUMERIC s_MID_LETTER s_MID_NUM s_VALUES k_VALUES HW (11 : Int32) s_EXTEND_NUM_LET h0 n0 O0 ⟨by decide, by decide⟩ rfl) hZ (hw _ (List.mem_of_getElem? (i := 4) rfl)) (hw _ (List.mem_of_getElem? (i := 3) rfl)) (by decide) (by decide)) (g := (mkF m 9 #[.val (.int p0), .val (.int (11 : Int32)), .unset, .unset] [(.int (11 : Int32))])) rfl (by rw [hml]; rfl) (argsL := [(.int (11 : Int32))]) (rest := []) (lenOf own_pd17 rfl) rfl (by show 2 * 0 + _ ≤ _; exact Nat.le_of_eq rfl) (hb hby at_9) (fun _ _ => ⟨rfl, e0, (by decide : 0 + 0 ≤ _), (by decide : 0 + 0 ≤ _)⟩)
    dsimp only [Pt.U, Pt.locs, Pt.cells, Pt.slots] at X42 l42 y42 z42 st42 hQ42
    subst l42 y42 z42
    obtain ⟨rfl, N42q, e42⟩ := hQ42
    have N42 := Fr.app N0 N42q
    refine Go.st (V' := T42.setTop (mkF m 12 #[.val (.int p0), .val (.int (11 : Int32)), .unset, .unset] [(.ref s_EXTEND_NUM_LET)])) (fun t k => st42 t k) ?_
    refine Go.st (V' := T42.setTop (mkF m 30 #[.val (.int p0), .val (.int (11 : Int32)), .val (.ref s_EXTEND_NUM_LET), .val (.int (0 : Int32))] [(.ref s_EXTEND_NUM_LET)])) (fun t k => ?_) ?_
    · refine XS.astoreN X42.here hx rfl (hb hby at_12) rfl rfl (l' := #[.val (.int p0), .val (.int (11 : Int32)), .val (.ref s_EXTEND_NUM_LET), .unset]) rfl ?_
      show Steps p.tables e below (T42.setTop (mkF m 13 #[.val (.int p0), .val (.int (11 : Int32)), .val (.ref s_EXTEND_NUM_LET), .unset] [])) _
      refine XS.iloadN X42.here hx rfl (hb hby at_13) rfl  ?_
      show Steps p.tables e below (T42.setTop (mkF m 14 #[.val (.int p0), .val (.int (11 : Int32)), .val (.ref s_EXTEND_NUM_LET), .unset] [(.int (11 : Int32))])) _
      refine XS.iconst X42.here hx rfl (hb hby at_14) ?_
      show Steps p.tables e below (T42.setTop (mkF m 15 #[.val (.int p0), .val (.int (11 : Int32)), .val (.ref s_EXTEND_NUM_LET), .unset] [(.int (1 : Int32)), (.int (11 : Int32))])) _
      refine XS.icmpNo X42.here hx rfl (hb hby at_15) rfl (flt (by decide : ¬ ((11 : Int32) < (1 : Int32)))).1 ?_
      show Steps p.tables e below (T42.setTop (mkF m 18 #[.val (.int p0), .val (.int (11 : Int32)), .val (.ref s_EXTEND_NUM_LET), .unset] [])) _
      refine XS.iloadN X42.here hx rfl (hb hby at_18) rfl  ?_
      show Steps p.tables e below (T42.setTop (mkF m 19 #[.val (.int p0), .val (.int (11 : Int32)), .val (.ref s_EXTEND_NUM_LET), .unset] [(.int (11 : Int32))])) _
      refine XS.iconst X42.here hx rfl (hb hby at_19) ?_
      show Steps p.tables e below (T42.setTop (mkF m 20 #[.val (.int p0), .val (.int (11 : Int32)), .val (.ref s_EXTEND_NUM_LET), .unset] [(.int (3 : Int32)), (.int (11 : Int32))])) _
      refine XS.icmpYes X42.here hx rfl (pc0 := 20) (pc' := 27) rfl (hb hby at_20) rfl (tlt (by decide : ((3 : Int32) < (11 : Int32)))).2.2.1 (by decide) (by decide) ?_
      show Steps p.tables e below (T42.setTop (mkF m 27 #[.val (.int p0), .val (.int (11 : Int32)), .val (.ref s_EXTEND_NUM_LET), .unset] [])) _
      refine XS.iconst X42.here hx rfl (hb hby at_27) ?_
      show Steps p.tables e below (T42.setTop (mkF m 28 #[.val (.int p0), .val (.int (11 : Int32)), .val (.ref s_EXTEND_NUM_LET), .unset] [(.int (0 : Int32))])) _
      refine XS.istoreN X42.here hx rfl (hb hby at_28) rfl (l' := #[.val (.int p0), .val (.int (11 : Int32)), .val (.ref s_EXTEND_NUM_LET), .val (.int (0 : Int32))]) rfl ?_
      show Steps p.tables e below (T42.setTop (mkF m 29 #[.val (.int p0), .val (.int (11 : Int32)), .val (.ref s_EXTEND_NUM_LET), .val (.int (0 : Int32))] [])) _
      refine XS.aloadN X42.here hx rfl (hb hby at_29) rfl rfl ?_
      show Steps p.tables e below (T42.setTop (mkF m 30 #[.val (.int p0), .val (.int (11 : Int32)), .val (.ref s_EXTEND_NUM_LET), .val (.int (0 : Int32))] [(.ref s_EXTEND_NUM_LET)])) _
      exact k
    obtain ⟨cq43, kq43, q43a, q43b, q43c⟩ := isOf hZ e42 (E_EXTEND_NUM_LET.ext O0.2)
    obtain ⟨_, _, ⟨T43, L43, k43, n43⟩, -, X43, ⟨Lc43, hQ43, l43, y43, z43⟩, st43⟩ := X42.virtualBack hx (y := (⟨"com/example/hits_from_terms/hitsfromterms/analysis/WordBreak", "isLineBreak", "()Z"⟩ : MethodName)) (z := (⟨"com/example/hits_from_terms/hitsfromterms/analysis/WordBreak", "isLineBreak", "()Z"⟩ : MethodName)) hown (mvT hZ (hw _ (List.mem_of_getElem? (i := 8) rfl))) (mvT hZ (hw _ (List.mem_of_getElem? (i := 9) rfl))) (notFace_of_selects (args := #[]) (mvT hZ (hw _ (List.mem_of_getElem? (i := 11) rfl)))) (mvT hZ (hw _ (List.mem_of_getElem? (i := 11) rfl))) (mvT hZ (hw _ (List.mem_of_getElem? (i := 10) rfl))) (by decide) (backOf (W := 0) (rm2 l Z a0 hw [] s_OTHER s_CR s_LF s_NEWLINE s_SINGLE_QUOTE s_FORMAT s_REGIONAL_INDICATOR s_ALETTER s_EXTEND_NUM_LET s_KATAKANA s_HEBREW_LETTER s_MID_NUM_LET s_WSEG_SPACE s_ZWJ s_DOUBLE_QUOTE s_EXTEND s_NUMERIC s_MID_LETTER s_MID_NUM s_VALUES k_VALUES HW s_EXTEND_NUM_LET h0 n0 O0) hZ (hw _ (List.mem_of_getElem? (i := 12) rfl)) (hw _ (List.mem_of_getElem? (i := 3) rfl)) (by decide) (by decide)) q43a q43c (g := (mkF m 30 #[.val (.int p0), .val (.int (11 : Int32)), .val (.ref s_EXTEND_NUM_LET), .val (.int (0 : Int32))] [(.ref s_EXTEND_NUM_LET)])) rfl (by rw [hml]; rfl) (Steps.refl _) (argsL := []) (rest := []) (lenOf own_pd18 rfl) rfl (by show 2 * 0 + _ ≤ _; exact Nat.le_of_eq rfl) (hb hby at_30) (fun _ _ => ⟨rfl, e42, (by decide : 0 + 0 ≤ _), (by decide : 0 + 0 ≤ _)⟩)
    dsimp only [Pt.U, Pt.locs, Pt.cells, Pt.slots] at X43 l43 y43 z43 st43 hQ43
    subst l43 y43 z43
    obtain ⟨rfl, N43q, e43⟩ := hQ43
    have N43 := Fr.app N42 N43q
    refine Go.st (V' := T43.setTop (mkF m 33 #[.val (.int p0), .val (.int (11 : Int32)), .val (.ref s_EXTEND_NUM_LET), .val (.int (0 : Int32))] [(.int (f2 s_CR s_LF s_NEWLINE s_EXTEND_NUM_LET))])) (fun t k => st43.trans k) ?_
    have r44 : (f2 s_CR s_LF s_NEWLINE s_EXTEND_NUM_LET) = (0 : Int32) := by rw [f2, if_neg (Fld.ne (F_EXTEND_NUM_LET_ordinal.ext O0.2) (F_CR_ordinal.ext O0.2) (by decide)), if_neg (Fld.ne (F_EXTEND_NUM_LET_ordinal.ext O0.2) (F_LF_ordinal.ext O0.2) (by decide)), if_neg (Fld.ne (F_EXTEND_NUM_LET_ordinal.ext O0.2) (F_NEWLINE_ordinal.ext O0.2) (by decide))]
    rw [r44]
    refine Go.st (V' := T43.setTop (mkF m 42 #[.val (.int p0), .val (.int (11 : Int32)), .val (.ref s_EXTEND_NUM_LET), .val (.int (0 : Int32))] [(.int (1 : Int32))])) (fun t k => ?_) ?_
    · refine XS.iloadN X43.here hx rfl (hb hby at_33) rfl  ?_
      show Steps p.tables e below (T43.setTop (mkF m 34 #[.val (.int p0), .val (.int (11 : Int32)), .val (.ref s_EXTEND_NUM_LET), .val (.int (0 : Int32))] [(.int (0 : Int32)), (.int (0 : Int32))])) _
      refine XS.icmpNo X43.here hx rfl (hb hby at_34) rfl (teq (by decide : ((0 : Int32) = (0 : Int32)))).2 ?_
      show Steps p.tables e below (T43.setTop (mkF m 37 #[.val (.int p0), .val (.int (11 : Int32)), .val (.ref s_EXTEND_NUM_LET), .val (.int (0 : Int32))] [])) _
      refine XS.iconst X43.here hx rfl (hb hby at_37) ?_
      show Steps p.tables e below (T43.setTop (mkF m 38 #[.val (.int p0), .val (.int (11 : Int32)), .val (.ref s_EXTEND_NUM_LET), .val (.int (0 : Int32))] [(.int (1 : Int32))])) _
      refine XS.goto X43.here hx rfl (pc0 := 38) (pc' := 42) rfl (hb hby at_38) (by decide) (by decide) ?_
      show Steps p.tables e below (T43.setTop (mkF m 42 #[.val (.int p0), .val (.int (11 : Int32)), .val (.ref s_EXTEND_NUM_LET), .val (.int (0 : Int32))] [(.int (1 : Int32))])) _
      exact k
    obtain ⟨fs, hr, hrun, hended, hW, hsame⟩ := X43.leave (v := some (.int (1 : Int32))) (fun h => by rw [Bd.returns] at h; cases h)
    refine Go.mk' ⟨_, _, retN X43 hx (t := .boolean) Bd.returns (by simp) (hb hby at_42) hr, hrun, hended, _, _, rfl, ?_, ⟨_, rfl⟩, hW, hsame.mono (by decide) (by decide)⟩
    show Q0 Z p0 h0 n0 _ T43.heap _
    rw [e43]
    exact ⟨rfl, N43⟩
  · show Go p e below _ (s₁.setTop (mkF m 8 #[.val (.int p0), .val (.int (12 : Int32)), .unset, .unset] []))
    refine Go.st (V' := s₁.setTop (mkF m 9 #[.val (.int p0), .val (.int (12 : Int32)), .unset, .unset] [(.int (12 : Int32))])) (fun t k => ?_) ?_
    · refine XS.iloadN X0.here hx rfl (hb hby at_8) rfl  ?_
      show Steps p.tables e below (s₁.setTop (mkF m 9 #[.val (.int p0), .val (.int (12 : Int32)), .unset, .unset] [(.int (12 : Int32))])) _
      exact k
    obtain ⟨_, _, ⟨T45, L45, k45, n45⟩, -, X45, ⟨Lc45, hQ45, l45, y45, z45⟩, st45⟩ := Jvm.LawKit.callS X0 hx (y := (⟨"com/example/hits_from_terms/hitsfromterms/analysis/WordBreak", "forOrdinal", "(I)Lcom/example/hits_from_terms/hitsfromterms/analysis/WordBreak;"⟩ : MethodName)) hown (mvT hZ (hw _ (List.mem_of_getElem? (i := 1) rfl))) (mvT hZ (hw _ (List.mem_of_getElem? (i := 2) rfl))) (mvT hZ (hw _ (List.mem_of_getElem? (i := 3) rfl))) (mvT hZ (hw _ (List.mem_of_getElem? (i := 4) rfl))) (by decide) (backOf (W := 0) (rm1 l Z a0 hw [] s_OTHER s_CR s_LF s_NEWLINE s_SINGLE_QUOTE s_FORMAT s_REGIONAL_INDICATOR s_ALETTER s_EXTEND_NUM_LET s_KATAKANA s_HEBREW_LETTER s_MID_NUM_LET s_WSEG_SPACE s_ZWJ s_DOUBLE_QUOTE s_EXTEND s_NUMERIC s_MID_LETTER s_MID_NUM s_VALUES k_VALUES HW (12 : Int32) s_MID_LETTER h0 n0 O0 ⟨by decide, by decide⟩ rfl) hZ (hw _ (List.mem_of_getElem? (i := 4) rfl)) (hw _ (List.mem_of_getElem? (i := 3) rfl)) (by decide) (by decide)) (g := (mkF m 9 #[.val (.int p0), .val (.int (12 : Int32)), .unset, .unset] [(.int (12 : Int32))])) rfl (by rw [hml]; rfl) (argsL := [(.int (12 : Int32))]) (rest := []) (lenOf own_pd17 rfl) rfl (by show 2 * 0 + _ ≤ _; exact Nat.le_of_eq rfl) (hb hby at_9) (fun _ _ => ⟨rfl, e0, (by decide : 0 + 0 ≤ _), (by decide : 0 + 0 ≤ _)⟩)
    dsimp only [Pt.U, Pt.locs, Pt.cells, Pt.slots] at X45 l45 y45 z45 st45 hQ45
    subst l45 y45 z45
    obtain ⟨rfl, N45q, e45⟩ := hQ45
    have N45 := Fr.app N0 N45q
    refine Go.st (V' := T45.setTop (mkF m 12 #[.val (.int p0), .val (.int (12 : Int32)), .unset, .unset] [(.ref s_MID_LETTER)])) (fun t k => st45 t k) ?_
    refine Go.st (V' := T45.setTop (mkF m 30 #[.val (.int p0), .val (.int (12 : Int32)), .val (.ref s_MID_LETTER), .val (.int (0 : Int32))] [(.ref s_MID_LETTER)])) (fun t k => ?_) ?_
    · refine XS.astoreN X45.here hx rfl (hb hby at_12) rfl rfl (l' := #[.val (.int p0), .val (.int (12 : Int32)), .val (.ref s_MID_LETTER), .unset]) rfl ?_
      show Steps p.tables e below (T45.setTop (mkF m 13 #[.val (.int p0), .val (.int (12 : Int32)), .val (.ref s_MID_LETTER), .unset] [])) _
      refine XS.iloadN X45.here hx rfl (hb hby at_13) rfl  ?_
      show Steps p.tables e below (T45.setTop (mkF m 14 #[.val (.int p0), .val (.int (12 : Int32)), .val (.ref s_MID_LETTER), .unset] [(.int (12 : Int32))])) _
      refine XS.iconst X45.here hx rfl (hb hby at_14) ?_
      show Steps p.tables e below (T45.setTop (mkF m 15 #[.val (.int p0), .val (.int (12 : Int32)), .val (.ref s_MID_LETTER), .unset] [(.int (1 : Int32)), (.int (12 : Int32))])) _
      refine XS.icmpNo X45.here hx rfl (hb hby at_15) rfl (flt (by decide : ¬ ((12 : Int32) < (1 : Int32)))).1 ?_
      show Steps p.tables e below (T45.setTop (mkF m 18 #[.val (.int p0), .val (.int (12 : Int32)), .val (.ref s_MID_LETTER), .unset] [])) _
      refine XS.iloadN X45.here hx rfl (hb hby at_18) rfl  ?_
      show Steps p.tables e below (T45.setTop (mkF m 19 #[.val (.int p0), .val (.int (12 : Int32)), .val (.ref s_MID_LETTER), .unset] [(.int (12 : Int32))])) _
      refine XS.iconst X45.here hx rfl (hb hby at_19) ?_
      show Steps p.tables e below (T45.setTop (mkF m 20 #[.val (.int p0), .val (.int (12 : Int32)), .val (.ref s_MID_LETTER), .unset] [(.int (3 : Int32)), (.int (12 : Int32))])) _
      refine XS.icmpYes X45.here hx rfl (pc0 := 20) (pc' := 27) rfl (hb hby at_20) rfl (tlt (by decide : ((3 : Int32) < (12 : Int32)))).2.2.1 (by decide) (by decide) ?_
      show Steps p.tables e below (T45.setTop (mkF m 27 #[.val (.int p0), .val (.int (12 : Int32)), .val (.ref s_MID_LETTER), .unset] [])) _
      refine XS.iconst X45.here hx rfl (hb hby at_27) ?_
      show Steps p.tables e below (T45.setTop (mkF m 28 #[.val (.int p0), .val (.int (12 : Int32)), .val (.ref s_MID_LETTER), .unset] [(.int (0 : Int32))])) _
      refine XS.istoreN X45.here hx rfl (hb hby at_28) rfl (l' := #[.val (.int p0), .val (.int (12 : Int32)), .val (.ref s_MID_LETTER), .val (.int (0 : Int32))]) rfl ?_
      show Steps p.tables e below (T45.setTop (mkF m 29 #[.val (.int p0), .val (.int (12 : Int32)), .val (.ref s_MID_LETTER), .val (.int (0 : Int32))] [])) _
      refine XS.aloadN X45.here hx rfl (hb hby at_29) rfl rfl ?_
      show Steps p.tables e below (T45.setTop (mkF m 30 #[.val (.int p0), .val (.int (12 : Int32)), .val (.ref s_MID_LETTER), .val (.int (0 : Int32))] [(.ref s_MID_LETTER)])) _
      exact k
    obtain ⟨cq46, kq46, q46a, q46b, q46c⟩ := isOf hZ e45 (E_MID_LETTER.ext O0.2)
    obtain ⟨_, _, ⟨T46, L46, k46, n46⟩, -, X46, ⟨Lc46, hQ46, l46, y46, z46⟩, st46⟩ := X45.virtualBack hx (y := (⟨"com/example/hits_from_terms/hitsfromterms/analysis/WordBreak", "isLineBreak", "()Z"⟩ : MethodName)) (z := (⟨"com/example/hits_from_terms/hitsfromterms/analysis/WordBreak", "isLineBreak", "()Z"⟩ : MethodName)) hown (mvT hZ (hw _ (List.mem_of_getElem? (i := 8) rfl))) (mvT hZ (hw _ (List.mem_of_getElem? (i := 9) rfl))) (notFace_of_selects (args := #[]) (mvT hZ (hw _ (List.mem_of_getElem? (i := 11) rfl)))) (mvT hZ (hw _ (List.mem_of_getElem? (i := 11) rfl))) (mvT hZ (hw _ (List.mem_of_getElem? (i := 10) rfl))) (by decide) (backOf (W := 0) (rm2 l Z a0 hw [] s_OTHER s_CR s_LF s_NEWLINE s_SINGLE_QUOTE s_FORMAT s_REGIONAL_INDICATOR s_ALETTER s_EXTEND_NUM_LET s_KATAKANA s_HEBREW_LETTER s_MID_NUM_LET s_WSEG_SPACE s_ZWJ s_DOUBLE_QUOTE s_EXTEND s_NUMERIC s_MID_LETTER s_MID_NUM s_VALUES k_VALUES HW s_MID_LETTER h0 n0 O0) hZ (hw _ (List.mem_of_getElem? (i := 12) rfl)) (hw _ (List.mem_of_getElem? (i := 3) rfl)) (by decide) (by decide)) q46a q46c (g := (mkF m 30 #[.val (.int p0), .val (.int (12 : Int32)), .val (.ref s_MID_LETTER), .val (.int (0 : Int32))] [(.ref s_MID_LETTER)])) rfl (by rw [hml]; rfl) (Steps.refl _) (argsL := []) (rest := []) (lenOf own_pd18 rfl) rfl (by show 2 * 0 + _ ≤ _; exact Nat.le_of_eq rfl) (hb hby at_30) (fun _ _ => ⟨rfl, e45, (by decide : 0 + 0 ≤ _), (by decide : 0 + 0 ≤ _)⟩)
    dsimp only [Pt.U, Pt.locs, Pt.cells, Pt.slots] at X46 l46 y46 z46 st46 hQ46
    subst l46 y46 z46
    obtain ⟨rfl, N46q, e46⟩ := hQ46
    have N46 := Fr.app N45 N46q
    refine Go.st (V' := T46.setTop (mkF m 33 #[.val (.int p0), .val (.int (12 : Int32)), .val (.ref s_MID_LETTER), .val (.int (0 : Int32))] [(.int (f2 s_CR s_LF s_NEWLINE s_MID_LETTER))])) (fun t k => st46.trans k) ?_
    have r47 : (f2 s_CR s_LF s_NEWLINE s_MID_LETTER) = (0 : Int32) := by rw [f2, if_neg (Fld.ne (F_MID_LETTER_ordinal.ext O0.2) (F_CR_ordinal.ext O0.2) (by decide)), if_neg (Fld.ne (F_MID_LETTER_ordinal.ext O0.2) (F_LF_ordinal.ext O0.2) (by decide)), if_neg (Fld.ne (F_MID_LETTER_ordinal.ext O0.2) (F_NEWLINE_ordinal.ext O0.2) (by decide))]
    rw [r47]
    refine Go.st (V' := T46.setTop (mkF m 42 #[.val (.int p0), .val (.int (12 : Int32)), .val (.ref s_MID_LETTER), .val (.int (0 : Int32))] [(.int (1 : Int32))])) (fun t k => ?_) ?_
    · refine XS.iloadN X46.here hx rfl (hb hby at_33) rfl  ?_
      show Steps p.tables e below (T46.setTop (mkF m 34 #[.val (.int p0), .val (.int (12 : Int32)), .val (.ref s_MID_LETTER), .val (.int (0 : Int32))] [(.int (0 : Int32)), (.int (0 : Int32))])) _
      refine XS.icmpNo X46.here hx rfl (hb hby at_34) rfl (teq (by decide : ((0 : Int32) = (0 : Int32)))).2 ?_
      show Steps p.tables e below (T46.setTop (mkF m 37 #[.val (.int p0), .val (.int (12 : Int32)), .val (.ref s_MID_LETTER), .val (.int (0 : Int32))] [])) _
      refine XS.iconst X46.here hx rfl (hb hby at_37) ?_
      show Steps p.tables e below (T46.setTop (mkF m 38 #[.val (.int p0), .val (.int (12 : Int32)), .val (.ref s_MID_LETTER), .val (.int (0 : Int32))] [(.int (1 : Int32))])) _
      refine XS.goto X46.here hx rfl (pc0 := 38) (pc' := 42) rfl (hb hby at_38) (by decide) (by decide) ?_
      show Steps p.tables e below (T46.setTop (mkF m 42 #[.val (.int p0), .val (.int (12 : Int32)), .val (.ref s_MID_LETTER), .val (.int (0 : Int32))] [(.int (1 : Int32))])) _
      exact k
    obtain ⟨fs, hr, hrun, hended, hW, hsame⟩ := X46.leave (v := some (.int (1 : Int32))) (fun h => by rw [Bd.returns] at h; cases h)
    refine Go.mk' ⟨_, _, retN X46 hx (t := .boolean) Bd.returns (by simp) (hb hby at_42) hr, hrun, hended, _, _, rfl, ?_, ⟨_, rfl⟩, hW, hsame.mono (by decide) (by decide)⟩
    show Q0 Z p0 h0 n0 _ T46.heap _
    rw [e46]
    exact ⟨rfl, N46⟩
  · show Go p e below _ (s₁.setTop (mkF m 8 #[.val (.int p0), .val (.int (13 : Int32)), .unset, .unset] []))
    refine Go.st (V' := s₁.setTop (mkF m 9 #[.val (.int p0), .val (.int (13 : Int32)), .unset, .unset] [(.int (13 : Int32))])) (fun t k => ?_) ?_
    · refine XS.iloadN X0.here hx rfl (hb hby at_8) rfl  ?_
      show Steps p.tables e below (s₁.setTop (mkF m 9 #[.val (.int p0), .val (.int (13 : Int32)), .unset, .unset] [(.int (13 : Int32))])) _
      exact k
    obtain ⟨_, _, ⟨T48, L48, k48, n48⟩, -, X48, ⟨Lc48, hQ48, l48, y48, z48⟩, st48⟩ := Jvm.LawKit.callS X0 hx (y := (⟨"com/example/hits_from_terms/hitsfromterms/analysis/WordBreak", "forOrdinal", "(I)Lcom/example/hits_from_terms/hitsfromterms/analysis/WordBreak;"⟩ : MethodName)) hown (mvT hZ (hw _ (List.mem_of_getElem? (i := 1) rfl))) (mvT hZ (hw _ (List.mem_of_getElem? (i := 2) rfl))) (mvT hZ (hw _ (List.mem_of_getElem? (i := 3) rfl))) (mvT hZ (hw _ (List.mem_of_getElem? (i := 4) rfl))) (by decide) (backOf (W := 0) (rm1 l Z a0 hw [] s_OTHER s_CR s_LF s_NEWLINE s_SINGLE_QUOTE s_FORMAT s_REGIONAL_INDICATOR s_ALETTER s_EXTEND_NUM_LET s_KATAKANA s_HEBREW_LETTER s_MID_NUM_LET s_WSEG_SPACE s_ZWJ s_DOUBLE_QUOTE s_EXTEND s_NUMERIC s_MID_LETTER s_MID_NUM s_VALUES k_VALUES HW (13 : Int32) s_MID_NUM h0 n0 O0 ⟨by decide, by decide⟩ rfl) hZ (hw _ (List.mem_of_getElem? (i := 4) rfl)) (hw _ (List.mem_of_getElem? (i := 3) rfl)) (by decide) (by decide)) (g := (mkF m 9 #[.val (.int p0), .val (.int (13 : Int32)), .unset, .unset] [(.int (13 : Int32))])) rfl (by rw [hml]; rfl) (argsL := [(.int (13 : Int32))]) (rest := []) (lenOf own_pd17 rfl) rfl (by show 2 * 0 + _ ≤ _; exact Nat.le_of_eq rfl) (hb hby at_9) (fun _ _ => ⟨rfl, e0, (by decide : 0 + 0 ≤ _), (by decide : 0 + 0 ≤ _)⟩)
    dsimp only [Pt.U, Pt.locs, Pt.cells, Pt.slots] at X48 l48 y48 z48 st48 hQ48
    subst l48 y48 z48
    obtain ⟨rfl, N48q, e48⟩ := hQ48
    have N48 := Fr.app N0 N48q
    refine Go.st (V' := T48.setTop (mkF m 12 #[.val (.int p0), .val (.int (13 : Int32)), .unset, .unset] [(.ref s_MID_NUM)])) (fun t k => st48 t k) ?_
    refine Go.st (V' := T48.setTop (mkF m 30 #[.val (.int p0), .val (.int (13 : Int32)), .val (.ref s_MID_NUM), .val (.int (0 : Int32))] [(.ref s_MID_NUM)])) (fun t k => ?_) ?_
    · refine XS.astoreN X48.here hx rfl (hb hby at_12) rfl rfl (l' := #[.val (.int p0), .val (.int (13 : Int32)), .val (.ref s_MID_NUM), .unset]) rfl ?_
      show Steps p.tables e below (T48.setTop (mkF m 13 #[.val (.int p0), .val (.int (13 : Int32)), .val (.ref s_MID_NUM), .unset] [])) _
      refine XS.iloadN X48.here hx rfl (hb hby at_13) rfl  ?_
      show Steps p.tables e below (T48.setTop (mkF m 14 #[.val (.int p0), .val (.int (13 : Int32)), .val (.ref s_MID_NUM), .unset] [(.int (13 : Int32))])) _
      refine XS.iconst X48.here hx rfl (hb hby at_14) ?_
      show Steps p.tables e below (T48.setTop (mkF m 15 #[.val (.int p0), .val (.int (13 : Int32)), .val (.ref s_MID_NUM), .unset] [(.int (1 : Int32)), (.int (13 : Int32))])) _
      refine XS.icmpNo X48.here hx rfl (hb hby at_15) rfl (flt (by decide : ¬ ((13 : Int32) < (1 : Int32)))).1 ?_
      show Steps p.tables e below (T48.setTop (mkF m 18 #[.val (.int p0), .val (.int (13 : Int32)), .val (.ref s_MID_NUM), .unset] [])) _
      refine XS.iloadN X48.here hx rfl (hb hby at_18) rfl  ?_
      show Steps p.tables e below (T48.setTop (mkF m 19 #[.val (.int p0), .val (.int (13 : Int32)), .val (.ref s_MID_NUM), .unset] [(.int (13 : Int32))])) _
      refine XS.iconst X48.here hx rfl (hb hby at_19) ?_
      show Steps p.tables e below (T48.setTop (mkF m 20 #[.val (.int p0), .val (.int (13 : Int32)), .val (.ref s_MID_NUM), .unset] [(.int (3 : Int32)), (.int (13 : Int32))])) _
      refine XS.icmpYes X48.here hx rfl (pc0 := 20) (pc' := 27) rfl (hb hby at_20) rfl (tlt (by decide : ((3 : Int32) < (13 : Int32)))).2.2.1 (by decide) (by decide) ?_
      show Steps p.tables e below (T48.setTop (mkF m 27 #[.val (.int p0), .val (.int (13 : Int32)), .val (.ref s_MID_NUM), .unset] [])) _
      refine XS.iconst X48.here hx rfl (hb hby at_27) ?_
      show Steps p.tables e below (T48.setTop (mkF m 28 #[.val (.int p0), .val (.int (13 : Int32)), .val (.ref s_MID_NUM), .unset] [(.int (0 : Int32))])) _
      refine XS.istoreN X48.here hx rfl (hb hby at_28) rfl (l' := #[.val (.int p0), .val (.int (13 : Int32)), .val (.ref s_MID_NUM), .val (.int (0 : Int32))]) rfl ?_
      show Steps p.tables e below (T48.setTop (mkF m 29 #[.val (.int p0), .val (.int (13 : Int32)), .val (.ref s_MID_NUM), .val (.int (0 : Int32))] [])) _
      refine XS.aloadN X48.here hx rfl (hb hby at_29) rfl rfl ?_
      show Steps p.tables e below (T48.setTop (mkF m 30 #[.val (.int p0), .val (.int (13 : Int32)), .val (.ref s_MID_NUM), .val (.int (0 : Int32))] [(.ref s_MID_NUM)])) _
      exact k
    obtain ⟨cq49, kq49, q49a, q49b, q49c⟩ := isOf hZ e48 (E_MID_NUM.ext O0.2)
    obtain ⟨_, _, ⟨T49, L49, k49, n49⟩, -, X49, ⟨Lc49, hQ49, l49, y49, z49⟩, st49⟩ := X48.virtualBack hx (y := (⟨"com/example/hits_from_terms/hitsfromterms/analysis/WordBreak", "isLineBreak", "()Z"⟩ : MethodName)) (z := (⟨"com/example/hits_from_terms/hitsfromterms/analysis/WordBreak", "isLineBreak", "()Z"⟩ : MethodName)) hown (mvT hZ (hw _ (List.mem_of_getElem? (i := 8) rfl))) (mvT hZ (hw _ (List.mem_of_getElem? (i := 9) rfl))) (notFace_of_selects (args := #[]) (mvT hZ (hw _ (List.mem_of_getElem? (i := 11) rfl)))) (mvT hZ (hw _ (List.mem_of_getElem? (i := 11) rfl))) (mvT hZ (hw _ (List.mem_of_getElem? (i := 10) rfl))) (by decide) (backOf (W := 0) (rm2 l Z a0 hw [] s_OTHER s_CR s_LF s_NEWLINE s_SINGLE_QUOTE s_FORMAT s_REGIONAL_INDICATOR s_ALETTER s_EXTEND_NUM_LET s_KATAKANA s_HEBREW_LETTER s_MID_NUM_LET s_WSEG_SPACE s_ZWJ s_DOUBLE_QUOTE s_EXTEND s_NUMERIC s_MID_LETTER s_MID_NUM s_VALUES k_VALUES HW s_MID_NUM h0 n0 O0) hZ (hw _ (List.mem_of_getElem? (i := 12) rfl)) (hw _ (List.mem_of_getElem? (i := 3) rfl)) (by decide) (by decide)) q49a q49c (g := (mkF m 30 #[.val (.int p0), .val (.int (13 : Int32)), .val (.ref s_MID_NUM), .val (.int (0 : Int32))] [(.ref s_MID_NUM)])) rfl (by rw [hml]; rfl) (Steps.refl _) (argsL := []) (rest := []) (lenOf own_pd18 rfl) rfl (by show 2 * 0 + _ ≤ _; exact Nat.le_of_eq rfl) (hb hby at_30) (fun _ _ => ⟨rfl, e48, (by decide : 0 + 0 ≤ _), (by decide : 0 + 0 ≤ _)⟩)
    dsimp only [Pt.U, Pt.locs, Pt.cells, Pt.slots] at X49 l49 y49 z49 st49 hQ49
    subst l49 y49 z49
    obtain ⟨rfl, N49q, e49⟩ := hQ49
    have N49 := Fr.app N48 N49q
    refine Go.st (V' := T49.setTop (mkF m 33 #[.val (.int p0), .val (.int (13 : Int32)), .val (.ref s_MID_NUM), .val (.int (0 : Int32))] [(.int (f2 s_CR s_LF s_NEWLINE s_MID_NUM))])) (fun t k => st49.trans k) ?_
    have r50 : (f2 s_CR s_LF s_NEWLINE s_MID_NUM) = (0 : Int32) := by rw [f2, if_neg (Fld.ne (F_MID_NUM_ordinal.ext O0.2) (F_CR_ordinal.ext O0.2) (by decide)), if_neg (Fld.ne (F_MID_NUM_ordinal.ext O0.2) (F_LF_ordinal.ext O0.2) (by decide)), if_neg (Fld.ne (F_MID_NUM_ordinal.ext O0.2) (F_NEWLINE_ordinal.ext O0.2) (by decide))]
    rw [r50]
    refine Go.st (V' := T49.setTop (mkF m 42 #[.val (.int p0), .val (.int (13 : Int32)), .val (.ref s_MID_NUM), .val (.int (0 : Int32))] [(.int (1 : Int32))])) (fun t k => ?_) ?_
    · refine XS.iloadN X49.here hx rfl (hb hby at_33) rfl  ?_
      show Steps p.tables e below (T49.setTop (mkF m 34 #[.val (.int p0), .val (.int (13 : Int32)), .val (.ref s_MID_NUM), .val (.int (0 : Int32))] [(.int (0 : Int32)), (.int (0 : Int32))])) _
      refine XS.icmpNo X49.here hx rfl (hb hby at_34) rfl (teq (by decide : ((0 : Int32) = (0 : Int32)))).2 ?_
      show Steps p.tables e below (T49.setTop (mkF m 37 #[.val (.int p0), .val (.int (13 : Int32)), .val (.ref s_MID_NUM), .val (.int (0 : Int32))] [])) _
      refine XS.iconst X49.here hx rfl (hb hby at_37) ?_
      show Steps p.tables e below (T49.setTop (mkF m 38 #[.val (.int p0), .val (.int (13 : Int32)), .val (.ref s_MID_NUM), .val (.int (0 : Int32))] [(.int (1 : Int32))])) _
      refine XS.goto X49.here hx rfl (pc0 := 38) (pc' := 42) rfl (hb hby at_38) (by decide) (by decide) ?_
      show Steps p.tables e below (T49.setTop (mkF m 42 #[.val (.int p0), .val (.int (13 : Int32)), .val (.ref s_MID_NUM), .val (.int (0 : Int32))] [(.int (1 : Int32))])) _
      exact k
    obtain ⟨fs, hr, hrun, hended, hW, hsame⟩ := X49.leave (v := some (.int (1 : Int32))) (fun h => by rw [Bd.returns] at h; cases h)
    refine Go.mk' ⟨_, _, retN X49 hx (t := .boolean) Bd.returns (by simp) (hb hby at_42) hr, hrun, hended, _, _, rfl, ?_, ⟨_, rfl⟩, hW, hsame.mono (by decide) (by decide)⟩
    show Q0 Z p0 h0 n0 _ T49.heap _
    rw [e49]
    exact ⟨rfl, N49⟩
  · show Go p e below _ (s₁.setTop (mkF m 8 #[.val (.int p0), .val (.int (14 : Int32)), .unset, .unset] []))
    refine Go.st (V' := s₁.setTop (mkF m 9 #[.val (.int p0), .val (.int (14 : Int32)), .unset, .unset] [(.int (14 : Int32))])) (fun t k => ?_) ?_
    · refine XS.iloadN X0.here hx rfl (hb hby at_8) rfl  ?_
      show Steps p.tables e below (s₁.setTop (mkF m 9 #[.val (.int p0), .val (.int (14 : Int32)), .unset, .unset] [(.int (14 : Int32))])) _
      exact k
    obtain ⟨_, _, ⟨T51, L51, k51, n51⟩, -, X51, ⟨Lc51, hQ51, l51, y51, z51⟩, st51⟩ := Jvm.LawKit.callS X0 hx (y := (⟨"com/example/hits_from_terms/hitsfromterms/analysis/WordBreak", "forOrdinal", "(I)Lcom/example/hits_from_terms/hitsfromterms/analysis/WordBreak;"⟩ : MethodName)) hown (mvT hZ (hw _ (List.mem_of_getElem? (i := 1) rfl))) (mvT hZ (hw _ (List.mem_of_getElem? (i := 2) rfl))) (mvT hZ (hw _ (List.mem_of_getElem? (i := 3) rfl))) (mvT hZ (hw _ (List.mem_of_getElem? (i := 4) rfl))) (by decide) (backOf (W := 0) (rm1 l Z a0 hw [] s_OTHER s_CR s_LF s_NEWLINE s_SINGLE_QUOTE s_FORMAT s_REGIONAL_INDICATOR s_ALETTER s_EXTEND_NUM_LET s_KATAKANA s_HEBREW_LETTER s_MID_NUM_LET s_WSEG_SPACE s_ZWJ s_DOUBLE_QUOTE s_EXTEND s_NUMERIC s_MID_LETTER s_MID_NUM s_VALUES k_VALUES HW (14 : Int32) s_MID_NUM_LET h0 n0 O0 ⟨by decide, by decide⟩ rfl) hZ (hw _ (List.mem_of_getElem? (i := 4) rfl)) (hw _ (List.mem_of_getElem? (i := 3) rfl)) (by decide) (by decide)) (g := (mkF m 9 #[.val (.int p0), .val (.int (14 : Int32)), .unset, .unset] [(.int (14 : Int32))])) rfl (by rw [hml]; rfl) (argsL := [(.int (14 : Int32))]) (rest := []) (lenOf own_pd17 rfl) rfl (by show 2 * 0 + _ ≤ _; exact Nat.le_of_eq rfl) (hb hby at_9) (fun _ _ => ⟨rfl, e0, (by decide : 0 + 0 ≤ _), (by decide : 0 + 0 ≤ _)⟩)
    dsimp only [Pt.U, Pt.locs, Pt.cells, Pt.slots] at X51 l51 y51 z51 st51 hQ51
    subst l51 y51 z51
    obtain ⟨rfl, N51q, e51⟩ := hQ51
    have N51 := Fr.app N0 N51q
    refine Go.st (V' := T51.setTop (mkF m 12 #[.val (.int p0), .val (.int (14 : Int32)), .unset, .unset] [(.ref s_MID_NUM_LET)])) (fun t k => st51 t k) ?_
    refine Go.st (V' := T51.setTop (mkF m 30 #[.val (.int p0), .val (.int (14 : Int32)), .val (.ref s_MID_NUM_LET), .val (.int (0 : Int32))] [(.ref s_MID_NUM_LET)])) (fun t k => ?_) ?_
    · refine XS.astoreN X51.here hx rfl (hb hby at_12) rfl rfl (l' := #[.val (.int p0), .val (.int (14 : Int32)), .val (.ref s_MID_NUM_LET), .unset]) rfl ?_
      show Steps p.tables e below (T51.setTop (mkF m 13 #[.val (.int p0), .val (.int (14 : Int32)), .val (.ref s_MID_NUM_LET), .unset] [])) _
      refine XS.iloadN X51.here hx rfl (hb hby at_13) rfl  ?_
      show Steps p.tables e below (T51.setTop (mkF m 14 #[.val (.int p0), .val (.int (14 : Int32)), .val (.ref s_MID_NUM_LET), .unset] [(.int (14 : Int32))])) _
      refine XS.iconst X51.here hx rfl (hb hby at_14) ?_
      show Steps p.tables e below (T51.setTop (mkF m 15 #[.val (.int p0), .val (.int (14 : Int32)), .val (.ref s_MID_NUM_LET), .unset] [(.int (1 : Int32)), (.int (14 : Int32))])) _
      refine XS.icmpNo X51.here hx rfl (hb hby at_15) rfl (flt (by decide : ¬ ((14 : Int32) < (1 : Int32)))).1 ?_
      show Steps p.tables e below (T51.setTop (mkF m 18 #[.val (.int p0), .val (.int (14 : Int32)), .val (.ref s_MID_NUM_LET), .unset] [])) _
      refine XS.iloadN X51.here hx rfl (hb hby at_18) rfl  ?_
      show Steps p.tables e below (T51.setTop (mkF m 19 #[.val (.int p0), .val (.int (14 : Int32)), .val (.ref s_MID_NUM_LET), .unset] [(.int (14 : Int32))])) _
      refine XS.iconst X51.here hx rfl (hb hby at_19) ?_
      show Steps p.tables e below (T51.setTop (mkF m 20 #[.val (.int p0), .val (.int (14 : Int32)), .val (.ref s_MID_NUM_LET), .unset] [(.int (3 : Int32)), (.int (14 : Int32))])) _
      refine XS.icmpYes X51.here hx rfl (pc0 := 20) (pc' := 27) rfl (hb hby at_20) rfl (tlt (by decide : ((3 : Int32) < (14 : Int32)))).2.2.1 (by decide) (by decide) ?_
      show Steps p.tables e below (T51.setTop (mkF m 27 #[.val (.int p0), .val (.int (14 : Int32)), .val (.ref s_MID_NUM_LET), .unset] [])) _
      refine XS.iconst X51.here hx rfl (hb hby at_27) ?_
      show Steps p.tables e below (T51.setTop (mkF m 28 #[.val (.int p0), .val (.int (14 : Int32)), .val (.ref s_MID_NUM_LET), .unset] [(.int (0 : Int32))])) _
      refine XS.istoreN X51.here hx rfl (hb hby at_28) rfl (l' := #[.val (.int p0), .val (.int (14 : Int32)), .val (.ref s_MID_NUM_LET), .val (.int (0 : Int32))]) rfl ?_
      show Steps p.tables e below (T51.setTop (mkF m 29 #[.val (.int p0), .val (.int (14 : Int32)), .val (.ref s_MID_NUM_LET), .val (.int (0 : Int32))] [])) _
      refine XS.aloadN X51.here hx rfl (hb hby at_29) rfl rfl ?_
      show Steps p.tables e below (T51.setTop (mkF m 30 #[.val (.int p0), .val (.int (14 : Int32)), .val (.ref s_MID_NUM_LET), .val (.int (0 : Int32))] [(.ref s_MID_NUM_LET)])) _
      exact k
    obtain ⟨cq52, kq52, q52a, q52b, q52c⟩ := isOf hZ e51 (E_MID_NUM_LET.ext O0.2)
    obtain ⟨_, _, ⟨T52, L52, k52, n52⟩, -, X52, ⟨Lc52, hQ52, l52, y52, z52⟩, st52⟩ := X51.virtualBack hx (y := (⟨"com/example/hits_from_terms/hitsfromterms/analysis/WordBreak", "isLineBreak", "()Z"⟩ : MethodName)) (z := (⟨"com/example/hits_from_terms/hitsfromterms/analysis/WordBreak", "isLineBreak", "()Z"⟩ : MethodName)) hown (mvT hZ (hw _ (List.mem_of_getElem? (i := 8) rfl))) (mvT hZ (hw _ (List.mem_of_getElem? (i := 9) rfl))) (notFace_of_selects (args := #[]) (mvT hZ (hw _ (List.mem_of_getElem? (i := 11) rfl)))) (mvT hZ (hw _ (List.mem_of_getElem? (i := 11) rfl))) (mvT hZ (hw _ (List.mem_of_getElem? (i := 10) rfl))) (by decide) (backOf (W := 0) (rm2 l Z a0 hw [] s_OTHER s_CR s_LF s_NEWLINE s_SINGLE_QUOTE s_FORMAT s_REGIONAL_INDICATOR s_ALETTER s_EXTEND_NUM_LET s_KATAKANA s_HEBREW_LETTER s_MID_NUM_LET s_WSEG_SPACE s_ZWJ s_DOUBLE_QUOTE s_EXTEND s_NUMERIC s_MID_LETTER s_MID_NUM s_VALUES k_VALUES HW s_MID_NUM_LET h0 n0 O0) hZ (hw _ (List.mem_of_getElem? (i := 12) rfl)) (hw _ (List.mem_of_getElem? (i := 3) rfl)) (by decide) (by decide)) q52a q52c (g := (mkF m 30 #[.val (.int p0), .val (.int (14 : Int32)), .val (.ref s_MID_NUM_LET), .val (.int (0 : Int32))] [(.ref s_MID_NUM_LET)])) rfl (by rw [hml]; rfl) (Steps.refl _) (argsL := []) (rest := []) (lenOf own_pd18 rfl) rfl (by show 2 * 0 + _ ≤ _; exact Nat.le_of_eq rfl) (hb hby at_30) (fun _ _ => ⟨rfl, e51, (by decide : 0 + 0 ≤ _), (by decide : 0 + 0 ≤ _)⟩)
    dsimp only [Pt.U, Pt.locs, Pt.cells, Pt.slots] at X52 l52 y52 z52 st52 hQ52
    subst l52 y52 z52
    obtain ⟨rfl, N52q, e52⟩ := hQ52
    have N52 := Fr.app N51 N52q
    refine Go.st (V' := T52.setTop (mkF m 33 #[.val (.int p0), .val (.int (14 : Int32)), .val (.ref s_MID_NUM_LET), .val (.int (0 : Int32))] [(.int (f2 s_CR s_LF s_NEWLINE s_MID_NUM_LET))])) (fun t k => st52.trans k) ?_
    have r53 : (f2 s_CR s_LF s_NEWLINE s_MID_NUM_LET) = (0 : Int32) := by rw [f2, if_neg (Fld.ne (F_MID_NUM_LET_ordinal.ext O0.2) (F_CR_ordinal.ext O0.2) (by decide)), if_neg (Fld.ne (F_MID_NUM_LET_ordinal.ext O0.2) (F_LF_ordinal.ext O0.2) (by decide)), if_neg (Fld.ne (F_MID_NUM_LET_ordinal.ext O0.2) (F_NEWLINE_ordinal.ext O0.2) (by decide))]
    rw [r53]
    refine Go.st (V' := T52.setTop (mkF m 42 #[.val (.int p0), .val (.int (14 : Int32)), .val (.ref s_MID_NUM_LET), .val (.int (0 : Int32))] [(.int (1 : Int32))])) (fun t k => ?_) ?_
    · refine XS.iloadN X52.here hx rfl (hb hby at_33) rfl  ?_
      show Steps p.tables e below (T52.setTop (mkF m 34 #[.val (.int p0), .val (.int (14 : Int32)), .val (.ref s_MID_NUM_LET), .val (.int (0 : Int32))] [(.int (0 : Int32)), (.int (0 : Int32))])) _
      refine XS.icmpNo X52.here hx rfl (hb hby at_34) rfl (teq (by decide : ((0 : Int32) = (0 : Int32)))).2 ?_
      show Steps p.tables e below (T52.setTop (mkF m 37 #[.val (.int p0), .val (.int (14 : Int32)), .val (.ref s_MID_NUM_LET), .val (.int (0 : Int32))] [])) _
      refine XS.iconst X52.here hx rfl (hb hby at_37) ?_
      show Steps p.tables e below (T52.setTop (mkF m 38 #[.val (.int p0), .val (.int (14 : Int32)), .val (.ref s_MID_NUM_LET), .val (.int (0 : Int32))] [(.int (1 : Int32))])) _
      refine XS.goto X52.here hx rfl (pc0 := 38) (pc' := 42) rfl (hb hby at_38) (by decide) (by decide) ?_
      show Steps p.tables e below (T52.setTop (mkF m 42 #[.val (.int p0), .val (.int (14 : Int32)), .val (.ref s_MID_NUM_LET), .val (.int (0 : Int32))] [(.int (1 : Int32))])) _
      exact k
    obtain ⟨fs, hr, hrun, hended, hW, hsame⟩ := X52.leave (v := some (.int (1 : Int32))) (fun h => by rw [Bd.returns] at h; cases h)
    refine Go.mk' ⟨_, _, retN X52 hx (t := .boolean) Bd.returns (by simp) (hb hby at_42) hr, hrun, hended, _, _, rfl, ?_, ⟨_, rfl⟩, hW, hsame.mono (by decide) (by decide)⟩
    show Q0 Z p0 h0 n0 _ T52.heap _
    rw [e52]
    exact ⟨rfl, N52⟩
  · show Go p e below _ (s₁.setTop (mkF m 8 #[.val (.int p0), .val (.int (15 : Int32)), .unset, .unset] []))
    refine Go.st (V' := s₁.setTop (mkF m 9 #[.val (.int p0), .val (.int (15 : Int32)), .unset, .unset] [(.int (15 : Int32))])) (fun t k => ?_) ?_
    · refine XS.iloadN X0.here hx rfl (hb hby at_8) rfl  ?_
      show Steps p.tables e below (s₁.setTop (mkF m 9 #[.val (.int p0), .val (.int (15 : Int32)), .unset, .unset] [(.int (15 : Int32))])) _
      exact k
    obtain ⟨_, _, ⟨T54, L54, k54, n54⟩, -, X54, ⟨Lc54, hQ54, l54, y54, z54⟩, st54⟩ := Jvm.LawKit.callS X0 hx (y := (⟨"com/example/hits_from_terms/hitsfromterms/analysis/WordBreak", "forOrdinal", "(I)Lcom/example/hits_from_terms/hitsfromterms/analysis/WordBreak;"⟩ : MethodName)) hown (mvT hZ (hw _ (List.mem_of_getElem? (i := 1) rfl))) (mvT hZ (hw _ (List.mem_of_getElem? (i := 2) rfl))) (mvT hZ (hw _ (List.mem_of_getElem? (i := 3) rfl))) (mvT hZ (hw _ (List.mem_of_getElem? (i := 4) rfl))) (by decide) (backOf (W := 0) (rm1 l Z a0 hw [] s_OTHER s_CR s_LF s_NEWLINE s_SINGLE_QUOTE s_FORMAT s_REGIONAL_INDICATOR s_ALETTER s_EXTEND_NUM_LET s_KATAKANA s_HEBREW_LETTER s_MID_NUM_LET s_WSEG_SPACE s_ZWJ s_DOUBLE_QUOTE s_EXTEND s_NUMERIC s_MID_LETTER s_MID_NUM s_VALUES k_VALUES HW (15 : Int32) s_SINGLE_QUOTE h0 n0 O0 ⟨by decide, by decide⟩ rfl) hZ (hw _ (List.mem_of_getElem? (i := 4) rfl)) (hw _ (List.mem_of_getElem? (i := 3) rfl)) (by decide) (by decide)) (g := (mkF m 9 #[.val (.int p0), .val (.int (15 : Int32)), .unset, .unset] [(.int (15 : Int32))])) rfl (by rw [hml]; rfl) (argsL := [(.int (15 : Int32))]) (rest := []) (lenOf own_pd17 rfl) rfl (by show 2 * 0 + _ ≤ _; exact Nat.le_of_eq rfl) (hb hby at_9) (fun _ _ => ⟨rfl, e0, (by decide : 0 + 0 ≤ _), (by decide : 0 + 0 ≤ _)⟩)
    dsimp only [Pt.U, Pt.locs, Pt.cells, Pt.slots] at X54 l54 y54 z54 st54 hQ54
    subst l54 y54 z54
    obtain ⟨rfl, N54q, e54⟩ := hQ54
    have N54 := Fr.app N0 N54q
    refine Go.st (V' := T54.setTop (mkF m 12 #[.val (.int p0), .val (.int (15 : Int32)), .unset, .unset] [(.ref s_SINGLE_QUOTE)])) (fun t k => st54 t k) ?_
    refine Go.st (V' := T54.setTop (mkF m 30 #[.val (.int p0), .val (.int (15 : Int32)), .val (.ref s_SINGLE_QUOTE), .val (.int (0 : Int32))] [(.ref s_SINGLE_QUOTE)])) (fun t k => ?_) ?_
    · refine XS.astoreN X54.here hx rfl (hb hby at_12) rfl rfl (l' := #[.val (.int p0), .val (.int (15 : Int32)), .val (.ref s_SINGLE_QUOTE), .unset]) rfl ?_
      show Steps p.tables e below (T54.setTop (mkF m 13 #[.val (.int p0), .val (.int (15 : Int32)), .val (.ref s_SINGLE_QUOTE), .unset] [])) _
      refine XS.iloadN X54.here hx rfl (hb hby at_13) rfl  ?_
      show Steps p.tables e below (T54.setTop (mkF m 14 #[.val (.int p0), .val (.int (15 : Int32)), .val (.ref s_SINGLE_QUOTE), .unset] [(.int (15 : Int32))])) _
      refine XS.iconst X54.here hx rfl (hb hby at_14) ?_
      show Steps p.tables e below (T54.setTop (mkF m 15 #[.val (.int p0), .val (.int (15 : Int32)), .val (.ref s_SINGLE_QUOTE), .unset] [(.int (1 : Int32)), (.int (15 : Int32))])) _
      refine XS.icmpNo X54.here hx rfl (hb hby at_15) rfl (flt (by decide : ¬ ((15 : Int32) < (1 : Int32)))).1 ?_
      show Steps p.tables e below (T54.setTop (mkF m 18 #[.val (.int p0), .val (.int (15 : Int32)), .val (.ref s_SINGLE_QUOTE), .unset] [])) _
      refine XS.iloadN X54.here hx rfl (hb hby at_18) rfl  ?_
      show Steps p.tables e below (T54.setTop (mkF m 19 #[.val (.int p0), .val (.int (15 : Int32)), .val (.ref s_SINGLE_QUOTE), .unset] [(.int (15 : Int32))])) _
      refine XS.iconst X54.here hx rfl (hb hby at_19) ?_
      show Steps p.tables e below (T54.setTop (mkF m 20 #[.val (.int p0), .val (.int (15 : Int32)), .val (.ref s_SINGLE_QUOTE), .unset] [(.int (3 : Int32)), (.int (15 : Int32))])) _
      refine XS.icmpYes X54.here hx rfl (pc0 := 20) (pc' := 27) rfl (hb hby at_20) rfl (tlt (by decide : ((3 : Int32) < (15 : Int32)))).2.2.1 (by decide) (by decide) ?_
      show Steps p.tables e below (T54.setTop (mkF m 27 #[.val (.int p0), .val (.int (15 : Int32)), .val (.ref s_SINGLE_QUOTE), .unset] [])) _
      refine XS.iconst X54.here hx rfl (hb hby at_27) ?_
      show Steps p.tables e below (T54.setTop (mkF m 28 #[.val (.int p0), .val (.int (15 : Int32)), .val (.ref s_SINGLE_QUOTE), .unset] [(.int (0 : Int32))])) _
      refine XS.istoreN X54.here hx rfl (hb hby at_28) rfl (l' := #[.val (.int p0), .val (.int (15 : Int32)), .val (.ref s_SINGLE_QUOTE), .val (.int (0 : Int32))]) rfl ?_
      show Steps p.tables e below (T54.setTop (mkF m 29 #[.val (.int p0), .val (.int (15 : Int32)), .val (.ref s_SINGLE_QUOTE), .val (.int (0 : Int32))] [])) _
      refine XS.aloadN X54.here hx rfl (hb hby at_29) rfl rfl ?_
      show Steps p.tables e below (T54.setTop (mkF m 30 #[.val (.int p0), .val (.int (15 : Int32)), .val (.ref s_SINGLE_QUOTE), .val (.int (0 : Int32))] [(.ref s_SINGLE_QUOTE)])) _
      exact k
    obtain ⟨cq55, kq55, q55a, q55b, q55c⟩ := isOf hZ e54 (E_SINGLE_QUOTE.ext O0.2)
    obtain ⟨_, _, ⟨T55, L55, k55, n55⟩, -, X55, ⟨Lc55, hQ55, l55, y55, z55⟩, st55⟩ := X54.virtualBack hx (y := (⟨"com/example/hits_from_terms/hitsfromterms/analysis/WordBreak", "isLineBreak", "()Z"⟩ : MethodName)) (z := (⟨"com/example/hits_from_terms/hitsfromterms/analysis/WordBreak", "isLineBreak", "()Z"⟩ : MethodName)) hown (mvT hZ (hw _ (List.mem_of_getElem? (i := 8) rfl))) (mvT hZ (hw _ (List.mem_of_getElem? (i := 9) rfl))) (notFace_of_selects (args := #[]) (mvT hZ (hw _ (List.mem_of_getElem? (i := 11) rfl)))) (mvT hZ (hw _ (List.mem_of_getElem? (i := 11) rfl))) (mvT hZ (hw _ (List.mem_of_getElem? (i := 10) rfl))) (by decide) (backOf (W := 0) (rm2 l Z a0 hw [] s_OTHER s_CR s_LF s_NEWLINE s_SINGLE_QUOTE s_FORMAT s_REGIONAL_INDICATOR s_ALETTER s_EXTEND_NUM_LET s_KATAKANA s_HEBREW_LETTER s_MID_NUM_LET s_WSEG_SPACE s_ZWJ s_DOUBLE_QUOTE s_EXTEND s_NUMERIC s_MID_LETTER s_MID_NUM s_VALUES k_VALUES HW s_SINGLE_QUOTE h0 n0 O0) hZ (hw _ (List.mem_of_getElem? (i := 12) rfl)) (hw _ (List.mem_of_getElem? (i := 3) rfl)) (by decide) (by decide)) q55a q55c (g := (mkF m 30 #[.val (.int p0), .val (.int (15 : Int32)), .val (.ref s_SINGLE_QUOTE), .val (.int (0 : Int32))] [(.ref s_SINGLE_QUOTE)])) rfl (by rw [hml]; rfl) (Steps.refl _) (argsL := []) (rest := []) (lenOf own_pd18 rfl) rfl (by show 2 * 0 + _ ≤ _; exact Nat.le_of_eq rfl) (hb hby at_30) (fun _ _ => ⟨rfl, e54, (by decide : 0 + 0 ≤ _), (by decide : 0 + 0 ≤ _)⟩)
    dsimp only [Pt.U, Pt.locs, Pt.cells, Pt.slots] at X55 l55 y55 z55 st55 hQ55
    subst l55 y55 z55
    obtain ⟨rfl, N55q, e55⟩ := hQ55
    have N55 := Fr.app N54 N55q
    refine Go.st (V' := T55.setTop (mkF m 33 #[.val (.int p0), .val (.int (15 : Int32)), .val (.ref s_SINGLE_QUOTE), .val (.int (0 : Int32))] [(.int (f2 s_CR s_LF s_NEWLINE s_SINGLE_QUOTE))])) (fun t k => st55.trans k) ?_
    have r56 : (f2 s_CR s_LF s_NEWLINE s_SINGLE_QUOTE) = (0 : Int32) := by rw [f2, if_neg (Fld.ne (F_SINGLE_QUOTE_ordinal.ext O0.2) (F_CR_ordinal.ext O0.2) (by decide)), if_neg (Fld.ne (F_SINGLE_QUOTE_ordinal.ext O0.2) (F_LF_ordinal.ext O0.2) (by decide)), if_neg (Fld.ne (F_SINGLE_QUOTE_ordinal.ext O0.2) (F_NEWLINE_ordinal.ext O0.2) (by decide))]
    rw [r56]
    refine Go.st (V' := T55.setTop (mkF m 42 #[.val (.int p0), .val (.int (15 : Int32)), .val (.ref s_SINGLE_QUOTE), .val (.int (0 : Int32))] [(.int (1 : Int32))])) (fun t k => ?_) ?_
    · refine XS.iloadN X55.here hx rfl (hb hby at_33) rfl  ?_
      show Steps p.tables e below (T55.setTop (mkF m 34 #[.val (.int p0), .val (.int (15 : Int32)), .val (.ref s_SINGLE_QUOTE), .val (.int (0 : Int32))] [(.int (0 : Int32)), (.int (0 : Int32))])) _
      refine XS.icmpNo X55.here hx rfl (hb hby at_34) rfl (teq (by decide : ((0 : Int32) = (0 : Int32)))).2 ?_
      show Steps p.tables e below (T55.setTop (mkF m 37 #[.val (.int p0), .val (.int (15 : Int32)), .val (.ref s_SINGLE_QUOTE), .val (.int (0 : Int32))] [])) _
      refine XS.iconst X55.here hx rfl (hb hby at_37) ?_
      show Steps p.tables e below (T55.setTop (mkF m 38 #[.val (.int p0), .val (.int (15 : Int32)), .val (.ref s_SINGLE_QUOTE), .val (.int (0 : Int32))] [(.int (1 : Int32))])) _
      refine XS.goto X55.here hx rfl (pc0 := 38) (pc' := 42) rfl (hb hby at_38) (by decide) (by decide) ?_
      show Steps p.tables e below (T55.setTop (mkF m 42 #[.val (.int p0), .val (.int (15 : Int32)), .val (.ref s_SINGLE_QUOTE), .val (.int (0 : Int32))] [(.int (1 : Int32))])) _
      exact k
    obtain ⟨fs, hr, hrun, hended, hW, hsame⟩ := X55.leave (v := some (.int (1 : Int32))) (fun h => by rw [Bd.returns] at h; cases h)
    refine Go.mk' ⟨_, _, retN X55 hx (t := .boolean) Bd.returns (by simp) (hb hby at_42) hr, hrun, hended, _, _, rfl, ?_, ⟨_, rfl⟩, hW, hsame.mono (by decide) (by decide)⟩
    show Q0 Z p0 h0 n0 _ T55.heap _
    rw [e55]
    exact ⟨rfl, N55⟩
  · show Go p e below _ (s₁.setTop (mkF m 8 #[.val (.int p0), .val (.int (16 : Int32)), .unset, .unset] []))
    refine Go.st (V' := s₁.setTop (mkF m 9 #[.val (.int p0), .val (.int (16 : Int32)), .unset, .unset] [(.int (16 : Int32))])) (fun t k => ?_) ?_
    · refine XS.iloadN X0.here hx rfl (hb hby at_8) rfl  ?_
      show Steps p.tables e below (s₁.setTop (mkF m 9 #[.val (.int p0), .val (.int (16 : Int32)), .unset, .unset] [(.int (16 : Int32))])) _
      exact k
    obtain ⟨_, _, ⟨T57, L57, k57, n57⟩, -, X57, ⟨Lc57, hQ57, l57, y57, z57⟩, st57⟩ := Jvm.LawKit.callS X0 hx (y := (⟨"com/example/hits_from_terms/hitsfromterms/analysis/WordBreak", "forOrdinal", "(I)Lcom/example/hits_from_terms/hitsfromterms/analysis/WordBreak;"⟩ : MethodName)) hown (mvT hZ (hw _ (List.mem_of_getElem? (i := 1) rfl))) (mvT hZ (hw _ (List.mem_of_getElem? (i := 2) rfl))) (mvT hZ (hw _ (List.mem_of_getElem? (i := 3) rfl))) (mvT hZ (hw _ (List.mem_of_getElem? (i := 4) rfl))) (by decide) (backOf (W := 0) (rm1 l Z a0 hw [] s_OTHER s_CR s_LF s_NEWLINE s_SINGLE_QUOTE s_FORMAT s_REGIONAL_INDICATOR s_ALETTER s_EXTEND_NUM_LET s_KATAKANA s_HEBREW_LETTER s_MID_NUM_LET s_WSEG_SPACE s_ZWJ s_DOUBLE_QUOTE s_EXTEND s_NUMERIC s_MID_LETTER s_MID_NUM s_VALUES k_VALUES HW (16 : Int32) s_DOUBLE_QUOTE h0 n0 O0 ⟨by decide, by decide⟩ rfl) hZ (hw _ (List.mem_of_getElem? (i := 4) rfl)) (hw _ (List.mem_of_getElem? (i := 3) rfl)) (by decide) (by decide)) (g := (mkF m 9 #[.val (.int p0), .val (.int (16 : Int32)), .unset, .unset] [(.int (16 : Int32))])) rfl (by rw [hml]; rfl) (argsL := [(.int (16 : Int32))]) (rest := []) (lenOf own_pd17 rfl) rfl (by show 2 * 0 + _ ≤ _; exact Nat.le_of_eq rfl) (hb hby at_9) (fun _ _ => ⟨rfl, e0, (by decide : 0 + 0 ≤ _), (by decide : 0 + 0 ≤ _)⟩)
    dsimp only [Pt.U, Pt.locs, Pt.cells, Pt.slots] at X57 l57 y57 z57 st57 hQ57
    subst l57 y57 z57
    obtain ⟨rfl, N57q, e57⟩ := hQ57
    have N57 := Fr.app N0 N57q
    refine Go.st (V' := T57.setTop (mkF m 12 #[.val (.int p0), .val (.int (16 : Int32)), .unset, .unset] [(.ref s_DOUBLE_QUOTE)])) (fun t k => st57 t k) ?_
    refine Go.st (V' := T57.setTop (mkF m 30 #[.val (.int p0), .val (.int (16 : Int32)), .val (.ref s_DOUBLE_QUOTE), .val (.int (0 : Int32))] [(.ref s_DOUBLE_QUOTE)])) (fun t k => ?_) ?_
    · refine XS.astoreN X57.here hx rfl (hb hby at_12) rfl rfl (l' := #[.val (.int p0), .val (.int (16 : Int32)), .val (.ref s_DOUBLE_QUOTE), .unset]) rfl ?_
      show Steps p.tables e below (T57.setTop (mkF m 13 #[.val (.int p0), .val (.int (16 : Int32)), .val (.ref s_DOUBLE_QUOTE), .unset] [])) _
      refine XS.iloadN X57.here hx rfl (hb hby at_13) rfl  ?_
      show Steps p.tables e below (T57.setTop (mkF m 14 #[.val (.int p0), .val (.int (16 : Int32)), .val (.ref s_DOUBLE_QUOTE), .unset] [(.int (16 : Int32))])) _
      refine XS.iconst X57.here hx rfl (hb hby at_14) ?_
      show Steps p.tables e below (T57.setTop (mkF m 15 #[.val (.int p0), .val (.int (16 : Int32)), .val (.ref s_DOUBLE_QUOTE), .unset] [(.int (1 : Int32)), (.int (16 : Int32))])) _
      refine XS.icmpNo X57.here hx rfl (hb hby at_15) rfl (flt (by decide : ¬ ((16 : Int32) < (1 : Int32)))).1 ?_
      show Steps p.tables e below (T57.setTop (mkF m 18 #[.val (.int p0), .val (.int (16 : Int32)), .val (.ref s_DOUBLE_QUOTE), .unset] [])) _
      refine XS.iloadN X57.here hx rfl (hb hby at_18) rfl  ?_
      show Steps p.tables e below (T57.setTop (mkF m 19 #[.val (.int p0), .val (.int (16 : Int32)), .val (.ref s_DOUBLE_QUOTE), .unset] [(.int (16 : Int32))])) _
      refine XS.iconst X57.here hx rfl (hb hby at_19) ?_
      show Steps p.tables e below (T57.setTop (mkF m 20 #[.val (.int p0), .val (.int (16 : Int32)), .val (.ref s_DOUBLE_QUOTE), .unset] [(.int (3 : Int32)), (.int (16 : Int32))])) _
      refine XS.icmpYes X57.here hx rfl (pc0 := 20) (pc' := 27) rfl (hb hby at_20) rfl (tlt (by decide : ((3 : Int32) < (16 : Int32)))).2.2.1 (by decide) (by decide) ?_
      show Steps p.tables e below (T57.setTop (mkF m 27 #[.val (.int p0), .val (.int (16 : Int32)), .val (.ref s_DOUBLE_QUOTE), .unset] [])) _
      refine XS.iconst X57.here hx rfl (hb hby at_27) ?_
      show Steps p.tables e below (T57.setTop (mkF m 28 #[.val (.int p0), .val (.int (16 : Int32)), .val (.ref s_DOUBLE_QUOTE), .unset] [(.int (0 : Int32))])) _
      refine XS.istoreN X57.here hx rfl (hb hby at_28) rfl (l' := #[.val (.int p0), .val (.int (16 : Int32)), .val (.ref s_DOUBLE_QUOTE), .val (.int (0 : Int32))]) rfl ?_
      show Steps p.tables e below (T57.setTop (mkF m 29 #[.val (.int p0), .val (.int (16 : Int32)), .val (.ref s_DOUBLE_QUOTE), .val (.int (0 : Int32))] [])) _
      refine XS.aloadN X57.here hx rfl (hb hby at_29) rfl rfl ?_
      show Steps p.tables e below (T57.setTop (mkF m 30 #[.val (.int p0), .val (.int (16 : Int32)), .val (.ref s_DOUBLE_QUOTE), .val (.int (0 : Int32))] [(.ref s_DOUBLE_QUOTE)])) _
      exact k
    obtain ⟨cq58, kq58, q58a, q58b, q58c⟩ := isOf hZ e57 (E_DOUBLE_QUOTE.ext O0.2)
    obtain ⟨_, _, ⟨T58, L58, k58, n58⟩, -, X58, ⟨Lc58, hQ58, l58, y58, z58⟩, st58⟩ := X57.virtualBack hx (y := (⟨"com/example/hits_from_terms/hitsfromterms/analysis/WordBreak", "isLineBreak", "()Z"⟩ : MethodName)) (z := (⟨"com/example/hits_from_terms/hitsfromterms/analysis/WordBreak", "isLineBreak", "()Z"⟩ : MethodName)) hown (mvT hZ (hw _ (List.mem_of_getElem? (i := 8) rfl))) (mvT hZ (hw _ (List.mem_of_getElem? (i := 9) rfl))) (notFace_of_selects (args := #[]) (mvT hZ (hw _ (List.mem_of_getElem? (i := 11) rfl)))) (mvT hZ (hw _ (List.mem_of_getElem? (i := 11) rfl))) (mvT hZ (hw _ (List.mem_of_getElem? (i := 10) rfl))) (by decide) (backOf (W := 0) (rm2 l Z a0 hw [] s_OTHER s_CR s_LF s_NEWLINE s_SINGLE_QUOTE s_FORMAT s_REGIONAL_INDICATOR s_ALETTER s_EXTEND_NUM_LET s_KATAKANA s_HEBREW_LETTER s_MID_NUM_LET s_WSEG_SPACE s_ZWJ s_DOUBLE_QUOTE s_EXTEND s_NUMERIC s_MID_LETTER s_MID_NUM s_VALUES k_VALUES HW s_DOUBLE_QUOTE h0 n0 O0) hZ (hw _ (List.mem_of_getElem? (i := 12) rfl)) (hw _ (List.mem_of_getElem? (i := 3) rfl)) (by decide) (by decide)) q58a q58c (g := (mkF m 30 #[.val (.int p0), .val (.int (16 : Int32)), .val (.ref s_DOUBLE_QUOTE), .val (.int (0 : Int32))] [(.ref s_DOUBLE_QUOTE)])) rfl (by rw [hml]; rfl) (Steps.refl _) (argsL := []) (rest := []) (lenOf own_pd18 rfl) rfl (by show 2 * 0 + _ ≤ _; exact Nat.le_of_eq rfl) (hb hby at_30) (fun _ _ => ⟨rfl, e57, (by decide : 0 + 0 ≤ _), (by decide : 0 + 0 ≤ _)⟩)
    dsimp only [Pt.U, Pt.locs, Pt.cells, Pt.slots] at X58 l58 y58 z58 st58 hQ58
    subst l58 y58 z58
    obtain ⟨rfl, N58q, e58⟩ := hQ58
    have N58 := Fr.app N57 N58q
    refine Go.st (V' := T58.setTop (mkF m 33 #[.val (.int p0), .val (.int (16 : Int32)), .val (.ref s_DOUBLE_QUOTE), .val (.int (0 : Int32))] [(.int (f2 s_CR s_LF s_NEWLINE s_DOUBLE_QUOTE))])) (fun t k => st58.trans k) ?_
    have r59 : (f2 s_CR s_LF s_NEWLINE s_DOUBLE_QUOTE) = (0 : Int32) := by rw [f2, if_neg (Fld.ne (F_DOUBLE_QUOTE_ordinal.ext O0.2) (F_CR_ordinal.ext O0.2) (by decide)), if_neg (Fld.ne (F_DOUBLE_QUOTE_ordinal.ext O0.2) (F_LF_ordinal.ext O0.2) (by decide)), if_neg (Fld.ne (F_DOUBLE_QUOTE_ordinal.ext O0.2) (F_NEWLINE_ordinal.ext O0.2) (by decide))]
    rw [r59]
    refine Go.st (V' := T58.setTop (mkF m 42 #[.val (.int p0), .val (.int (16 : Int32)), .val (.ref s_DOUBLE_QUOTE), .val (.int (0 : Int32))] [(.int (1 : Int32))])) (fun t k => ?_) ?_
    · refine XS.iloadN X58.here hx rfl (hb hby at_33) rfl  ?_
      show Steps p.tables e below (T58.setTop (mkF m 34 #[.val (.int p0), .val (.int (16 : Int32)), .val (.ref s_DOUBLE_QUOTE), .val (.int (0 : Int32))] [(.int (0 : Int32)), (.int (0 : Int32))])) _
      refine XS.icmpNo X58.here hx rfl (hb hby at_34) rfl (teq (by decide : ((0 : Int32) = (0 : Int32)))).2 ?_
      show Steps p.tables e below (T58.setTop (mkF m 37 #[.val (.int p0), .val (.int (16 : Int32)), .val (.ref s_DOUBLE_QUOTE), .val (.int (0 : Int32))] [])) _
      refine XS.iconst X58.here hx rfl (hb hby at_37) ?_
      show Steps p.tables e below (T58.setTop (mkF m 38 #[.val (.int p0), .val (.int (16 : Int32)), .val (.ref s_DOUBLE_QUOTE), .val (.int (0 : Int32))] [(.int (1 : Int32))])) _
      refine XS.goto X58.here hx rfl (pc0 := 38) (pc' := 42) rfl (hb hby at_38) (by decide) (by decide) ?_
      show Steps p.tables e below (T58.setTop (mkF m 42 #[.val (.int p0), .val (.int (16 : Int32)), .val (.ref s_DOUBLE_QUOTE), .val (.int (0 : Int32))] [(.int (1 : Int32))])) _
      exact k
    obtain ⟨fs, hr, hrun, hended, hW, hsame⟩ := X58.leave (v := some (.int (1 : Int32))) (fun h => by rw [Bd.returns] at h; cases h)
    refine Go.mk' ⟨_, _, retN X58 hx (t := .boolean) Bd.returns (by simp) (hb hby at_42) hr, hrun, hended, _, _, rfl, ?_, ⟨_, rfl⟩, hW, hsame.mono (by decide) (by decide)⟩
    show Q0 Z p0 h0 n0 _ T58.heap _
    rw [e58]
    exact ⟨rfl, N58⟩
  · show Go p e below _ (s₁.setTop (mkF m 8 #[.val (.int p0), .val (.int (17 : Int32)), .unset, .unset] []))
    refine Go.st (V' := s₁.setTop (mkF m 9 #[.val (.int p0), .val (.int (17 : Int32)), .unset, .unset] [(.int (17 : Int32))])) (fun t k => ?_) ?_
    · refine XS.iloadN X0.here hx rfl (hb hby at_8) rfl  ?_
      show Steps p.tables e below (s₁.setTop (mkF m 9 #[.val (.int p0), .val (.int (17 : Int32)), .unset, .unset] [(.int (17 : Int32))])) _
      exact k
    obtain ⟨_, _, ⟨T60, L60, k60, n60⟩, -, X60, ⟨Lc60, hQ60, l60, y60, z60⟩, st60⟩ := Jvm.LawKit.callS X0 hx (y := (⟨"com/example/hits_from_terms/hitsfromterms/analysis/WordBreak", "forOrdinal", "(I)Lcom/example/hits_from_terms/hitsfromterms/analysis/WordBreak;"⟩ : MethodName)) hown (mvT hZ (hw _ (List.mem_of_getElem? (i := 1) rfl))) (mvT hZ (hw _ (List.mem_of_getElem? (i := 2) rfl))) (mvT hZ (hw _ (List.mem_of_getElem? (i := 3) rfl))) (mvT hZ (hw _ (List.mem_of_getElem? (i := 4) rfl))) (by decide) (backOf (W := 0) (rm1 l Z a0 hw [] s_OTHER s_CR s_LF s_NEWLINE s_SINGLE_QUOTE s_FORMAT s_REGIONAL_INDICATOR s_ALETTER s_EXTEND_NUM_LET s_KATAKANA s_HEBREW_LETTER s_MID_NUM_LET s_WSEG_SPACE s_ZWJ s_DOUBLE_QUOTE s_EXTEND s_NUMERIC s_MID_LETTER s_MID_NUM s_VALUES k_VALUES HW (17 : Int32) s_REGIONAL_INDICATOR h0 n0 O0 ⟨by decide, by decide⟩ rfl) hZ (hw _ (List.mem_of_getElem? (i := 4) rfl)) (hw _ (List.mem_of_getElem? (i := 3) rfl)) (by decide) (by decide)) (g := (mkF m 9 #[.val (.int p0), .val (.int (17 : Int32)), .unset, .unset] [(.int (17 : Int32))])) rfl (by rw [hml]; rfl) (argsL := [(.int (17 : Int32))]) (rest := []) (lenOf own_pd17 rfl) rfl (by show 2 * 0 + _ ≤ _; exact Nat.le_of_eq rfl) (hb hby at_9) (fun _ _ => ⟨rfl, e0, (by decide : 0 + 0 ≤ _), (by decide : 0 + 0 ≤ _)⟩)
    dsimp only [Pt.U, Pt.locs, Pt.cells, Pt.slots] at X60 l60 y60 z60 st60 hQ60
    subst l60 y60 z60
    obtain ⟨rfl, N60q, e60⟩ := hQ60
    have N60 := Fr.app N0 N60q
    refine Go.st (V' := T60.setTop (mkF m 12 #[.val (.int p0), .val (.int (17 : Int32)), .unset, .unset] [(.ref s_REGIONAL_INDICATOR)])) (fun t k => st60 t k) ?_
    refine Go.st (V' := T60.setTop (mkF m 30 #[.val (.int p0), .val (.int (17 : Int32)), .val (.ref s_REGIONAL_INDICATOR), .val (.int (0 : Int32))] [(.ref s_REGIONAL_INDICATOR)])) (fun t k => ?_) ?_
    · refine XS.astoreN X60.here hx rfl (hb hby at_12) rfl rfl (l' := #[.val (.int p0), .val (.int (17 : Int32)), .val (.ref s_REGIONAL_INDICATOR), .unset]) rfl ?_
      show Steps p.tables e below (T60.setTop (mkF m 13 #[.val (.int p0), .val (.int (17 : Int32)), .val (.ref s_REGIONAL_INDICATOR), .unset] [])) _
      refine XS.iloadN X60.here hx rfl (hb hby at_13) rfl  ?_
      show Steps p.tables e below (T60.setTop (mkF m 14 #[.val (.int p0), .val (.int (17 : Int32)), .val (.ref s_REGIONAL_INDICATOR), .unset] [(.int (17 : Int32))])) _
      refine XS.iconst X60.here hx rfl (hb hby at_14) ?_
      show Steps p.tables e below (T60.setTop (mkF m 15 #[.val (.int p0), .val (.int (17 : Int32)), .val (.ref s_REGIONAL_INDICATOR), .unset] [(.int (1 : Int32)), (.int (17 : Int32))])) _
      refine XS.icmpNo X60.here hx rfl (hb hby at_15) rfl (flt (by decide : ¬ ((17 : Int32) < (1 : Int32)))).1 ?_
      show Steps p.tables e below (T60.setTop (mkF m 18 #[.val (.int p0), .val (.int (17 : Int32)), .val (.ref s_REGIONAL_INDICATOR), .unset] [])) _
      refine XS.iloadN X60.here hx rfl (hb hby at_18) rfl  ?_
      show Steps p.tables e below (T60.setTop (mkF m 19 #[.val (.int p0), .val (.int (17 : Int32)), .val (.ref s_REGIONAL_INDICATOR), .unset] [(.int (17 : Int32))])) _
      refine XS.iconst X60.here hx rfl (hb hby at_19) ?_
      show Steps p.tables e below (T60.setTop (mkF m 20 #[.val (.int p0), .val (.int (17 : Int32)), .val (.ref s_REGIONAL_INDICATOR), .unset] [(.int (3 : Int32)), (.int (17 : Int32))])) _
      refine XS.icmpYes X60.here hx rfl (pc0 := 20) (pc' := 27) rfl (hb hby at_20) rfl (tlt (by decide : ((3 : Int32) < (17 : Int32)))).2.2.1 (by decide) (by decide) ?_
      show Steps p.tables e below (T60.setTop (mkF m 27 #[.val (.int p0), .val (.int (17 : Int32)), .val (.ref s_REGIONAL_INDICATOR), .unset] [])) _
      refine XS.iconst X60.here hx rfl (hb hby at_27) ?_
      show Steps p.tables e below (T60.setTop (mkF m 28 #[.val (.int p0), .val (.int (17 : Int32)), .val (.ref s_REGIONAL_INDICATOR), .unset] [(.int (0 : Int32))])) _
      refine XS.istoreN X60.here hx rfl (hb hby at_28) rfl (l' := #[.val (.int p0), .val (.int (17 : Int32)), .val (.ref s_REGIONAL_INDICATOR), .val (.int (0 : Int32))]) rfl ?_
      show Steps p.tables e below (T60.setTop (mkF m 29 #[.val (.int p0), .val (.int (17 : Int32)), .val (.ref s_REGIONAL_INDICATOR), .val (.int (0 : Int32))] [])) _
      refine XS.aloadN X60.here hx rfl (hb hby at_29) rfl rfl ?_
      show Steps p.tables e below (T60.setTop (mkF m 30 #[.val (.int p0), .val (.int (17 : Int32)), .val (.ref s_REGIONAL_INDICATOR), .val (.int (0 : Int32))] [(.ref s_REGIONAL_INDICATOR)])) _
      exact k
    obtain ⟨cq61, kq61, q61a, q61b, q61c⟩ := isOf hZ e60 (E_REGIONAL_INDICATOR.ext O0.2)
    obtain ⟨_, _, ⟨T61, L61, k61, n61⟩, -, X61, ⟨Lc61, hQ61, l61, y61, z61⟩, st61⟩ := X60.virtualBack hx (y := (⟨"com/example/hits_from_terms/hitsfromterms/analysis/WordBreak", "isLineBreak", "()Z"⟩ : MethodName)) (z := (⟨"com/example/hits_from_terms/hitsfromterms/analysis/WordBreak", "isLineBreak", "()Z"⟩ : MethodName)) hown (mvT hZ (hw _ (List.mem_of_getElem? (i := 8) rfl))) (mvT hZ (hw _ (List.mem_of_getElem? (i := 9) rfl))) (notFace_of_selects (args := #[]) (mvT hZ (hw _ (List.mem_of_getElem? (i := 11) rfl)))) (mvT hZ (hw _ (List.mem_of_getElem? (i := 11) rfl))) (mvT hZ (hw _ (List.mem_of_getElem? (i := 10) rfl))) (by decide) (backOf (W := 0) (rm2 l Z a0 hw [] s_OTHER s_CR s_LF s_NEWLINE s_SINGLE_QUOTE s_FORMAT s_REGIONAL_INDICATOR s_ALETTER s_EXTEND_NUM_LET s_KATAKANA s_HEBREW_LETTER s_MID_NUM_LET s_WSEG_SPACE s_ZWJ s_DOUBLE_QUOTE s_EXTEND s_NUMERIC s_MID_LETTER s_MID_NUM s_VALUES k_VALUES HW s_REGIONAL_INDICATOR h0 n0 O0) hZ (hw _ (List.mem_of_getElem? (i := 12) rfl)) (hw _ (List.mem_of_getElem? (i := 3) rfl)) (by decide) (by decide)) q61a q61c (g := (mkF m 30 #[.val (.int p0), .val (.int (17 : Int32)), .val (.ref s_REGIONAL_INDICATOR), .val (.int (0 : Int32))] [(.ref s_REGIONAL_INDICATOR)])) rfl (by rw [hml]; rfl) (Steps.refl _) (argsL := []) (rest := []) (lenOf own_pd18 rfl) rfl (by show 2 * 0 + _ ≤ _; exact Nat.le_of_eq rfl) (hb hby at_30) (fun _ _ => ⟨rfl, e60, (by decide : 0 + 0 ≤ _), (by decide : 0 + 0 ≤ _)⟩)
    dsimp only [Pt.U, Pt.locs, Pt.cells, Pt.slots] at X61 l61 y61 z61 st61 hQ61
    subst l61 y61 z61
    obtain ⟨rfl, N61q, e61⟩ := hQ61
    have N61 := Fr.app N60 N61q
    refine Go.st (V' := T61.setTop (mkF m 33 #[.val (.int p0), .val (.int (17 : Int32)), .val (.ref s_REGIONAL_INDICATOR), .val (.int (0 : Int32))] [(.int (f2 s_CR s_LF s_NEWLINE s_REGIONAL_INDICATOR))])) (fun t k => st61.trans k) ?_
    have r62 : (f2 s_CR s_LF s_NEWLINE s_REGIONAL_INDICATOR) = (0 : Int32) := by rw [f2, if_neg (Fld.ne (F_REGIONAL_INDICATOR_ordinal.ext O0.2) (F_CR_ordinal.ext O0.2) (by decide)), if_neg (Fld.ne (F_REGIONAL_INDICATOR_ordinal.ext O0.2) (F_LF_ordinal.ext O0.2) (by decide)), if_neg (Fld.ne (F_REGIONAL_INDICATOR_ordinal.ext O0.2) (F_NEWLINE_ordinal.ext O0.2) (by decide))]
    rw [r62]
    refine Go.st (V' := T61.setTop (mkF m 42 #[.val (.int p0), .val (.int (17 : Int32)), .val (.ref s_REGIONAL_INDICATOR), .val (.int (0 : Int32))] [(.int (1 : Int32))])) (fun t k => ?_) ?_
    · refine XS.iloadN X61.here hx rfl (hb hby at_33) rfl  ?_
      show Steps p.tables e below (T61.setTop (mkF m 34 #[.val (.int p0), .val (.int (17 : Int32)), .val (.ref s_REGIONAL_INDICATOR), .val (.int (0 : Int32))] [(.int (0 : Int32)), (.int (0 : Int32))])) _
      refine XS.icmpNo X61.here hx rfl (hb hby at_34) rfl (teq (by decide : ((0 : Int32) = (0 : Int32)))).2 ?_
      show Steps p.tables e below (T61.setTop (mkF m 37 #[.val (.int p0), .val (.int (17 : Int32)), .val (.ref s_REGIONAL_INDICATOR), .val (.int (0 : Int32))] [])) _
      refine XS.iconst X61.here hx rfl (hb hby at_37) ?_
      show Steps p.tables e below (T61.setTop (mkF m 38 #[.val (.int p0), .val (.int (17 : Int32)), .val (.ref s_REGIONAL_INDICATOR), .val (.int (0 : Int32))] [(.int (1 : Int32))])) _
      refine XS.goto X61.here hx rfl (pc0 := 38) (pc' := 42) rfl (hb hby at_38) (by decide) (by decide) ?_
      show Steps p.tables e below (T61.setTop (mkF m 42 #[.val (.int p0), .val (.int (17 : Int32)), .val (.ref s_REGIONAL_INDICATOR), .val (.int (0 : Int32))] [(.int (1 : Int32))])) _
      exact k
    obtain ⟨fs, hr, hrun, hended, hW, hsame⟩ := X61.leave (v := some (.int (1 : Int32))) (fun h => by rw [Bd.returns] at h; cases h)
    refine Go.mk' ⟨_, _, retN X61 hx (t := .boolean) Bd.returns (by simp) (hb hby at_42) hr, hrun, hended, _, _, rfl, ?_, ⟨_, rfl⟩, hW, hsame.mono (by decide) (by decide)⟩
    show Q0 Z p0 h0 n0 _ T61.heap _
    rw [e61]
    exact ⟨rfl, N61⟩
  · show Go p e below _ (s₁.setTop (mkF m 8 #[.val (.int p0), .val (.int (18 : Int32)), .unset, .unset] []))
    refine Go.st (V' := s₁.setTop (mkF m 9 #[.val (.int p0), .val (.int (18 : Int32)), .unset, .unset] [(.int (18 : Int32))])) (fun t k => ?_) ?_
    · refine XS.iloadN X0.here hx rfl (hb hby at_8) rfl  ?_
      show Steps p.tables e below (s₁.setTop (mkF m 9 #[.val (.int p0), .val (.int (18 : Int32)), .unset, .unset] [(.int (18 : Int32))])) _
      exact k
    obtain ⟨_, _, ⟨T63, L63, k63, n63⟩, -, X63, ⟨Lc63, hQ63, l63, y63, z63⟩, st63⟩ := Jvm.LawKit.callS X0 hx (y := (⟨"com/example/hits_from_terms/hitsfromterms/analysis/WordBreak", "forOrdinal", "(I)Lcom/example/hits_from_terms/hitsfromterms/analysis/WordBreak;"⟩ : MethodName)) hown (mvT hZ (hw _ (List.mem_of_getElem? (i := 1) rfl))) (mvT hZ (hw _ (List.mem_of_getElem? (i := 2) rfl))) (mvT hZ (hw _ (List.mem_of_getElem? (i := 3) rfl))) (mvT hZ (hw _ (List.mem_of_getElem? (i := 4) rfl))) (by decide) (backOf (W := 0) (rm1 l Z a0 hw [] s_OTHER s_CR s_LF s_NEWLINE s_SINGLE_QUOTE s_FORMAT s_REGIONAL_INDICATOR s_ALETTER s_EXTEND_NUM_LET s_KATAKANA s_HEBREW_LETTER s_MID_NUM_LET s_WSEG_SPACE s_ZWJ s_DOUBLE_QUOTE s_EXTEND s_NUMERIC s_MID_LETTER s_MID_NUM s_VALUES k_VALUES HW (18 : Int32) s_WSEG_SPACE h0 n0 O0 ⟨by decide, by decide⟩ rfl) hZ (hw _ (List.mem_of_getElem? (i := 4) rfl)) (hw _ (List.mem_of_getElem? (i := 3) rfl)) (by decide) (by decide)) (g := (mkF m 9 #[.val (.int p0), .val (.int (18 : Int32)), .unset, .unset] [(.int (18 : Int32))])) rfl (by rw [hml]; rfl) (argsL := [(.int (18 : Int32))]) (rest := []) (lenOf own_pd17 rfl) rfl (by show 2 * 0 + _ ≤ _; exact Nat.le_of_eq rfl) (hb hby at_9) (fun _ _ => ⟨rfl, e0, (by decide : 0 + 0 ≤ _), (by decide : 0 + 0 ≤ _)⟩)
    dsimp only [Pt.U, Pt.locs, Pt.cells, Pt.slots] at X63 l63 y63 z63 st63 hQ63
    subst l63 y63 z63
    obtain ⟨rfl, N63q, e63⟩ := hQ63
    have N63 := Fr.app N0 N63q
    refine Go.st (V' := T63.setTop (mkF m 12 #[.val (.int p0), .val (.int (18 : Int32)), .unset, .unset] [(.ref s_WSEG_SPACE)])) (fun t k => st63 t k) ?_
    refine Go.st (V' := T63.setTop (mkF m 30 #[.val (.int p0), .val (.int (18 : Int32)), .val (.ref s_WSEG_SPACE), .val (.int (0 : Int32))] [(.ref s_WSEG_SPACE)])) (fun t k => ?_) ?_
    · refine XS.astoreN X63.here hx rfl (hb hby at_12) rfl rfl (l' := #[.val (.int p0), .val (.int (18 : Int32)), .val (.ref s_WSEG_SPACE), .unset]) rfl ?_
      show Steps p.tables e below (T63.setTop (mkF m 13 #[.val (.int p0), .val (.int (18 : Int32)), .val (.ref s_WSEG_SPACE), .unset] [])) _
      refine XS.iloadN X63.here hx rfl (hb hby at_13) rfl  ?_
      show Steps p.tables e below (T63.setTop (mkF m 14 #[.val (.int p0), .val (.int (18 : Int32)), .val (.ref s_WSEG_SPACE), .unset] [(.int (18 : Int32))])) _
      refine XS.iconst X63.here hx rfl (hb hby at_14) ?_
      show Steps p.tables e below (T63.setTop (mkF m 15 #[.val (.int p0), .val (.int (18 : Int32)), .val (.ref s_WSEG_SPACE), .unset] [(.int (1 : Int32)), (.int (18 : Int32))])) _
      refine XS.icmpNo X63.here hx rfl (hb hby at_15) rfl (flt (by decide : ¬ ((18 : Int32) < (1 : Int32)))).1 ?_
      show Steps p.tables e below (T63.setTop (mkF m 18 #[.val (.int p0), .val (.int (18 : Int32)), .val (.ref s_WSEG_SPACE), .unset] [])) _
      refine XS.iloadN X63.here hx rfl (hb hby at_18) rfl  ?_
      show Steps p.tables e below (T63.setTop (mkF m 19 #[.val (.int p0), .val (.int (18 : Int32)), .val (.ref s_WSEG_SPACE), .unset] [(.int (18 : Int32))])) _
      refine XS.iconst X63.here hx rfl (hb hby at_19) ?_
      show Steps p.tables e below (T63.setTop (mkF m 20 #[.val (.int p0), .val (.int (18 : Int32)), .val (.ref s_WSEG_SPACE), .unset] [(.int (3 : Int32)), (.int (18 : Int32))])) _
      refine XS.icmpYes X63.here hx rfl (pc0 := 20) (pc' := 27) rfl (hb hby at_20) rfl (tlt (by decide : ((3 : Int32) < (18 : Int32)))).2.2.1 (by decide) (by decide) ?_
      show Steps p.tables e below (T63.setTop (mkF m 27 #[.val (.int p0), .val (.int (18 : Int32)), .val (.ref s_WSEG_SPACE), .unset] [])) _
      refine XS.iconst X63.here hx rfl (hb hby at_27) ?_
      show Steps p.tables e below (T63.setTop (mkF m 28 #[.val (.int p0), .val (.int (18 : Int32)), .val (.ref s_WSEG_SPACE), .unset] [(.int (0 : Int32))])) _
      refine XS.istoreN X63.here hx rfl (hb hby at_28) rfl (l' := #[.val (.int p0), .val (.int (18 : Int32)), .val (.ref s_WSEG_SPACE), .val (.int (0 : Int32))]) rfl ?_
      show Steps p.tables e below (T63.setTop (mkF m 29 #[.val (.int p0), .val (.int (18 : Int32)), .val (.ref s_WSEG_SPACE), .val (.int (0 : Int32))] [])) _
      refine XS.aloadN X63.here hx rfl (hb hby at_29) rfl rfl ?_
      show Steps p.tables e below (T63.setTop (mkF m 30 #[.val (.int p0), .val (.int (18 : Int32)), .val (.ref s_WSEG_SPACE), .val (.int (0 : Int32))] [(.ref s_WSEG_SPACE)])) _
      exact k
    obtain ⟨cq64, kq64, q64a, q64b, q64c⟩ := isOf hZ e63 (E_WSEG_SPACE.ext O0.2)
    obtain ⟨_, _, ⟨T64, L64, k64, n64⟩, -, X64, ⟨Lc64, hQ64, l64, y64, z64⟩, st64⟩ := X63.virtualBack hx (y := (⟨"com/example/hits_from_terms/hitsfromterms/analysis/WordBreak", "isLineBreak", "()Z"⟩ : MethodName)) (z := (⟨"com/example/hits_from_terms/hitsfromterms/analysis/WordBreak", "isLineBreak", "()Z"⟩ : MethodName)) hown (mvT hZ (hw _ (List.mem_of_getElem? (i := 8) rfl))) (mvT hZ (hw _ (List.mem_of_getElem? (i := 9) rfl))) (notFace_of_selects (args := #[]) (mvT hZ (hw _ (List.mem_of_getElem? (i := 11) rfl)))) (mvT hZ (hw _ (List.mem_of_getElem? (i := 11) rfl))) (mvT hZ (hw _ (List.mem_of_getElem? (i := 10) rfl))) (by decide) (backOf (W := 0) (rm2 l Z a0 hw [] s_OTHER s_CR s_LF s_NEWLINE s_SINGLE_QUOTE s_FORMAT s_REGIONAL_INDICATOR s_ALETTER s_EXTEND_NUM_LET s_KATAKANA s_HEBREW_LETTER s_MID_NUM_LET s_WSEG_SPACE s_ZWJ s_DOUBLE_QUOTE s_EXTEND s_NUMERIC s_MID_LETTER s_MID_NUM s_VALUES k_VALUES HW s_WSEG_SPACE h0 n0 O0) hZ (hw _ (List.mem_of_getElem? (i := 12) rfl)) (hw _ (List.mem_of_getElem? (i := 3) rfl)) (by decide) (by decide)) q64a q64c (g := (mkF m 30 #[.val (.int p0), .val (.int (18 : Int32)), .val (.ref s_WSEG_SPACE), .val (.int (0 : Int32))] [(.ref s_WSEG_SPACE)])) rfl (by rw [hml]; rfl) (Steps.refl _) (argsL := []) (rest := []) (lenOf own_pd18 rfl) rfl (by show 2 * 0 + _ ≤ _; exact Nat.le_of_eq rfl) (hb hby at_30) (fun _ _ => ⟨rfl, e63, (by decide : 0 + 0 ≤ _), (by decide : 0 + 0 ≤ _)⟩)
    dsimp only [Pt.U, Pt.locs, Pt.cells, Pt.slots] at X64 l64 y64 z64 st64 hQ64
    subst l64 y64 z64
    obtain ⟨rfl, N64q, e64⟩ := hQ64
    have N64 := Fr.app N63 N64q
    refine Go.st (V' := T64.setTop (mkF m 33 #[.val (.int p0), .val (.int (18 : Int32)), .val (.ref s_WSEG_SPACE), .val (.int (0 : Int32))] [(.int (f2 s_CR s_LF s_NEWLINE s_WSEG_SPACE))])) (fun t k => st64.trans k) ?_
    have r65 : (f2 s_CR s_LF s_NEWLINE s_WSEG_SPACE) = (0 : Int32) := by rw [f2, if_neg (Fld.ne (F_WSEG_SPACE_ordinal.ext O0.2) (F_CR_ordinal.ext O0.2) (by decide)), if_neg (Fld.ne (F_WSEG_SPACE_ordinal.ext O0.2) (F_LF_ordinal.ext O0.2) (by decide)), if_neg (Fld.ne (F_WSEG_SPACE_ordinal.ext O0.2) (F_NEWLINE_ordinal.ext O0.2) (by decide))]
    rw [r65]
    refine Go.st (V' := T64.setTop (mkF m 42 #[.val (.int p0), .val (.int (18 : Int32)), .val (.ref s_WSEG_SPACE), .val (.int (0 : Int32))] [(.int (1 : Int32))])) (fun t k => ?_) ?_
    · refine XS.iloadN X64.here hx rfl (hb hby at_33) rfl  ?_
      show Steps p.tables e below (T64.setTop (mkF m 34 #[.val (.int p0), .val (.int (18 : Int32)), .val (.ref s_WSEG_SPACE), .val (.int (0 : Int32))] [(.int (0 : Int32)), (.int (0 : Int32))])) _
      refine XS.icmpNo X64.here hx rfl (hb hby at_34) rfl (teq (by decide : ((0 : Int32) = (0 : Int32)))).2 ?_
      show Steps p.tables e below (T64.setTop (mkF m 37 #[.val (.int p0), .val (.int (18 : Int32)), .val (.ref s_WSEG_SPACE), .val (.int (0 : Int32))] [])) _
      refine XS.iconst X64.here hx rfl (hb hby at_37) ?_
      show Steps p.tables e below (T64.setTop (mkF m 38 #[.val (.int p0), .val (.int (18 : Int32)), .val (.ref s_WSEG_SPACE), .val (.int (0 : Int32))] [(.int (1 : Int32))])) _
      refine XS.goto X64.here hx rfl (pc0 := 38) (pc' := 42) rfl (hb hby at_38) (by decide) (by decide) ?_
      show Steps p.tables e below (T64.setTop (mkF m 42 #[.val (.int p0), .val (.int (18 : Int32)), .val (.ref s_WSEG_SPACE), .val (.int (0 : Int32))] [(.int (1 : Int32))])) _
      exact k
    obtain ⟨fs, hr, hrun, hended, hW, hsame⟩ := X64.leave (v := some (.int (1 : Int32))) (fun h => by rw [Bd.returns] at h; cases h)
    refine Go.mk' ⟨_, _, retN X64 hx (t := .boolean) Bd.returns (by simp) (hb hby at_42) hr, hrun, hended, _, _, rfl, ?_, ⟨_, rfl⟩, hW, hsame.mono (by decide) (by decide)⟩
    show Q0 Z p0 h0 n0 _ T64.heap _
    rw [e64]
    exact ⟨rfl, N64⟩
set_option maxRecDepth 65536 in
set_option maxHeartbeats 40000000 in
theorem comes_1 {Post : Tables → Env → Array Value → State → Outcome → State → Prop} (hpost : ∀ tb e args s v u, (limb_1_1.after args s (.returned v) u = true ∧ limb_1_2.after args s (.returned v) u = true ∧ True) → FrameEnd s (.returned v) u (Jvm.fieldLocs frame_1_writes args s ++ Jvm.arrayLocs frame_1_arrays args s ++ Jvm.staticLocs frame_1_statics s) 0 0 → Post tb e args s (.returned v) u) :
    ArmFor flags0 classFile x code maxLocals ret World_1 tables_1 room_1 Calls_1 rest_1 Pre_1 Post := by
  intro l hfl _ _ p e ha hc hk s m args below hf hA hF happ hP
  obtain ⟨hcalls, hrest, hpre⟩ := hP
  obtain ⟨-, -, -, hnamed, -, -, -, hat⟩ := (Spec.applies_iff hf).mp happ
  obtain ⟨hg, hn⟩ := and_e (Cond.before_iff.mp (show (Jvm.Cond.and given_1 narrow_1).before args s = true from hpre))
  obtain ⟨gg0, hg⟩ := and_e hg
  have gg1 := hg
  obtain ⟨w0, rfl⟩ : ∃ w0 : Value, args = #[w0] := by
    have hs : args.size = 1 := by simpa [Cond.value, given_1] using gg0
    obtain ⟨L⟩ := args
    match L, hs with
    | [w0], _ => exact ⟨w0, rfl⟩
  have hw := fun d (hd : d ∈ tables_1) => atoms_spec (ws := Jvm.Cond.code x code maxLocals ret :: tables_1) hat d (List.mem_cons_of_mem _ hd)
  have hfit : Fit s := fun {y c} hc i hi => by
    obtain ⟨ha, rfl⟩ := Array.getElem?_eq_some_iff.mp hc
    have q := List.all_eq_true.mp ((Array.all_eq_true_iff_forall_mem.mp hF) _ (Array.getElem_mem ha)) i (List.mem_range.mpr hi)
    simpa [Array.getElem?_eq_getElem hi] using q
  obtain ⟨i0, ei0⟩ := is_v gg1
  obtain rfl : w0 = (.int i0) := Option.some.inj ei0
  obtain ⟨c0, hn⟩ := and_e hn
  obtain ⟨c1, hn⟩ := and_e hn
  obtain ⟨c2, hn⟩ := and_e hn
  obtain ⟨c3, hn⟩ := and_e hn
  obtain ⟨c4, hn⟩ := and_e hn
  obtain ⟨c5, hn⟩ := and_e hn
  obtain ⟨c6, hn⟩ := and_e hn
  obtain ⟨c7, hn⟩ := and_e hn
  obtain ⟨c8, hn⟩ := and_e hn
  obtain ⟨c9, hn⟩ := and_e hn
  obtain ⟨c10, hn⟩ := and_e hn
  obtain ⟨c11, hn⟩ := and_e hn
  obtain ⟨c12, hn⟩ := and_e hn
  obtain ⟨c13, hn⟩ := and_e hn
  obtain ⟨c14, hn⟩ := and_e hn
  obtain ⟨c15, hn⟩ := and_e hn
  obtain ⟨c16, hn⟩ := and_e hn
  obtain ⟨c17, hn⟩ := and_e hn
  obtain ⟨c18, hn⟩ := and_e hn
  obtain ⟨c19, hn⟩ := and_e hn
  obtain ⟨c20, hn⟩ := and_e hn
  obtain ⟨c21, hn⟩ := and_e hn
  obtain ⟨c22, hn⟩ := and_e hn
  obtain ⟨c23, hn⟩ := and_e hn
  obtain ⟨c24, hn⟩ := and_e hn
  obtain ⟨c25, hn⟩ := and_e hn
  obtain ⟨c26, hn⟩ := and_e hn
  obtain ⟨c27, hn⟩ := and_e hn
  obtain ⟨c28, hn⟩ := and_e hn
  obtain ⟨c29, hn⟩ := and_e hn
  obtain ⟨c30, hn⟩ := and_e hn
  obtain ⟨c31, hn⟩ := and_e hn
  obtain ⟨c32, hn⟩ := and_e hn
  obtain ⟨c33, hn⟩ := and_e hn
  obtain ⟨c34, hn⟩ := and_e hn
  obtain ⟨c35, hn⟩ := and_e hn
  obtain ⟨c36, hn⟩ := and_e hn
  obtain ⟨c37, hn⟩ := and_e hn
  obtain ⟨c38, hn⟩ := and_e hn
  obtain ⟨c39, hn⟩ := and_e hn
  obtain ⟨c40, hn⟩ := and_e hn
  obtain ⟨c41, hn⟩ := and_e hn
  obtain ⟨c42, hn⟩ := and_e hn
  obtain ⟨c43, hn⟩ := and_e hn
  obtain ⟨c44, hn⟩ := and_e hn
  obtain ⟨c45, hn⟩ := and_e hn
  obtain ⟨c46, hn⟩ := and_e hn
  obtain ⟨c47, hn⟩ := and_e hn
  obtain ⟨c48, hn⟩ := and_e hn
  obtain ⟨c49, hn⟩ := and_e hn
  obtain ⟨c50, hn⟩ := and_e hn
  obtain ⟨c51, hn⟩ := and_e hn
  obtain ⟨c52, hn⟩ := and_e hn
  obtain ⟨c53, hn⟩ := and_e hn
  obtain ⟨c54, hn⟩ := and_e hn
  obtain ⟨c55, hn⟩ := and_e hn
  obtain ⟨c56, hn⟩ := and_e hn
  obtain ⟨c57, hn⟩ := and_e hn
  have c58 := hn
  obtain ⟨s_OTHER, ev_OTHER⟩ := exa_v c2
  have E_OTHER := Exa.start ev_OTHER c2
  have S_OTHER := Sta.start ev_OTHER (Or.inr ⟨(hw _ (List.mem_of_getElem? (i := 3) rfl)), (hw _ (List.mem_of_getElem? (i := 7) rfl))⟩)
  obtain ⟨s_CR, ev_CR⟩ := exa_v c4
  have E_CR := Exa.start ev_CR c4
  have S_CR := Sta.start ev_CR (Or.inr ⟨(hw _ (List.mem_of_getElem? (i := 3) rfl)), (hw _ (List.mem_of_getElem? (i := 14) rfl))⟩)
  obtain ⟨s_LF, ev_LF⟩ := exa_v c7
  have E_LF := Exa.start ev_LF c7
  have S_LF := Sta.start ev_LF (Or.inr ⟨(hw _ (List.mem_of_getElem? (i := 3) rfl)), (hw _ (List.mem_of_getElem? (i := 16) rfl))⟩)
  obtain ⟨s_NEWLINE, ev_NEWLINE⟩ := exa_v c9
  have E_NEWLINE := Exa.start ev_NEWLINE c9
  have S_NEWLINE := Sta.start ev_NEWLINE (Or.inr ⟨(hw _ (List.mem_of_getElem? (i := 3) rfl)), (hw _ (List.mem_of_getElem? (i := 18) rfl))⟩)
  obtain ⟨s_SINGLE_QUOTE, ev_SINGLE_QUOTE⟩ := exa_v c12
  have E_SINGLE_QUOTE := Exa.start ev_SINGLE_QUOTE c12
  have S_SINGLE_QUOTE := Sta.start ev_SINGLE_QUOTE (Or.inr ⟨(hw _ (List.mem_of_getElem? (i := 3) rfl)), (hw _ (List.mem_of_getElem? (i := 19) rfl))⟩)
  obtain ⟨s_FORMAT, ev_FORMAT⟩ := exa_v c15
  have E_FORMAT := Exa.start ev_FORMAT c15
  have S_FORMAT := Sta.start ev_FORMAT (Or.inr ⟨(hw _ (List.mem_of_getElem? (i := 3) rfl)), (hw _ (List.mem_of_getElem? (i := 20) rfl))⟩)
  obtain ⟨s_REGIONAL_INDICATOR, ev_REGIONAL_INDICATOR⟩ := exa_v c18
  have E_REGIONAL_INDICATOR := Exa.start ev_REGIONAL_INDICATOR c18
  have S_REGIONAL_INDICATOR := Sta.start ev_REGIONAL_INDICATOR (Or.inr ⟨(hw _ (List.mem_of_getElem? (i := 3) rfl)), (hw _ (List.mem_of_getElem? (i := 21) rfl))⟩)
  obtain ⟨s_ALETTER, ev_ALETTER⟩ := exa_v c21
  have E_ALETTER := Exa.start ev_ALETTER c21
  have S_ALETTER := Sta.start ev_ALETTER (Or.inr ⟨(hw _ (List.mem_of_getElem? (i := 3) rfl)), (hw _ (List.mem_of_getElem? (i := 22) rfl))⟩)
  obtain ⟨s_EXTEND_NUM_LET, ev_EXTEND_NUM_LET⟩ := exa_v c25
  have E_EXTEND_NUM_LET := Exa.start ev_EXTEND_NUM_LET c25
  have S_EXTEND_NUM_LET := Sta.start ev_EXTEND_NUM_LET (Or.inr ⟨(hw _ (List.mem_of_getElem? (i := 3) rfl)), (hw _ (List.mem_of_getElem? (i := 23) rfl))⟩)
  obtain ⟨s_KATAKANA, ev_KATAKANA⟩ := exa_v c28
  have E_KATAKANA := Exa.start ev_KATAKANA c28
  have S_KATAKANA := Sta.start ev_KATAKANA (Or.inr ⟨(hw _ (List.mem_of_getElem? (i := 3) rfl)), (hw _ (List.mem_of_getElem? (i := 24) rfl))⟩)
  obtain ⟨s_HEBREW_LETTER, ev_HEBREW_LETTER⟩ := exa_v c31
  have E_HEBREW_LETTER := Exa.start ev_HEBREW_LETTER c31
  have S_HEBREW_LETTER := Sta.start ev_HEBREW_LETTER (Or.inr ⟨(hw _ (List.mem_of_getElem? (i := 3) rfl)), (hw _ (List.mem_of_getElem? (i := 25) rfl))⟩)
  obtain ⟨s_MID_NUM_LET, ev_MID_NUM_LET⟩ := exa_v c35
  have E_MID_NUM_LET := Exa.start ev_MID_NUM_LET c35
  have S_MID_NUM_LET := Sta.start ev_MID_NUM_LET (Or.inr ⟨(hw _ (List.mem_of_getElem? (i := 3) rfl)), (hw _ (List.mem_of_getElem? (i := 26) rfl))⟩)
  obtain ⟨s_WSEG_SPACE, ev_WSEG_SPACE⟩ := exa_v c38
  have E_WSEG_SPACE := Exa.start ev_WSEG_SPACE c38
  have S_WSEG_SPACE := Sta.start ev_WSEG_SPACE (Or.inr ⟨(hw _ (List.mem_of_getElem? (i := 3) rfl)), (hw _ (List.mem_of_getElem? (i := 27) rfl))⟩)
  obtain ⟨s_ZWJ, ev_ZWJ⟩ := exa_v c41
  have E_ZWJ := Exa.start ev_ZWJ c41
  have S_ZWJ := Sta.start ev_ZWJ (Or.inr ⟨(hw _ (List.mem_of_getElem? (i := 3) rfl)), (hw _ (List.mem_of_getElem? (i := 28) rfl))⟩)
  obtain ⟨s_DOUBLE_QUOTE, ev_DOUBLE_QUOTE⟩ := exa_v c44
  have E_DOUBLE_QUOTE := Exa.start ev_DOUBLE_QUOTE c44
  have S_DOUBLE_QUOTE := Sta.start ev_DOUBLE_QUOTE (Or.inr ⟨(hw _ (List.mem_of_getElem? (i := 3) rfl)), (hw _ (List.mem_of_getElem? (i := 29) rfl))⟩)
  obtain ⟨s_EXTEND, ev_EXTEND⟩ := exa_v c47
  have E_EXTEND := Exa.start ev_EXTEND c47
  have S_EXTEND := Sta.start ev_EXTEND (Or.inr ⟨(hw _ (List.mem_of_getElem? (i := 3) rfl)), (hw _ (List.mem_of_getElem? (i := 30) rfl))⟩)
  obtain ⟨s_NUMERIC, ev_NUMERIC⟩ := exa_v c50
  have E_NUMERIC := Exa.start ev_NUMERIC c50
  have S_NUMERIC := Sta.start ev_NUMERIC (Or.inr ⟨(hw _ (List.mem_of_getElem? (i := 3) rfl)), (hw _ (List.mem_of_getElem? (i := 31) rfl))⟩)
  obtain ⟨s_MID_LETTER, ev_MID_LETTER⟩ := exa_v c53
  have E_MID_LETTER := Exa.start ev_MID_LETTER c53
  have S_MID_LETTER := Sta.start ev_MID_LETTER (Or.inr ⟨(hw _ (List.mem_of_getElem? (i := 3) rfl)), (hw _ (List.mem_of_getElem? (i := 32) rfl))⟩)
  obtain ⟨s_MID_NUM, ev_MID_NUM⟩ := exa_v c56
  have E_MID_NUM := Exa.start ev_MID_NUM c56
  have S_MID_NUM := Sta.start ev_MID_NUM (Or.inr ⟨(hw _ (List.mem_of_getElem? (i := 3) rfl)), (hw _ (List.mem_of_getElem? (i := 33) rfl))⟩)
  have F_OTHER_ordinal := Fld.start ((fld_at ev_OTHER).symm.trans (eqv_i (Term.int_eval _) c5))
  have F_CR_ordinal := Fld.start ((fld_at ev_CR).symm.trans (eqv_i (Term.int_eval _) c6))
  have F_LF_ordinal := Fld.start ((fld_at ev_LF).symm.trans (eqv_i (Term.int_eval _) c8))
  have F_NEWLINE_ordinal := Fld.start ((fld_at ev_NEWLINE).symm.trans (eqv_i (Term.int_eval _) c10))
  have F_SINGLE_QUOTE_ordinal := Fld.start ((fld_at ev_SINGLE_QUOTE).symm.trans (eqv_i (Term.int_eval _) c14))
  have F_FORMAT_ordinal := Fld.start ((fld_at ev_FORMAT).symm.trans (eqv_i (Term.int_eval _) c17))
  have F_REGIONAL_INDICATOR_ordinal := Fld.start ((fld_at ev_REGIONAL_INDICATOR).symm.trans (eqv_i (Term.int_eval _) c20))
  have F_ALETTER_ordinal := Fld.start ((fld_at ev_ALETTER).symm.trans (eqv_i (Term.int_eval _) c23))
  have F_EXTEND_NUM_LET_ordinal := Fld.start ((fld_at ev_EXTEND_NUM_LET).symm.trans (eqv_i (Term.int_eval _) c27))
  have F_KATAKANA_ordinal := Fld.start ((fld_at ev_KATAKANA).symm.trans (eqv_i (Term.int_eval _) c30))
  have F_HEBREW_LETTER_ordinal := Fld.start ((fld_at ev_HEBREW_LETTER).symm.trans (eqv_i (Term.int_eval _) c33))
  have F_MID_NUM_LET_ordinal := Fld.start ((fld_at ev_MID_NUM_LET).symm.trans (eqv_i (Term.int_eval _) c37))
  have F_WSEG_SPACE_ordinal := Fld.start ((fld_at ev_WSEG_SPACE).symm.trans (eqv_i (Term.int_eval _) c40))
  have F_ZWJ_ordinal := Fld.start ((fld_at ev_ZWJ).symm.trans (eqv_i (Term.int_eval _) c43))
  have F_DOUBLE_QUOTE_ordinal := Fld.start ((fld_at ev_DOUBLE_QUOTE).symm.trans (eqv_i (Term.int_eval _) c46))
  have F_EXTEND_ordinal := Fld.start ((fld_at ev_EXTEND).symm.trans (eqv_i (Term.int_eval _) c49))
  have F_NUMERIC_ordinal := Fld.start ((fld_at ev_NUMERIC).symm.trans (eqv_i (Term.int_eval _) c52))
  have F_MID_LETTER_ordinal := Fld.start ((fld_at ev_MID_LETTER).symm.trans (eqv_i (Term.int_eval _) c55))
  have F_MID_NUM_ordinal := Fld.start ((fld_at ev_MID_NUM).symm.trans (eqv_i (Term.int_eval _) c58))
  obtain ⟨s_VALUES, ev_VALUES⟩ := arr_v c0
  obtain ⟨cl_VALUES, A_VALUES⟩ := Arr.start ev_VALUES c0
  obtain ⟨sz_VALUES, ln_VALUES⟩ := own_len ev_VALUES A_VALUES c1
  have V_VALUES : Arv s s.heap s_VALUES cl_VALUES.cls (.object "com/example/hits_from_terms/hitsfromterms/analysis/WordBreak") (19 : Int32) [(.ref s_OTHER), (.ref s_CR), (.ref s_LF), (.ref s_NEWLINE), (.ref s_EXTEND), (.ref s_FORMAT), (.ref s_ZWJ), (.ref s_ALETTER), (.ref s_HEBREW_LETTER), (.ref s_NUMERIC), (.ref s_KATAKANA), (.ref s_EXTEND_NUM_LET), (.ref s_MID_LETTER), (.ref s_MID_NUM), (.ref s_MID_NUM_LET), (.ref s_SINGLE_QUOTE), (.ref s_DOUBLE_QUOTE), (.ref s_REGIONAL_INDICATOR), (.ref s_WSEG_SPACE)] .null := Arv.start hfit A_VALUES sz_VALUES ln_VALUES (by decide) rfl ⟨own_elr ev_VALUES A_VALUES ev_OTHER c3 (by decide) rfl, own_elr ev_VALUES A_VALUES ev_CR c34 (by decide) rfl, own_elr ev_VALUES A_VALUES ev_LF c24 (by decide) rfl, own_elr ev_VALUES A_VALUES ev_NEWLINE c11 (by decide) rfl, own_elr ev_VALUES A_VALUES ev_EXTEND c48 (by decide) rfl, own_elr ev_VALUES A_VALUES ev_FORMAT c16 (by decide) rfl, own_elr ev_VALUES A_VALUES ev_ZWJ c42 (by decide) rfl, own_elr ev_VALUES A_VALUES ev_ALETTER c22 (by decide) rfl, own_elr ev_VALUES A_VALUES ev_HEBREW_LETTER c32 (by decide) rfl, own_elr ev_VALUES A_VALUES ev_NUMERIC c51 (by decide) rfl, own_elr ev_VALUES A_VALUES ev_KATAKANA c29 (by decide) rfl, own_elr ev_VALUES A_VALUES ev_EXTEND_NUM_LET c26 (by decide) rfl, own_elr ev_VALUES A_VALUES ev_MID_LETTER c54 (by decide) rfl, own_elr ev_VALUES A_VALUES ev_MID_NUM c57 (by decide) rfl, own_elr ev_VALUES A_VALUES ev_MID_NUM_LET c36 (by decide) rfl, own_elr ev_VALUES A_VALUES ev_SINGLE_QUOTE c13 (by decide) rfl, own_elr ev_VALUES A_VALUES ev_DOUBLE_QUOTE c45 (by decide) rfl, own_elr ev_VALUES A_VALUES ev_REGIONAL_INDICATOR c19 (by decide) rfl, own_elr ev_VALUES A_VALUES ev_WSEG_SPACE c39 (by decide) rfl, trivial⟩
  obtain ⟨k_VALUES, hk_VALUES⟩ : ∃ z, z = cl_VALUES.cls := ⟨_, rfl⟩
  rw [← hk_VALUES] at V_VALUES
  have S_VALUES := Sta.start ev_VALUES (Or.inr ⟨(hw _ (List.mem_of_getElem? (i := 3) rfl)), (hw _ (List.mem_of_getElem? (i := 6) rfl))⟩)
  obtain ⟨n, o, h1, h2, h3, _, L, rfl, ⟨rfl, N⟩, hq⟩ := rm0 l s _ hw tables_1 s_OTHER s_CR s_LF s_NEWLINE s_SINGLE_QUOTE s_FORMAT s_REGIONAL_INDICATOR s_ALETTER s_EXTEND_NUM_LET s_KATAKANA s_HEBREW_LETTER s_MID_NUM_LET s_WSEG_SPACE s_ZWJ s_DOUBLE_QUOTE s_EXTEND s_NUMERIC s_MID_LETTER s_MID_NUM s_VALUES k_VALUES (show W0 s s_OTHER s_CR s_LF s_NEWLINE s_SINGLE_QUOTE s_FORMAT s_REGIONAL_INDICATOR s_ALETTER s_EXTEND_NUM_LET s_KATAKANA s_HEBREW_LETTER s_MID_NUM_LET s_WSEG_SPACE s_ZWJ s_DOUBLE_QUOTE s_EXTEND s_NUMERIC s_MID_LETTER s_MID_NUM s_VALUES k_VALUES from ⟨E_OTHER, S_OTHER, E_CR, S_CR, E_LF, S_LF, E_NEWLINE, S_NEWLINE, E_SINGLE_QUOTE, S_SINGLE_QUOTE, E_FORMAT, S_FORMAT, E_REGIONAL_INDICATOR, S_REGIONAL_INDICATOR, E_ALETTER, S_ALETTER, E_EXTEND_NUM_LET, S_EXTEND_NUM_LET, E_KATAKANA, S_KATAKANA, E_HEBREW_LETTER, S_HEBREW_LETTER, E_MID_NUM_LET, S_MID_NUM_LET, E_WSEG_SPACE, S_WSEG_SPACE, E_ZWJ, S_ZWJ, E_DOUBLE_QUOTE, S_DOUBLE_QUOTE, E_EXTEND, S_EXTEND, E_NUMERIC, S_NUMERIC, E_MID_LETTER, S_MID_LETTER, E_MID_NUM, S_MID_NUM, F_OTHER_ordinal, F_CR_ordinal, F_LF_ordinal, F_NEWLINE_ordinal, F_SINGLE_QUOTE_ordinal, F_FORMAT_ordinal, F_REGIONAL_INDICATOR_ordinal, F_ALETTER_ordinal, F_EXTEND_NUM_LET_ordinal, F_KATAKANA_ordinal, F_HEBREW_LETTER_ordinal, F_MID_NUM_LET_ordinal, F_WSEG_SPACE_ordinal, F_ZWJ_ordinal, F_DOUBLE_QUOTE_ordinal, F_EXTEND_ordinal, F_NUMERIC_ordinal, F_MID_LETTER_ordinal, F_MID_NUM_ordinal, V_VALUES, S_VALUES⟩) i0 s.heap s.heap.size (Old.start s) p e ha hc hk s m _ below hf ((Spec.applies_iff_loose hf).mp happ).1 ⟨rfl, State.Warmed39.refl s, rfl⟩ trivial
  refine ⟨n, _, h1, h2, h3, hpost _ _ _ _ _ _ ⟨Cond.after_iff.mpr rfl, Cond.after_iff.mpr (eq_i res_at (Term.int_eval (1)) rfl), trivial⟩ ⟨hq.1, hq.2.1, (hq.2.2.sift fun y hy => Or.inr (N y hy)).mono (by decide) (by decide)⟩⟩
theorem main_1_1 : Claimed_1_1 := comes_1 fun _ _ _ _ _ _ h hF => ⟨h.1, hF⟩
theorem main_1_2 : Claimed_1_2 := comes_1 fun _ _ _ _ _ _ h hF => ⟨h.2.1, hF⟩
end Jvm.Pilot.@@N@@
namespace Jvm.Pilot.@@N@@
open Jvm Jvm.ClassFile Sem Op Lib Jvm.Free Jvm.Stand Jvm.Pilot.@@N@@.Jvm.D
/-! MADE BY PROGRAM (witnessworld.py) out of the Statement's table words and the real class files: 13 classes; the members and pool entries that the words name. The judged class is class 1, her method 1. -/
namespace start1
open Jvm.ClassFile
def u (s : String) : CpInfo := .utf8 (stringToUtf16 s)
/-- a pool by its gaps: so many unusable entries, then the entry; so many at the end -/
def gap : Nat → List CpInfo → List CpInfo
  | 0, r => r
  | n + 1, r => .unusable :: gap n r
def poolList (es : List (Nat × CpInfo)) (last : Nat) : List CpInfo := es.foldr (fun e r => gap e.1 (e.2 :: r)) (gap last [])
def pool (es : List (Nat × CpInfo)) (last : Nat) : Array CpInfo := ⟨poolList es last⟩
def fileOf (pool : Array CpInfo) (this : Nat) (attrs : Array Attribute := #[]) (ms : Array MethodInfo := #[]) (fl : Nat := 33) (sup : Nat := 0) (ifs : Array Nat := #[]) (fds : Array FieldInfo := #[]) : ClassFile where
  minorVersion := 0
  majorVersion := 65
  constantPool := pool
  accessFlags := fl
  thisClass := this
  superClass := sup
  interfaces := ifs
  fields := fds
  methods := ms
  attributes := attrs
def plain (name : String) (sup : Option ClassId) : Class where
  name := name
  kind := .ordinary
  loader := none
  accessFlags := 33
  super := sup
  interfaces := #[]
  cf := none
  fields := #[]
  methods := #[]
  instanceTypes := #[]
  staticTypes := #[]
  resolved := #[]
  callSites := []
  init := .initialized
  statics := none
  mirror := none

def pool0 : Array CpInfo := pool [(5, u "<init>"), (0, u "()V"), (1, .class_ 10), (1, u "java/lang/Object")] 113

def k0m0 : Method := { name := "<init>", desc := "()V", sig := { parameters := [], returnType := none }, accessFlags := 1, code := none }
/-- java/lang/Object -/
def k0 : Class := { plain "java/lang/Object" none with
  accessFlags := 33
  interfaces := #[]
  cf := some (fileOf pool0 8 #[] #[{ accessFlags := 1, nameIndex := 5, descriptorIndex := 6, attributes := #[] }] 33 0 #[] #[])
  fields := #[]
  methods := #[k0m0]
  instanceTypes := #[]
  staticTypes := #[]
  resolved := Array.replicate 124 none
  statics := none }

def pool1 : Array CpInfo := pool [(2, .class_ 4), (1, u "java/lang/Object"), (0, u "<init>"), (0, u "()V"), (0, .integer 2147483647), (0, .methodref 9 10), (0, .class_ 11), (0, .nameAndType 12 13), (0, u "com/example/hits_from_terms/hitsfromterms/analysis/WordBreak"), (0, u "forOrdinal"), (0, u "(I)Lcom/example/hits_from_terms/hitsfromterms/analysis/WordBreak;"), (0, .methodref 9 15), (0, .nameAndType 16 17), (0, u "isLineBreak"), (0, u "()Z"), (0, .class_ 19), (0, u "com/example/hits_from_terms/hitsfromterms/analysis/WordBreakIsLineBreakPinLaw"), (2, u "law"), (0, u "(I)Z")] 3

def k1m0 : Method := { name := "<init>", desc := "()V", sig := { parameters := [], returnType := none }, accessFlags := 1, code := none }
def k1c1 : Code := { maxStack := 2, maxLocals := 4, code := code, exceptionTable := #[], attributes := #[] }
def k1m1 : Method := { name := "law", desc := "(I)Z", sig := { parameters := [.int], returnType := some .boolean }, accessFlags := 9, code := some k1c1 }
/-- com/example/hits_from_terms/hitsfromterms/analysis/WordBreakIsLineBreakPinLaw -/
def k1 : Class := { plain "com/example/hits_from_terms/hitsfromterms/analysis/WordBreakIsLineBreakPinLaw" (some 0) with
  accessFlags := 49
  interfaces := #[]
  cf := some (fileOf pool1 18 #[] #[{ accessFlags := 1, nameIndex := 5, descriptorIndex := 6, attributes := #[] }, { accessFlags := 9, nameIndex := 22, descriptorIndex := 23, attributes := #[] }] 49 2 #[] #[])
  fields := #[]
  methods := #[k1m0, k1m1]
  instanceTypes := #[]
  staticTypes := #[]
  resolved := Array.replicate 27 none
  statics := none }

def pool2 : Array CpInfo := pool [(1, .class_ 2), (0, u "java/lang/constant/Constable"), (0, .class_ 4), (0, u "java/lang/Object")] 6

/-- java/lang/constant/Constable -/
def k2 : Class := { plain "java/lang/constant/Constable" (some 0) with
  accessFlags := 1537
  interfaces := #[]
  cf := some (fileOf pool2 1 #[] #[] 1537 3 #[] #[])
  fields := #[]
  methods := #[]
  instanceTypes := #[]
  staticTypes := #[]
  resolved := Array.replicate 11 none
  statics := none }

def pool3 : Array CpInfo := pool [(1, .class_ 2), (0, u "java/lang/Comparable"), (0, .class_ 4), (0, u "java/lang/Object")] 7

/-- java/lang/Comparable -/
def k3 : Class := { plain "java/lang/Comparable" (some 0) with
  accessFlags := 1537
  interfaces := #[]
  cf := some (fileOf pool3 1 #[] #[] 1537 3 #[] #[])
  fields := #[]
  methods := #[]
  instanceTypes := #[]
  staticTypes := #[]
  resolved := Array.replicate 12 none
  statics := none }

def pool4 : Array CpInfo := pool [(1, .class_ 2), (0, u "java/io/Serializable"), (0, .class_ 4), (0, u "java/lang/Object")] 2

/-- java/io/Serializable -/
def k4 : Class := { plain "java/io/Serializable" (some 0) with
  accessFlags := 1537
  interfaces := #[]
  cf := some (fileOf pool4 1 #[] #[] 1537 3 #[] #[])
  fields := #[]
  methods := #[]
  instanceTypes := #[]
  staticTypes := #[]
  resolved := Array.replicate 7 none
  statics := none }

def pool5 : Array CpInfo := pool [(2, .class_ 4), (1, u "java/lang/Enum"), (0, u "name"), (0, u "Ljava/lang/String;"), (2, u "ordinal"), (0, u "I"), (1, .class_ 14), (1, u "java/lang/Object"), (4, u "hash"), (86, .class_ 108), (1, u "java/lang/Enum$EnumDesc"), (2, .class_ 112), (0, u "java/lang/constant/Constable"), (0, .class_ 114), (0, u "java/lang/Comparable"), (0, .class_ 116), (0, u "java/io/Serializable")] 87

/-- java/lang/Enum -/
def k5 : Class := { plain "java/lang/Enum" (some 0) with
  accessFlags := 1057
  interfaces := #[2, 3, 4]
  cf := some (fileOf pool5 2 #[.nestMembers #[106]] #[] 1057 12 #[111, 113, 115] #[{ accessFlags := 18, nameIndex := 5, descriptorIndex := 6, attributes := #[] }, { accessFlags := 18, nameIndex := 9, descriptorIndex := 10, attributes := #[] }, { accessFlags := 2, nameIndex := 19, descriptorIndex := 10, attributes := #[] }])
  fields := #[{ name := "name", type := (.object "java/lang/String"), accessFlags := 18, slot := 0, constantValue := 0 }, { name := "ordinal", type := .int, accessFlags := 18, slot := 1, constantValue := 0 }, { name := "hash", type := .int, accessFlags := 2, slot := 2, constantValue := 0 }]
  methods := #[]
  instanceTypes := #[(.object "java/lang/String"), .int, .int]
  staticTypes := #[]
  resolved := Array.replicate 204 none
  statics := none }

def pool6 : Array CpInfo := pool [(1, .class_ 2), (0, u "com/example/hits_from_terms/hitsfromterms/analysis/WordBreak"), (2, u "OTHER"), (0, u "Lcom/example/hits_from_terms/hitsfromterms/analysis/WordBreak;"), (0, .fieldref 1 8), (0, .nameAndType 9 6), (0, u "CR"), (0, .fieldref 1 11), (0, .nameAndType 12 6), (0, u "LF"), (0, .fieldref 1 14), (0, .nameAndType 15 6), (0, u "NEWLINE"), (2, u "EXTEND"), (2, u "FORMAT"), (2, u "ZWJ"), (2, u "ALETTER"), (2, u "HEBREW_LETTER"), (2, u "NUMERIC"), (2, u "KATAKANA"), (2, u "EXTEND_NUM_LET"), (2, u "MID_LETTER"), (2, u "MID_NUM"), (2, u "MID_NUM_LET"), (2, u "SINGLE_QUOTE"), (2, u "DOUBLE_QUOTE"), (2, u "REGIONAL_INDICATOR"), (2, u "WSEG_SPACE"), (2, u "$VALUES"), (0, u "[Lcom/example/hits_from_terms/hitsfromterms/analysis/WordBreak;"), (6, .class_ 73), (1, u "java/lang/Enum"), (16, .fieldref 1 91), (0, .nameAndType 92 64), (0, u "VALUES"), (43, u "forOrdinal"), (0, u "(I)Lcom/example/hits_from_terms/hitsfromterms/analysis/WordBreak;"), (1, u "()Z"), (0, u "isLineBreak")] 7

def k6c0 : Code := { maxStack := 2, maxLocals := 1, code := prog_18_method_5_code, exceptionTable := #[], attributes := #[] }
def k6m0 : Method := { name := "forOrdinal", desc := "(I)Lcom/example/hits_from_terms/hitsfromterms/analysis/WordBreak;", sig := { parameters := [.int], returnType := some (.object "com/example/hits_from_terms/hitsfromterms/analysis/WordBreak") }, accessFlags := 8, code := some k6c0 }
def k6c1 : Code := { maxStack := 2, maxLocals := 1, code := prog_18_method_7_code, exceptionTable := #[], attributes := #[] }
def k6m1 : Method := { name := "isLineBreak", desc := "()Z", sig := { parameters := [], returnType := some .boolean }, accessFlags := 0, code := some k6c1 }
/-- com/example/hits_from_terms/hitsfromterms/analysis/WordBreak -/
def k6 : Class := { plain "com/example/hits_from_terms/hitsfromterms/analysis/WordBreak" (some 5) with
  accessFlags := 16432
  interfaces := #[]
  cf := some (fileOf pool6 1 #[] #[{ accessFlags := 8, nameIndex := 136, descriptorIndex := 137, attributes := #[] }, { accessFlags := 0, nameIndex := 140, descriptorIndex := 139, attributes := #[] }] 16432 71 #[] #[{ accessFlags := 16409, nameIndex := 5, descriptorIndex := 6, attributes := #[] }, { accessFlags := 16409, nameIndex := 9, descriptorIndex := 6, attributes := #[] }, { accessFlags := 16409, nameIndex := 12, descriptorIndex := 6, attributes := #[] }, { accessFlags := 16409, nameIndex := 15, descriptorIndex := 6, attributes := #[] }, { accessFlags := 16409, nameIndex := 18, descriptorIndex := 6, attributes := #[] }, { accessFlags := 16409, nameIndex := 21, descriptorIndex := 6, attributes := #[] }, { accessFlags := 16409, nameIndex := 24, descriptorIndex := 6, attributes := #[] }, { accessFlags := 16409, nameIndex := 27, descriptorIndex := 6, attributes := #[] }, { accessFlags := 16409, nameIndex := 30, descriptorIndex := 6, attributes := #[] }, { accessFlags := 16409, nameIndex := 33, descriptorIndex := 6, attributes := #[] }, { accessFlags := 16409, nameIndex := 36, descriptorIndex := 6, attributes := #[] }, { accessFlags := 16409, nameIndex := 39, descriptorIndex := 6, attributes := #[] }, { accessFlags := 16409, nameIndex := 42, descriptorIndex := 6, attributes := #[] }, { accessFlags := 16409, nameIndex := 45, descriptorIndex := 6, attributes := #[] }, { accessFlags := 16409, nameIndex := 48, descriptorIndex := 6, attributes := #[] }, { accessFlags := 16409, nameIndex := 51, descriptorIndex := 6, attributes := #[] }, { accessFlags := 16409, nameIndex := 54, descriptorIndex := 6, attributes := #[] }, { accessFlags := 16409, nameIndex := 57, descriptorIndex := 6, attributes := #[] }, { accessFlags := 16409, nameIndex := 60, descriptorIndex := 6, attributes := #[] }, { accessFlags := 26, nameIndex := 92, descriptorIndex := 64, attributes := #[] }, { accessFlags := 4122, nameIndex := 63, descriptorIndex := 64, attributes := #[] }])
  fields := #[{ name := "OTHER", type := (.object "com/example/hits_from_terms/hitsfromterms/analysis/WordBreak"), accessFlags := 16409, slot := 0, constantValue := 0 }, { name := "CR", type := (.object "com/example/hits_from_terms/hitsfromterms/analysis/WordBreak"), accessFlags := 16409, slot := 1, constantValue := 0 }, { name := "LF", type := (.object "com/example/hits_from_terms/hitsfromterms/analysis/WordBreak"), accessFlags := 16409, slot := 2, constantValue := 0 }, { name := "NEWLINE", type := (.object "com/example/hits_from_terms/hitsfromterms/analysis/WordBreak"), accessFlags := 16409, slot := 3, constantValue := 0 }, { name := "EXTEND", type := (.object "com/example/hits_from_terms/hitsfromterms/analysis/WordBreak"), accessFlags := 16409, slot := 4, constantValue := 0 }, { name := "FORMAT", type := (.object "com/example/hits_from_terms/hitsfromterms/analysis/WordBreak"), accessFlags := 16409, slot := 5, constantValue := 0 }, { name := "ZWJ", type := (.object "com/example/hits_from_terms/hitsfromterms/analysis/WordBreak"), accessFlags := 16409, slot := 6, constantValue := 0 }, { name := "ALETTER", type := (.object "com/example/hits_from_terms/hitsfromterms/analysis/WordBreak"), accessFlags := 16409, slot := 7, constantValue := 0 }, { name := "HEBREW_LETTER", type := (.object "com/example/hits_from_terms/hitsfromterms/analysis/WordBreak"), accessFlags := 16409, slot := 8, constantValue := 0 }, { name := "NUMERIC", type := (.object "com/example/hits_from_terms/hitsfromterms/analysis/WordBreak"), accessFlags := 16409, slot := 9, constantValue := 0 }, { name := "KATAKANA", type := (.object "com/example/hits_from_terms/hitsfromterms/analysis/WordBreak"), accessFlags := 16409, slot := 10, constantValue := 0 }, { name := "EXTEND_NUM_LET", type := (.object "com/example/hits_from_terms/hitsfromterms/analysis/WordBreak"), accessFlags := 16409, slot := 11, constantValue := 0 }, { name := "MID_LETTER", type := (.object "com/example/hits_from_terms/hitsfromterms/analysis/WordBreak"), accessFlags := 16409, slot := 12, constantValue := 0 }, { name := "MID_NUM", type := (.object "com/example/hits_from_terms/hitsfromterms/analysis/WordBreak"), accessFlags := 16409, slot := 13, constantValue := 0 }, { name := "MID_NUM_LET", type := (.object "com/example/hits_from_terms/hitsfromterms/analysis/WordBreak"), accessFlags := 16409, slot := 14, constantValue := 0 }, { name := "SINGLE_QUOTE", type := (.object "com/example/hits_from_terms/hitsfromterms/analysis/WordBreak"), accessFlags := 16409, slot := 15, constantValue := 0 }, { name := "DOUBLE_QUOTE", type := (.object "com/example/hits_from_terms/hitsfromterms/analysis/WordBreak"), accessFlags := 16409, slot := 16, constantValue := 0 }, { name := "REGIONAL_INDICATOR", type := (.object "com/example/hits_from_terms/hitsfromterms/analysis/WordBreak"), accessFlags := 16409, slot := 17, constantValue := 0 }, { name := "WSEG_SPACE", type := (.object "com/example/hits_from_terms/hitsfromterms/analysis/WordBreak"), accessFlags := 16409, slot := 18, constantValue := 0 }, { name := "VALUES", type := (.array (.object "com/example/hits_from_terms/hitsfromterms/analysis/WordBreak")), accessFlags := 26, slot := 19, constantValue := 0 }, { name := "$VALUES", type := (.array (.object "com/example/hits_from_terms/hitsfromterms/analysis/WordBreak")), accessFlags := 4122, slot := 20, constantValue := 0 }]
  methods := #[k6m0, k6m1]
  instanceTypes := #[(.object "java/lang/String"), .int, .int]
  staticTypes := #[(.object "com/example/hits_from_terms/hitsfromterms/analysis/WordBreak"), (.object "com/example/hits_from_terms/hitsfromterms/analysis/WordBreak"), (.object "com/example/hits_from_terms/hitsfromterms/analysis/WordBreak"), (.object "com/example/hits_from_terms/hitsfromterms/analysis/WordBreak"), (.object "com/example/hits_from_terms/hitsfromterms/analysis/WordBreak"), (.object "com/example/hits_from_terms/hitsfromterms/analysis/WordBreak"), (.object "com/example/hits_from_terms/hitsfromterms/analysis/WordBreak"), (.object "com/example/hits_from_terms/hitsfromterms/analysis/WordBreak"), (.object "com/example/hits_from_terms/hitsfromterms/analysis/WordBreak"), (.object "com/example/hits_from_terms/hitsfromterms/analysis/WordBreak"), (.object "com/example/hits_from_terms/hitsfromterms/analysis/WordBreak"), (.object "com/example/hits_from_terms/hitsfromterms/analysis/WordBreak"), (.object "com/example/hits_from_terms/hitsfromterms/analysis/WordBreak"), (.object "com/example/hits_from_terms/hitsfromterms/analysis/WordBreak"), (.object "com/example/hits_from_terms/hitsfromterms/analysis/WordBreak"), (.object "com/example/hits_from_terms/hitsfromterms/analysis/WordBreak"), (.object "com/example/hits_from_terms/hitsfromterms/analysis/WordBreak"), (.object "com/example/hits_from_terms/hitsfromterms/analysis/WordBreak"), (.object "com/example/hits_from_terms/hitsfromterms/analysis/WordBreak"), (.array (.object "com/example/hits_from_terms/hitsfromterms/analysis/WordBreak")), (.array (.object "com/example/hits_from_terms/hitsfromterms/analysis/WordBreak"))]
  resolved := Array.replicate 148 none
  statics := some 0 }

def pool7 : Array CpInfo := pool [(1, u "java/lang/Cloneable"), (0, .class_ 1), (0, u "java/lang/Object"), (0, .class_ 3)] 3

/-- java/lang/Cloneable -/
def k7 : Class := { plain "java/lang/Cloneable" (some 0) with
  accessFlags := 1537
  interfaces := #[]
  cf := some (fileOf pool7 2 #[] #[] 1537 4 #[] #[])
  fields := #[]
  methods := #[]
  instanceTypes := #[]
  staticTypes := #[]
  resolved := Array.replicate 8 none
  statics := none }

/-- the primitive byte -/
def k8 : Class := { plain "byte" none with kind := .primitive 'B', accessFlags := 0x411 }
/-- [B -/
def k9 : Class := { plain "[B" (some 0) with kind := .array 8 .byte, interfaces := #[7, 4], accessFlags := 1041 }

/-- the primitive int -/
def k10 : Class := { plain "int" none with kind := .primitive 'I', accessFlags := 0x411 }
/-- [I -/
def k11 : Class := { plain "[I" (some 0) with kind := .array 10 .int, interfaces := #[7, 4], accessFlags := 1041 }

/-- [Lcom/example/hits_from_terms/hitsfromterms/analysis/WordBreak; -/
def k12 : Class := { plain "[Lcom/example/hits_from_terms/hitsfromterms/analysis/WordBreak;" (some 0) with kind := .array 6 (.object "com/example/hits_from_terms/hitsfromterms/analysis/WordBreak"), interfaces := #[7, 4], accessFlags := 1041 }

def heap : Heap := #[{ cls := 6, slots := #[.ref 2, .ref 3, .ref 4, .ref 5, .ref 17, .ref 7, .ref 15, .ref 9, .ref 12, .ref 18, .ref 11, .ref 10, .ref 19, .ref 20, .ref 13, .ref 6, .ref 16, .ref 8, .ref 14, .ref 1, .null], vm := .statics 6 },
  { cls := 12, slots := #[.ref 2, .ref 3, .ref 4, .ref 5, .ref 17, .ref 7, .ref 15, .ref 9, .ref 12, .ref 18, .ref 11, .ref 10, .ref 19, .ref 20, .ref 13, .ref 6, .ref 16, .ref 8, .ref 14], vm := .none },
  { cls := 6, slots := #[.null, .int 0, .int 0], vm := .none },
  { cls := 6, slots := #[.null, .int 1, .int 0], vm := .none },
  { cls := 6, slots := #[.null, .int 2, .int 0], vm := .none },
  { cls := 6, slots := #[.null, .int 3, .int 0], vm := .none },
  { cls := 6, slots := #[.null, .int 15, .int 0], vm := .none },
  { cls := 6, slots := #[.null, .int 5, .int 0], vm := .none },
  { cls := 6, slots := #[.null, .int 17, .int 0], vm := .none },
  { cls := 6, slots := #[.null, .int 7, .int 0], vm := .none },
  { cls := 6, slots := #[.null, .int 11, .int 0], vm := .none },
  { cls := 6, slots := #[.null, .int 10, .int 0], vm := .none },
  { cls := 6, slots := #[.null, .int 8, .int 0], vm := .none },
  { cls := 6, slots := #[.null, .int 14, .int 0], vm := .none },
  { cls := 6, slots := #[.null, .int 18, .int 0], vm := .none },
  { cls := 6, slots := #[.null, .int 6, .int 0], vm := .none },
  { cls := 6, slots := #[.null, .int 16, .int 0], vm := .none },
  { cls := 6, slots := #[.null, .int 4, .int 0], vm := .none },
  { cls := 6, slots := #[.null, .int 9, .int 0], vm := .none },
  { cls := 6, slots := #[.null, .int 12, .int 0], vm := .none },
  { cls := 6, slots := #[.null, .int 13, .int 0], vm := .none }]
def classes : Array Class := #[k0, k1, k2, k3, k4, k5, k6, k7, k8, k9, k10, k11, k12]
def interned : List (Array UInt16 × Addr) := []
def slotsUsed : Nat := 97
def theMethod : MethodId := ⟨1, 1⟩
def args0 : Array Value := #[.int 5]
def aboutOver (below : List Frame) : State where
  vm := { classes := classes, interned := interned.toArray }
  heap := heap
  slotsUsed := slotsUsed
  threads := #[{ frames := .invoking theMethod args0 :: below }]
def below0 : List Frame := [.native { method := ⟨0, 0⟩, args := #[] }]
def about1 : State := aboutOver below0
def p0 : Program := .bare "" "" ""
def e0 : Env := launch0.env 0 0 0
theorem w_frames : about1.frames = Frame.invoking theMethod args0 :: below0 := rfl
set_option maxRecDepth 65536 in
theorem w_args : argsFit about1.vm theMethod args0 = true := by decide +kernel
set_option maxRecDepth 65536 in
theorem w_heap : heapFits about1 = true := by decide +kernel
set_option maxRecDepth 65536 in
theorem w_runnable : about1.curStatus? = some .runnable := by decide +kernel
set_option maxRecDepth 65536 in
theorem w_alone : about1.alone = true := by decide +kernel
set_option maxRecDepth 65536 in
theorem w_named : about1.methodNamed? x = some theMethod := by decide +kernel
set_option maxRecDepth 65536 in
theorem w_hears : about1.hears theMethod below0 = true := by decide +kernel
set_option maxRecDepth 65536 in
theorem w_ripe : about1.ripe theMethod args0 below0 = true := by decide +kernel
theorem w_running : about1.status = .running := rfl
set_option maxRecDepth 65536 in
theorem w_room : about1.hasRoom e0.platform room_1 = true :=
  launch0.hasRoom_least _ room_1 (by decide +kernel) (by decide +kernel) (by decide +kernel) (by decide +kernel) (by decide +kernel) (by decide +kernel)
theorem allAtoms_all (ts : List Jvm.Cond) (a : Array Jvm.Value) (st : Jvm.State) : (allAtoms ts).before a st = ts.all (fun c => c.before a st) := by
  induction ts with
  | nil => rfl
  | cons c t ih =>
    show (Jvm.Cond.and c (allAtoms t)).before a st = _
    rw [Jvm.Cond.before_and, ih, List.all_cons]
def words1 : List Jvm.Cond := Jvm.Cond.code x code maxLocals ret :: tables_1
/-- a 'code' word, met by the world's own term for the bytes: nothing is compared byte by byte -/
theorem code_word {y : MethodName} {bytes : ByteArray} {mx : Nat} {rt : Option FieldType} {a : Array Value} {s : State} {m : MethodId} {meth : Method} {c : Code} (h1 : s.methodNamed? y = some m) (h2 : s.vm.method? m = some meth) (h3 : meth.code = some c) (h4 : c.code = bytes)
    (h5 : (c.maxLocals == mx && c.exceptionTable.isEmpty && decide (c.maxStack ≤ mostOperands) && decide (meth.sig.returnType = rt) && !meth.locks && decide (parseMethodDescriptor y.desc = some meth.sig)) = true) : (Jvm.Cond.code y bytes mx rt).before a s = true := by
  simp only [Bool.and_eq_true, beq_iff_eq, Bool.not_eq_true', decide_eq_true_eq] at h5
  obtain ⟨⟨⟨⟨⟨g1, g2⟩, g3⟩, g4⟩, g5⟩, g6⟩ := h5
  simp [Cond.before, Cond.holds, Cond.value, h1, h2, h3, h4, g1, g2, g3, g4, g5, g6]
def isCode : Jvm.Cond → Bool
  | .code _ _ _ _ => true
  | _ => false
theorem all_split {L : List Jvm.Cond} {P : Jvm.Cond → Bool} (h1 : L.all (fun c => isCode c || P c) = true) (h2 : ∀ c ∈ L.filter isCode, P c = true) : L.all P = true := by
  refine List.all_eq_true.mpr fun c hc => ?_
  have h := List.all_eq_true.mp h1 c hc
  rcases Bool.eq_false_or_eq_true (isCode c) with hi | hi
  · exact h2 c (List.mem_filter.mpr ⟨hc, hi⟩)
  · simpa [hi] using h
set_option maxRecDepth 65536 in
theorem w_c0 : (Jvm.Cond.code x code maxLocals ret).before args0 about1 = true := code_word (m := ⟨1, 1⟩) (meth := k1m1) (c := k1c1) (by decide +kernel) rfl rfl rfl (by decide +kernel)
set_option maxRecDepth 65536 in
theorem w_c1 : (Jvm.Cond.code ({ cls := "com/example/hits_from_terms/hitsfromterms/analysis/WordBreak", name := "forOrdinal", desc := "(I)Lcom/example/hits_from_terms/hitsfromterms/analysis/WordBreak;" } : Jvm.MethodName) prog_18_method_5_code (1 : Nat) (Option.some (Jvm.ClassFile.FieldType.object "com/example/hits_from_terms/hitsfromterms/analysis/WordBreak"))).before args0 about1 = true := code_word (m := ⟨6, 0⟩) (meth := k6m0) (c := k6c0) (by decide +kernel) rfl rfl rfl (by decide +kernel)
set_option maxRecDepth 65536 in
theorem w_c2 : (Jvm.Cond.code ({ cls := "com/example/hits_from_terms/hitsfromterms/analysis/WordBreak", name := "isLineBreak", desc := "()Z" } : Jvm.MethodName) prog_18_method_7_code (1 : Nat) (Option.some Jvm.ClassFile.FieldType.boolean)).before args0 about1 = true := code_word (m := ⟨6, 1⟩) (meth := k6m1) (c := k6c1) (by decide +kernel) rfl rfl rfl (by decide +kernel)
def codes1 : List Jvm.Cond := [Jvm.Cond.code x code maxLocals ret, Jvm.Cond.code ({ cls := "com/example/hits_from_terms/hitsfromterms/analysis/WordBreak", name := "forOrdinal", desc := "(I)Lcom/example/hits_from_terms/hitsfromterms/analysis/WordBreak;" } : Jvm.MethodName) prog_18_method_5_code (1 : Nat) (Option.some (Jvm.ClassFile.FieldType.object "com/example/hits_from_terms/hitsfromterms/analysis/WordBreak")), Jvm.Cond.code ({ cls := "com/example/hits_from_terms/hitsfromterms/analysis/WordBreak", name := "isLineBreak", desc := "()Z" } : Jvm.MethodName) prog_18_method_7_code (1 : Nat) (Option.some Jvm.ClassFile.FieldType.boolean)]
set_option maxRecDepth 65536 in
theorem codes_eq : words1.filter isCode = codes1 := rfl
theorem w_codes : ∀ c ∈ words1.filter isCode, c.before args0 about1 = true := by
  rw [codes_eq]
  intro c hc
  simp only [codes1, List.mem_cons, List.not_mem_nil, or_false] at hc
  rcases hc with rfl | rfl | rfl
  · exact w_c0
  · exact w_c1
  · exact w_c2
set_option maxRecDepth 65536 in
theorem w_t1 : (words1.take 24).all (fun c => isCode c || c.before args0 about1) = true := by decide +kernel
set_option maxRecDepth 65536 in
theorem w_t2 : (words1.drop 24).all (fun c => isCode c || c.before args0 about1) = true := by decide +kernel
theorem w_tables : (allAtoms (Jvm.Cond.code x code maxLocals ret :: tables_1)).before args0 about1 = true := by
  rw [allAtoms_all]
  show words1.all (fun c => c.before args0 about1) = true
  refine all_split ?_ w_codes
  rw [← List.take_append_drop 24 words1, List.all_append, w_t1, w_t2]
  rfl
set_option maxRecDepth 65536 in
theorem w_case : (Jvm.Cond.and given_1 narrow_1).before args0 about1 = true := by decide +kernel
theorem w_applies : (headSpec (Jvm.Cond.code x code maxLocals ret :: tables_1) room_1).applies x e0.platform about1 = true :=
  (Spec.applies_iff w_frames).mpr ⟨w_running, w_runnable, w_alone, w_named, w_hears, w_ripe, w_room, w_tables⟩
theorem atStart : AtStart classFile x code maxLocals ret World_1 tables_1 room_1 Calls_1 rest_1 Pre_1 launch0 p0 e0 about1 theMethod args0 below0 :=
  ⟨lists_1, trivial, launch0.admits_env _ _ _, launch0.least_env, fairChoices_fair.cas, fairChoices_fair.clock, w_frames, w_args, w_heap, w_applies, trivial, trivial, w_case⟩
end start1
theorem witness_1 : WitnessClaimed_1 := ⟨start1.p0, start1.e0, start1.about1, start1.theMethod, start1.args0, start1.below0, start1.atStart⟩
end Jvm.Pilot.@@N@@
