import JvmDerived
import JvmDerived.Pilot.@@N@@Statement
import JvmDerived.Pilot.@@N@@Code
set_option linter.unusedVariables false
set_option linter.unusedSimpArgs false
namespace Jvm.RoadKit
open Sem ClassFile Op Lib Jvm.Stand Jvm.Free Jvm.LawKit
section New
variable {p : Program} {l : Launch} {e : Env} {R : Room} {s : State} {m : MethodId} {args : Array Value} {below : List Frame} {meth : Method} {c : Code} {T : State} {locs : List Loc} {cells slots : Nat}
theorem retI (X : Stand p l e R s m args below meth c T locs cells slots) (hx : p.tables.exec = Jvm.exec) {pc : Nat} {Ls : Array Slot} {z : Int32} {rest : List Value} (hret : meth.sig.returnType = some .int) (hd : decode c.code pc = .ok (.ireturn, 1)) {fs : List Frame}
    (hl : ∀ (f : JFrame) (acts : List Action), f.method = m → f.locked = none → f.entered = [] → (doReturn e (T.setTop f) acts (some (.int z))).1 = T.setFrames fs) : Steps p.tables e below (T.setTop (mkF m pc Ls (.int z :: rest))) (T.setFrames fs) := by
  have hm' : T.vm.method? m = some meth := X.method'
  have hn : narrow .int (.int z) = .int z := rfl
  show Steps p.tables e below (T.setTop { method := m, pc := pc, locals := Ls, stack := _ :: rest, locked := none }) _
  jvm_step X.here [X.here.top, hx, hd, hm', hret, hn]
  first | (intro acts; rw [hl _ acts rfl rfl rfl]) | rw [hl _ _ rfl rfl rfl]
  exact Steps.refl _
theorem eqv_r {Z : State} {args : Array Value} {X F : Term} {idx : List Nat} {y : Addr} (hF : F.eval args Z none idx Z = some (.ref y)) (h : (Cond.eq X F).value args Z none Z idx = some true) : X.eval args Z none idx Z = some (.ref y) := by
  obtain ⟨x, y', e1, e2, k1, k2⟩ := cmp_v (Or.inl h)
  cases hF.symm.trans e2
  have hx : x.isRef = true := k2.2
  have q : x = .ref y := gotT (eq_R e1 hF hx rfl) h
  rw [e1, q]
end New
end Jvm.RoadKit
namespace Jvm.Pilot.@@N@@
open Jvm Jvm.ClassFile Sem Op Lib Jvm.Free Jvm.Stand Jvm.LawKit Jvm.RoadKit Bundle Jvm.Pilot.@@N@@.Jvm.D
theorem own_eT {Z T : State} {h : Heap} {a : Addr} {c : Cell} {ty : FieldType} (e : T.heap = h) (A : Arr Z h a c ty) : T.heap[a]? = some c := by rw [e]; exact A.1
def Go (p : Program) (e : Env) (below : List Frame) (Qf : Outcome → State → Prop) (W : State) : Prop := ∃ s₂ o, Steps p.tables e below W s₂ ∧ s₂.status = .running ∧ Ended s₂ below o ∧ Qf o s₂
theorem Go.st {p : Program} {e : Env} {below : List Frame} {Qf : Outcome → State → Prop} {W V' : State} (h : ∀ t, Steps p.tables e below V' t → Steps p.tables e below W t) (g : Go p e below Qf V') : Go p e below Qf W := by
  obtain ⟨s₂, o, g1, g2⟩ := g
  exact ⟨s₂, o, h _ g1, g2⟩
theorem Go.out {p : Program} {e : Env} {below : List Frame} {Qf : Outcome → State → Prop} {W : State} (g : Go p e below Qf W) : ∃ s₂ o, Steps p.tables e below W s₂ ∧ s₂.status = .running ∧ Ended s₂ below o ∧ Qf o s₂ := g
theorem Go.mk' {p : Program} {e : Env} {below : List Frame} {Qf : Outcome → State → Prop} {W : State} (g : ∃ s₂ o, Steps p.tables e below W s₂ ∧ s₂.status = .running ∧ Ended s₂ below o ∧ Qf o s₂) : Go p e below Qf W := g
theorem Go.dia {p : Program} {e : Env} {below : List Frame} {Qf : Outcome → State → Prop} {W VJ : State} {c : Prop} [Decidable c] (h1 : c → ∀ t, Steps p.tables e below VJ t → Steps p.tables e below W t) (h2 : ¬ c → ∀ t, Steps p.tables e below VJ t → Steps p.tables e below W t) (g : Go p e below Qf VJ) : Go p e below Qf W :=
  if hc : c then g.st (h1 hc) else g.st (h2 hc)
theorem own_rng (x d : Int32) (D : Int) (hd : d.toInt = D) (h0 : 0 < D) : 0 ≤ ((x &&& (2147483647 : Int32)) % d).toInt ∧ ((x &&& (2147483647 : Int32)) % d).toInt < D := by
  have a := c_and x 2147483647 (by decide)
  have b := (c_irem (x &&& 2147483647) d D hd).1 a.1
  rw [b]
  exact ⟨Int.emod_nonneg _ (by omega), Int.emod_lt_of_pos _ h0⟩
theorem own_cases12 {k : Int32} (h : 0 ≤ k.toInt ∧ k.toInt < 12) : k = (0 : Int32) ∨ k = (1 : Int32) ∨ k = (2 : Int32) ∨ k = (3 : Int32) ∨ k = (4 : Int32) ∨ k = (5 : Int32) ∨ k = (6 : Int32) ∨ k = (7 : Int32) ∨ k = (8 : Int32) ∨ k = (9 : Int32) ∨ k = (10 : Int32) ∨ k = (11 : Int32) := by
  have e : ∀ n : Int32, k.toInt = n.toInt → k = n := fun n h => Int32.toInt_inj.mp h
  have q : k.toInt = 0 ∨ k.toInt = 1 ∨ k.toInt = 2 ∨ k.toInt = 3 ∨ k.toInt = 4 ∨ k.toInt = 5 ∨ k.toInt = 6 ∨ k.toInt = 7 ∨ k.toInt = 8 ∨ k.toInt = 9 ∨ k.toInt = 10 ∨ k.toInt = 11 := by omega
  rcases q with q | q | q | q | q | q | q | q | q | q | q | q
  · exact Or.inl (e 0 (q.trans (by decide)))
  · exact Or.inr (Or.inl (e 1 (q.trans (by decide))))
  · exact Or.inr (Or.inr (Or.inl (e 2 (q.trans (by decide)))))
  · exact Or.inr (Or.inr (Or.inr (Or.inl (e 3 (q.trans (by decide))))))
  · exact Or.inr (Or.inr (Or.inr (Or.inr (Or.inl (e 4 (q.trans (by decide)))))))
  · exact Or.inr (Or.inr (Or.inr (Or.inr (Or.inr (Or.inl (e 5 (q.trans (by decide))))))))
  · exact Or.inr (Or.inr (Or.inr (Or.inr (Or.inr (Or.inr (Or.inl (e 6 (q.trans (by decide)))))))))
  · exact Or.inr (Or.inr (Or.inr (Or.inr (Or.inr (Or.inr (Or.inr (Or.inl (e 7 (q.trans (by decide))))))))))
  · exact Or.inr (Or.inr (Or.inr (Or.inr (Or.inr (Or.inr (Or.inr (Or.inr (Or.inl (e 8 (q.trans (by decide)))))))))))
  · exact Or.inr (Or.inr (Or.inr (Or.inr (Or.inr (Or.inr (Or.inr (Or.inr (Or.inr (Or.inl (e 9 (q.trans (by decide))))))))))))
  · exact Or.inr (Or.inr (Or.inr (Or.inr (Or.inr (Or.inr (Or.inr (Or.inr (Or.inr (Or.inr (Or.inl (e 10 (q.trans (by decide)))))))))))))
  · exact Or.inr (Or.inr (Or.inr (Or.inr (Or.inr (Or.inr (Or.inr (Or.inr (Or.inr (Or.inr (Or.inr (e 11 (q.trans (by decide)))))))))))))
theorem own_len {s : State} {args : Array Value} {t : Term} {a : Addr} {cl : Cell} {ty : FieldType} {n : Int32} (et : t.eval args s none [] s = some (.ref a)) (A : Arr s s.heap a cl ty) (h : (Jvm.Cond.eq (.length t) (.int n)).value args s none s [] = some true) : cl.slots.size < 2 ^ 31 ∧ cl.slots.size.toInt32 = n := by
  have q := eqv_i (Term.int_eval n) h
  have f := A.fin (U := s) (Vm.Alike.refl _)
  simp only [Term.eval, et, f, Option.bind_eq_bind, Option.bind_some] at q
  split at q
  · rename_i hs
    exact ⟨hs, by simpa using q⟩
  · simp at q
theorem own_elr {s : State} {args : Array Value} {t F : Term} {a y : Addr} {cl : Cell} {ty : FieldType} {j : Int32} {i : Nat} (et : t.eval args s none [] s = some (.ref a)) (A : Arr s s.heap a cl ty) (eX : F.eval args s none [] s = some (.ref y)) (h : (Jvm.Cond.eq (.elem t (.int j)) F).value args s none s [] = some true) (hj : ¬ j < 0) (hi : j.toNatClampNeg = i) : cl.slots[i]? = some (.ref y) :=
  hi ▸ (elem_f et (Term.int_eval j) (A.fin (Vm.Alike.refl _)) hj).symm.trans (eqv_r eX h)
theorem own_ns_root {Z : State} {a0 : Array Value} {O K : String} {n : Nat} (w : (Jvm.Cond.noSuperclass O).before a0 Z = true) (wk : (Jvm.Cond.instantiable K n).before a0 Z = true) (hn : O ≠ K) : NS Z O K := by
  obtain ⟨c, k, h1, h2, h3, -, -⟩ := Cond.noSuperclass_spec w
  obtain ⟨t, k', g1, -⟩ := Cond.instantiable_spec wk
  have ne := ids_ne h1 g1 hn
  refine ⟨c, t, h1, g1, fun fuel => ?_⟩
  cases fuel with
  | zero => rfl
  | succ f => simp [Vm.isSubclassAux, ne, h2, h3]
theorem own_ns_no {Z : State} {a0 : Array Value} {C S K : String} {n : Nat} (w : (Jvm.Cond.superclass C S).before a0 Z = true) (wk : (Jvm.Cond.instantiable K n).before a0 Z = true) (h : NS Z C K) (hn : C ≠ K) : ∃ c t, Z.vm.findClass C = some c ∧ Z.vm.findClass K = some t ∧ Z.vm.assignable c t = false := by
  obtain ⟨c, t, h0, g0, n3⟩ := h
  obtain ⟨p, k, kp, h1, h2, h3, h4, h5, -, h7⟩ := Cond.superclass_spec h0 w
  obtain ⟨t', k', g1, g2, g5, g6, -⟩ := Cond.instantiable_spec wk
  cases g0.symm.trans g1
  have g7 : k'.isInterface = false := by simp only [Bool.or_eq_false_iff] at g6; exact g6.1
  have ne := ids_ne h0 g0 hn
  refine ⟨c, t, h0, g0, ?_⟩
  show Z.vm.assignableAux (255 + 1) c t = false
  simp [Vm.assignableAux, ne, h2, g2, h5, g5, g7, Vm.isSubclass, n3]
theorem own_sub128 {Z : State} {args : Array Value} {X : Term} {j : Int32} (hj : ¬ j < 0) (h : (Jvm.Cond.eq X (.sub (.index 0) (.int 128))).value args Z none Z [j.toNatClampNeg] = some true) : X.eval args Z none [j.toNatClampNeg] Z = some (.int (j - 128)) := by
  refine eqv_i ?_ h
  simp [Term.eval, (back32 hj).1]
theorem own_in {p0 : Int32} (h1 : ¬ p0 < (-128 : Int32)) (h2 : ¬ (127 : Int32) < p0) : ¬ (p0 + (128 : Int32)) < 0 ∧ (p0 + (128 : Int32)) < (256 : Int32) := by
  have c := c_iadd p0 128
  have r := rng32 (p0 + 128)
  have e1 : (-128 : Int32).toInt = -128 := by decide
  have e2 : (127 : Int32).toInt = 127 := by decide
  have e3 : (128 : Int32).toInt = 128 := by decide
  have e4 : (256 : Int32).toInt = 256 := by decide
  have e5 : (0 : Int32).toInt = 0 := by decide
  rw [Int32.lt_iff_toInt_lt] at h1 h2 ⊢
  rw [Int32.lt_iff_toInt_lt]
  omega
theorem own_z64 (a d : Int64) : (a + d = a) = (d = 0) := by
  apply propext
  constructor
  · intro h
    have c := c_ladd a d
    have r := rng64 d
    rw [h] at c
    apply Int64.toInt_inj.mp
    show d.toInt = 0
    omega
  · intro h; rw [h]; simp
theorem own_z64' (a d : Int64) : (a = a + d) = (d = 0) := by rw [eq_comm (a := a), own_z64]
theorem own_z32 (a d : Int32) : (a + d = a) = (d = 0) := by
  apply propext
  constructor
  · intro h
    have c := c_iadd a d
    have r := rng32 d
    rw [h] at c
    apply Int32.toInt_inj.mp
    show d.toInt = 0
    omega
  · intro h; rw [h]; simp
theorem own_z32' (a d : Int32) : (a = a + d) = (d = 0) := by rw [eq_comm (a := a), own_z32]
def W0 (Z : State) (s_icache : Addr) (cl_icache : Cell) : Prop :=
  (Sta Z Z.heap "java/lang/Integer$IntegerCache" "high" "I" (.int (127 : Int32))) ∧
  (Bxs Z s_icache cl_icache "java/lang/Integer" "I" (256 : Int32) (fun j => .int (j - 128))) ∧
  (Sta Z Z.heap "java/lang/Integer$IntegerCache" "cache" "[Ljava/lang/Integer;" (.ref s_icache))
theorem own_d2_0 : decode prog_57_method_1_code 0 = .ok (.aload_n 0, 1) := by decide +kernel
theorem own_d2_1 : decode prog_57_method_1_code 1 = .ok (.invokespecial 1, 3) := by decide +kernel
theorem own_d2_4 : decode prog_57_method_1_code 4 = .ok (.aload_n 0, 1) := by decide +kernel
theorem own_d2_5 : decode prog_57_method_1_code 5 = .ok (.lload_n 1, 1) := by decide +kernel
theorem own_d2_6 : decode prog_57_method_1_code 6 = .ok (.putfield 7, 3) := by decide +kernel
theorem own_d2_9 : decode prog_57_method_1_code 9 = .ok (.aload_n 0, 1) := by decide +kernel
theorem own_d2_10 : decode prog_57_method_1_code 10 = .ok (.lload_n 3, 1) := by decide +kernel
theorem own_d2_11 : decode prog_57_method_1_code 11 = .ok (.putfield 13, 3) := by decide +kernel
theorem own_d2_14 : decode prog_57_method_1_code 14 = .ok (.aload_n 0, 1) := by decide +kernel
theorem own_d2_15 : decode prog_57_method_1_code 15 = .ok (.lload 5, 2) := by decide +kernel
theorem own_d2_17 : decode prog_57_method_1_code 17 = .ok (.putfield 16, 3) := by decide +kernel
theorem own_d2_20 : decode prog_57_method_1_code 20 = .ok (.aload_n 0, 1) := by decide +kernel
theorem own_d2_21 : decode prog_57_method_1_code 21 = .ok (.lload 7, 2) := by decide +kernel
theorem own_d2_23 : decode prog_57_method_1_code 23 = .ok (.putfield 19, 3) := by decide +kernel
theorem own_d2_26 : decode prog_57_method_1_code 26 = .ok (.aload_n 0, 1) := by decide +kernel
theorem own_d2_27 : decode prog_57_method_1_code 27 = .ok (.iload 9, 2) := by decide +kernel
theorem own_d2_29 : decode prog_57_method_1_code 29 = .ok (.putfield 22, 3) := by decide +kernel
theorem own_d2_32 : decode prog_57_method_1_code 32 = .ok (.aload_n 0, 1) := by decide +kernel
theorem own_d2_33 : decode prog_57_method_1_code 33 = .ok (.iload 10, 2) := by decide +kernel
theorem own_d2_35 : decode prog_57_method_1_code 35 = .ok (.putfield 26, 3) := by decide +kernel
theorem own_d2_38 : decode prog_57_method_1_code 38 = .ok (.aload_n 0, 1) := by decide +kernel
theorem own_d2_39 : decode prog_57_method_1_code 39 = .ok (.iload 11, 2) := by decide +kernel
theorem own_d2_41 : decode prog_57_method_1_code 41 = .ok (.putfield 29, 3) := by decide +kernel
theorem own_d2_44 : decode prog_57_method_1_code 44 = .ok (.aload_n 0, 1) := by decide +kernel
theorem own_d2_45 : decode prog_57_method_1_code 45 = .ok (.lload 12, 2) := by decide +kernel
theorem own_d2_47 : decode prog_57_method_1_code 47 = .ok (.putfield 32, 3) := by decide +kernel
theorem own_d2_50 : decode prog_57_method_1_code 50 = .ok (.aload_n 0, 1) := by decide +kernel
theorem own_d2_51 : decode prog_57_method_1_code 51 = .ok (.iload 14, 2) := by decide +kernel
theorem own_d2_53 : decode prog_57_method_1_code 53 = .ok (.putfield 35, 3) := by decide +kernel
theorem own_d2_56 : decode prog_57_method_1_code 56 = .ok (.aload_n 0, 1) := by decide +kernel
theorem own_d2_57 : decode prog_57_method_1_code 57 = .ok (.iload 15, 2) := by decide +kernel
theorem own_d2_59 : decode prog_57_method_1_code 59 = .ok (.putfield 38, 3) := by decide +kernel
theorem own_d2_62 : decode prog_57_method_1_code 62 = .ok (.aload_n 0, 1) := by decide +kernel
theorem own_d2_63 : decode prog_57_method_1_code 63 = .ok (.lload 16, 2) := by decide +kernel
theorem own_d2_65 : decode prog_57_method_1_code 65 = .ok (.putfield 41, 3) := by decide +kernel
theorem own_d2_68 : decode prog_57_method_1_code 68 = .ok (.return_, 1) := by decide +kernel
theorem own_pn0 : plainName "com/example/numtick/numtick/protocol/Stat" = true := by first | (simp [plainName, overriddenIn]; done) | decide +kernel
theorem ef2 (m : MethodId) (r0 : Addr) (q1 : Int64) (q2 : Int64) (q3 : Int64) (q4 : Int64) (p5 : Int32) (p6 : Int32) (p7 : Int32) (q8 : Int64) (p9 : Int32) (p10 : Int32) (q11 : Int64) : entryFrame m #[(.ref r0), (.long q1), (.long q2), (.long q3), (.long q4), (.int p5), (.int p6), (.int p7), (.long q8), (.int p9), (.int p10), (.long q11)] 18 = mkF m 0 #[.val (.ref r0), .val (.long q1), .second, .val (.long q2), .second, .val (.long q3), .second, .val (.long q4), .second, .val (.int p5), .val (.int p6), .val (.int p7), .val (.long q8), .second, .val (.int p9), .val (.int p10), .val (.long q11), .second] [] := by first | (simp [entryFrame, mkF, argsToLocals, Value.category]; done) | rfl
def Q2 (Z : State) (s_icache : Addr) (cl_icache : Cell) (r0 : Addr) (q1 : Int64) (q2 : Int64) (q3 : Int64) (q4 : Int64) (p5 : Int32) (p6 : Int32) (p7 : Int32) (q8 : Int64) (p9 : Int32) (p10 : Int32) (q11 : Int64) (u_czxid_r0 : Value) (u_mzxid_r0 : Value) (u_ctime_r0 : Value) (u_mtime_r0 : Value) (u_version_r0 : Value) (u_cversion_r0 : Value) (u_aversion_r0 : Value) (u_ephemeralOwner_r0 : Value) (u_dataLength_r0 : Value) (u_numChildren_r0 : Value) (u_pzxid_r0 : Value) (h0 : Heap) (n0 : Nat) (v : Option Value) (h : Heap) (L : List Loc) : Prop := v = none ∧ Fr n0 L ∧ Keep h0 h [r0] ∧ Fld Z h r0 "com/example/numtick/numtick/protocol/Stat" "czxid" "J" (.long q1) ∧ Fld Z h r0 "com/example/numtick/numtick/protocol/Stat" "mzxid" "J" (.long q2) ∧ Fld Z h r0 "com/example/numtick/numtick/protocol/Stat" "ctime" "J" (.long q3) ∧ Fld Z h r0 "com/example/numtick/numtick/protocol/Stat" "mtime" "J" (.long q4) ∧ Fld Z h r0 "com/example/numtick/numtick/protocol/Stat" "version" "I" (.int p5) ∧ Fld Z h r0 "com/example/numtick/numtick/protocol/Stat" "cversion" "I" (.int p6) ∧ Fld Z h r0 "com/example/numtick/numtick/protocol/Stat" "aversion" "I" (.int p7) ∧ Fld Z h r0 "com/example/numtick/numtick/protocol/Stat" "ephemeralOwner" "J" (.long q8) ∧ Fld Z h r0 "com/example/numtick/numtick/protocol/Stat" "dataLength" "I" (.int p9) ∧ Fld Z h r0 "com/example/numtick/numtick/protocol/Stat" "numChildren" "I" (.int p10) ∧ Fld Z h r0 "com/example/numtick/numtick/protocol/Stat" "pzxid" "J" (.long q11) ∧ Exa Z h r0 "com/example/numtick/numtick/protocol/Stat"
set_option maxRecDepth 65536 in
set_option maxHeartbeats 40000000 in
theorem rm2 (l : Launch) (Z : State) (a0 : Array Value) (hw : ∀ d ∈ tables_1, d.before a0 Z = true) (ws : List Jvm.Cond) (s_icache : Addr) (cl_icache : Cell) (HW : W0 Z s_icache cl_icache) (r0 : Addr) (q1 : Int64) (q2 : Int64) (q3 : Int64) (q4 : Int64) (p5 : Int32) (p6 : Int32) (p7 : Int32) (q8 : Int64) (p9 : Int32) (p10 : Int32) (q11 : Int64) (u_czxid_r0 : Value) (u_mzxid_r0 : Value) (u_ctime_r0 : Value) (u_mtime_r0 : Value) (u_version_r0 : Value) (u_cversion_r0 : Value) (u_aversion_r0 : Value) (u_ephemeralOwner_r0 : Value) (u_dataLength_r0 : Value) (u_numChildren_r0 : Value) (u_pzxid_r0 : Value) (h0 : Heap) (n0 : Nat) (O0 : Old Z n0 h0) (E_r0 : Exa Z h0 r0 "com/example/numtick/numtick/protocol/Stat") (F_czxid_r0 : Fld Z h0 r0 "com/example/numtick/numtick/protocol/Stat" "czxid" "J" u_czxid_r0) (g_r0 : n0 ≤ r0) (F_mzxid_r0 : Fld Z h0 r0 "com/example/numtick/numtick/protocol/Stat" "mzxid" "J" u_mzxid_r0) (F_ctime_r0 : Fld Z h0 r0 "com/example/numtick/numtick/protocol/Stat" "ctime" "J" u_ctime_r0) (F_mtime_r0 : Fld Z h0 r0 "com/example/numtick/numtick/protocol/Stat" "mtime" "J" u_mtime_r0) (F_version_r0 : Fld Z h0 r0 "com/example/numtick/numtick/protocol/Stat" "version" "I" u_version_r0) (F_cversion_r0 : Fld Z h0 r0 "com/example/numtick/numtick/protocol/Stat" "cversion" "I" u_cversion_r0) (F_aversion_r0 : Fld Z h0 r0 "com/example/numtick/numtick/protocol/Stat" "aversion" "I" u_aversion_r0) (F_ephemeralOwner_r0 : Fld Z h0 r0 "com/example/numtick/numtick/protocol/Stat" "ephemeralOwner" "J" u_ephemeralOwner_r0) (F_dataLength_r0 : Fld Z h0 r0 "com/example/numtick/numtick/protocol/Stat" "dataLength" "I" u_dataLength_r0) (F_numChildren_r0 : Fld Z h0 r0 "com/example/numtick/numtick/protocol/Stat" "numChildren" "I" u_numChildren_r0) (F_pzxid_r0 : Fld Z h0 r0 "com/example/numtick/numtick/protocol/Stat" "pzxid" "J" u_pzxid_r0) :
    MetFree l (⟨"com/example/numtick/numtick/protocol/Stat", "<init>", "(JJJJIIIJIIJ)V"⟩ : MethodName) (head1 (Jvm.Cond.code (⟨"com/example/numtick/numtick/protocol/Stat", "<init>", "(JJJJIIIJIIJ)V"⟩ : MethodName) prog_57_method_1_code 18 none :: ws) ({ frames := 1, cells := 0, slots := 0, locals := 12 } : Room)) (fun a U => a = #[(.ref r0), (.long q1), (.long q2), (.long q3), (.long q4), (.int p5), (.int p6), (.int p7), (.long q8), (.int p9), (.int p10), (.long q11)] ∧ Z.Warmed39 U.vm ∧ U.heap = h0) (fun _ _ _ _ _ => True) (fun _ U o U' => ∃ v L, o = .returned v ∧ Q2 Z s_icache cl_icache r0 q1 q2 q3 q4 p5 p6 p7 q8 p9 p10 q11 u_czxid_r0 u_mzxid_r0 u_ctime_r0 u_mtime_r0 u_version_r0 u_cversion_r0 u_aversion_r0 u_ephemeralOwner_r0 u_dataLength_r0 u_numChildren_r0 u_pzxid_r0 h0 n0 v U'.heap L ∧ FrameEnd U o U' L ({ frames := 1, cells := 0, slots := 0, locals := 12 } : Room).cells ({ frames := 1, cells := 0, slots := 0, locals := 12 } : Room).slots) := by
  refine MetFree.of_bodySF (plainFor_of_name own_pn0) hisR ?_
  intro p e s m args below meth c s₁ Bd hml0 hP hK
  obtain ⟨rfl, hZ, hh⟩ := hP
  obtain ⟨S_ihigh, B_icache, S_icache⟩ := id HW
  have hx := Bd.exec
  have hby := Bd.bytes
  have hml : c.maxLocals = 18 := hml0
  have hown : s.vm.findClass "com/example/numtick/numtick/protocol/Stat" = some m.cls := findClass_of_methodNamed Bd.named
  have hnm := (name_of_methodNamed Bd.named Bd.method).1
  have X0 : Stand p l e ({ frames := 1, cells := 0, slots := 0, locals := 12 } : Room) s m #[(.ref r0), (.long q1), (.long q2), (.long q3), (.long q4), (.int p5), (.int p6), (.int p7), (.long q8), (.int p9), (.int p10), (.long q11)] below meth c s₁ [] 0 0 := Stand.of_body Bd
  have e0 : s₁.heap = h0 := by rw [← hh, Bd.state]; rfl
  have N0 := Fr.nil n0
  have K0 := Keep.refl h0 [r0]
  refine Go.out ?_
  refine Go.st (V' := s₁.setTop (mkF m 0 #[.val (.ref r0), .val (.long q1), .second, .val (.long q2), .second, .val (.long q3), .second, .val (.long q4), .second, .val (.int p5), .val (.int p6), .val (.int p7), .val (.long q8), .second, .val (.int p9), .val (.int p10), .val (.long q11), .second] [])) (fun t k => castTop (ef2 m r0 q1 q2 q3 q4 p5 p6 p7 q8 p9 p10 q11) k) ?_
  refine Go.st (V' := s₁.setTop (mkF m 1 #[.val (.ref r0), .val (.long q1), .second, .val (.long q2), .second, .val (.long q3), .second, .val (.long q4), .second, .val (.int p5), .val (.int p6), .val (.int p7), .val (.long q8), .second, .val (.int p9), .val (.int p10), .val (.long q11), .second] [(.ref r0)])) (fun t k => ?_) ?_
  · refine XS.aloadN X0.here hx rfl (hb hby own_d2_0) rfl rfl ?_
    show Steps p.tables e below (s₁.setTop (mkF m 1 #[.val (.ref r0), .val (.long q1), .second, .val (.long q2), .second, .val (.long q3), .second, .val (.long q4), .second, .val (.int p5), .val (.int p6), .val (.int p7), .val (.long q8), .second, .val (.int p9), .val (.int p10), .val (.long q11), .second] [(.ref r0)])) _
    exact k
  obtain ⟨T1, X1, e1, st1⟩ := initO X0 hx hZ hown (hw _ (List.mem_of_getElem? (i := 12) rfl)) (hw _ (List.mem_of_getElem? (i := 13) rfl)) (hw _ (List.mem_of_getElem? (i := 14) rfl)) e0 (g := (mkF m 1 #[.val (.ref r0), .val (.long q1), .second, .val (.long q2), .second, .val (.long q3), .second, .val (.long q4), .second, .val (.int p5), .val (.int p6), .val (.int p7), .val (.long q8), .second, .val (.int p9), .val (.int p10), .val (.long q11), .second] [(.ref r0)])) rfl (by rw [hml]; rfl) rfl (hb hby own_d2_1) (by decide) (W := 0) (by show 2 * 0 + _ ≤ _; exact Nat.le_of_eq rfl) (by decide)
  refine Go.st (V' := T1.setTop (mkF m 4 #[.val (.ref r0), .val (.long q1), .second, .val (.long q2), .second, .val (.long q3), .second, .val (.long q4), .second, .val (.int p5), .val (.int p6), .val (.int p7), .val (.long q8), .second, .val (.int p9), .val (.int p10), .val (.long q11), .second] [])) (fun t k => st1 t k) ?_
  refine Go.st (V' := T1.setTop (mkF m 6 #[.val (.ref r0), .val (.long q1), .second, .val (.long q2), .second, .val (.long q3), .second, .val (.long q4), .second, .val (.int p5), .val (.int p6), .val (.int p7), .val (.long q8), .second, .val (.int p9), .val (.int p10), .val (.long q11), .second] [(.long q1), (.ref r0)])) (fun t k => ?_) ?_
  · refine XS.aloadN X1.here hx rfl (hb hby own_d2_4) rfl rfl ?_
    show Steps p.tables e below (T1.setTop (mkF m 5 #[.val (.ref r0), .val (.long q1), .second, .val (.long q2), .second, .val (.long q3), .second, .val (.long q4), .second, .val (.int p5), .val (.int p6), .val (.int p7), .val (.long q8), .second, .val (.int p9), .val (.int p10), .val (.long q11), .second] [(.ref r0)])) _
    refine XS.lloadN X1.here hx rfl (hb hby own_d2_5) rfl  ?_
    show Steps p.tables e below (T1.setTop (mkF m 6 #[.val (.ref r0), .val (.long q1), .second, .val (.long q2), .second, .val (.long q3), .second, .val (.long q4), .second, .val (.int p5), .val (.int p6), .val (.int p7), .val (.long q8), .second, .val (.int p9), .val (.int p10), .val (.long q11), .second] [(.long q1), (.ref r0)])) _
    exact k
  obtain ⟨T2, h2, X2, e2, W2, st2⟩ := putF X1 hx hZ hown (host := "") (Or.inl (hw _ (List.mem_of_getElem? (i := 15) rfl))) Via.refl e1 F_czxid_r0 E_r0 (Or.inr ⟨(hw _ (List.mem_of_getElem? (i := 16) rfl)), rfl, hnm⟩) (hw _ (List.mem_of_getElem? (i := 6) rfl)) (ty := .long) (by decide) rfl rfl (g := (mkF m 6 #[.val (.ref r0), .val (.long q1), .second, .val (.long q2), .second, .val (.long q3), .second, .val (.long q4), .second, .val (.int p5), .val (.int p6), .val (.int p7), .val (.long q8), .second, .val (.int p9), .val (.int p10), .val (.long q11), .second] [(.long q1), (.ref r0)])) rfl rfl (hb hby own_d2_6)
  have O2 := O0.wr W2 g_r0
  have F2 := F_czxid_r0.same W2
  have N2 := Fr.snoc X2 N0 g_r0
  have K2 := K0.wr W2 (Or.inl (List.mem_of_getElem? (i := 0) rfl))
  refine Go.st (V' := T2.setTop (mkF m 9 #[.val (.ref r0), .val (.long q1), .second, .val (.long q2), .second, .val (.long q3), .second, .val (.long q4), .second, .val (.int p5), .val (.int p6), .val (.int p7), .val (.long q8), .second, .val (.int p9), .val (.int p10), .val (.long q11), .second] [])) (fun t k => st2 t k) ?_
  refine Go.st (V' := T2.setTop (mkF m 11 #[.val (.ref r0), .val (.long q1), .second, .val (.long q2), .second, .val (.long q3), .second, .val (.long q4), .second, .val (.int p5), .val (.int p6), .val (.int p7), .val (.long q8), .second, .val (.int p9), .val (.int p10), .val (.long q11), .second] [(.long q2), (.ref r0)])) (fun t k => ?_) ?_
  · refine XS.aloadN X2.here hx rfl (hb hby own_d2_9) rfl rfl ?_
    show Steps p.tables e below (T2.setTop (mkF m 10 #[.val (.ref r0), .val (.long q1), .second, .val (.long q2), .second, .val (.long q3), .second, .val (.long q4), .second, .val (.int p5), .val (.int p6), .val (.int p7), .val (.long q8), .second, .val (.int p9), .val (.int p10), .val (.long q11), .second] [(.ref r0)])) _
    refine XS.lloadN X2.here hx rfl (hb hby own_d2_10) rfl  ?_
    show Steps p.tables e below (T2.setTop (mkF m 11 #[.val (.ref r0), .val (.long q1), .second, .val (.long q2), .second, .val (.long q3), .second, .val (.long q4), .second, .val (.int p5), .val (.int p6), .val (.int p7), .val (.long q8), .second, .val (.int p9), .val (.int p10), .val (.long q11), .second] [(.long q2), (.ref r0)])) _
    exact k
  obtain ⟨T3, h3, X3, e3, W3, st3⟩ := putF X2 hx hZ hown (host := "") (Or.inl (hw _ (List.mem_of_getElem? (i := 17) rfl))) Via.refl e2 (F_mzxid_r0.other W2 (Or.inr (slot_ne (Or.inr (hw _ (List.mem_of_getElem? (i := 18) rfl))) (Or.inr (hw _ (List.mem_of_getElem? (i := 16) rfl))) (by decide) (t := .long) (t' := .long) (by decide) (by decide)))) (E_r0.wr W2) (Or.inr ⟨(hw _ (List.mem_of_getElem? (i := 18) rfl)), rfl, hnm⟩) (hw _ (List.mem_of_getElem? (i := 6) rfl)) (ty := .long) (by decide) rfl rfl (g := (mkF m 11 #[.val (.ref r0), .val (.long q1), .second, .val (.long q2), .second, .val (.long q3), .second, .val (.long q4), .second, .val (.int p5), .val (.int p6), .val (.int p7), .val (.long q8), .second, .val (.int p9), .val (.int p10), .val (.long q11), .second] [(.long q2), (.ref r0)])) rfl rfl (hb hby own_d2_11)
  have O3 := O2.wr W3 g_r0
  have F3 := (F_mzxid_r0.other W2 (Or.inr (slot_ne (Or.inr (hw _ (List.mem_of_getElem? (i := 18) rfl))) (Or.inr (hw _ (List.mem_of_getElem? (i := 16) rfl))) (by decide) (t := .long) (t' := .long) (by decide) (by decide)))).same W3
  have N3 := Fr.snoc X3 N2 g_r0
  have K3 := K2.wr W3 (Or.inl (List.mem_of_getElem? (i := 0) rfl))
  refine Go.st (V' := T3.setTop (mkF m 14 #[.val (.ref r0), .val (.long q1), .second, .val (.long q2), .second, .val (.long q3), .second, .val (.long q4), .second, .val (.int p5), .val (.int p6), .val (.int p7), .val (.long q8), .second, .val (.int p9), .val (.int p10), .val (.long q11), .second] [])) (fun t k => st3 t k) ?_
  refine Go.st (V' := T3.setTop (mkF m 17 #[.val (.ref r0), .val (.long q1), .second, .val (.long q2), .second, .val (.long q3), .second, .val (.long q4), .second, .val (.int p5), .val (.int p6), .val (.int p7), .val (.long q8), .second, .val (.int p9), .val (.int p10), .val (.long q11), .second] [(.long q3), (.ref r0)])) (fun t k => ?_) ?_
  · refine XS.aloadN X3.here hx rfl (hb hby own_d2_14) rfl rfl ?_
    show Steps p.tables e below (T3.setTop (mkF m 15 #[.val (.ref r0), .val (.long q1), .second, .val (.long q2), .second, .val (.long q3), .second, .val (.long q4), .second, .val (.int p5), .val (.int p6), .val (.int p7), .val (.long q8), .second, .val (.int p9), .val (.int p10), .val (.long q11), .second] [(.ref r0)])) _
    refine XS.lload X3.here hx rfl (hb hby own_d2_15) rfl  ?_
    show Steps p.tables e below (T3.setTop (mkF m 17 #[.val (.ref r0), .val (.long q1), .second, .val (.long q2), .second, .val (.long q3), .second, .val (.long q4), .second, .val (.int p5), .val (.int p6), .val (.int p7), .val (.long q8), .second, .val (.int p9), .val (.int p10), .val (.long q11), .second] [(.long q3), (.ref r0)])) _
    exact k
  obtain ⟨T4, h4, X4, e4, W4, st4⟩ := putF X3 hx hZ hown (host := "") (Or.inl (hw _ (List.mem_of_getElem? (i := 19) rfl))) Via.refl e3 ((F_ctime_r0.other W2 (Or.inr (slot_ne (Or.inr (hw _ (List.mem_of_getElem? (i := 20) rfl))) (Or.inr (hw _ (List.mem_of_getElem? (i := 16) rfl))) (by decide) (t := .long) (t' := .long) (by decide) (by decide)))).other W3 (Or.inr (slot_ne (Or.inr (hw _ (List.mem_of_getElem? (i := 20) rfl))) (Or.inr (hw _ (List.mem_of_getElem? (i := 18) rfl))) (by decide) (t := .long) (t' := .long) (by decide) (by decide)))) ((E_r0.wr W2).wr W3) (Or.inr ⟨(hw _ (List.mem_of_getElem? (i := 20) rfl)), rfl, hnm⟩) (hw _ (List.mem_of_getElem? (i := 6) rfl)) (ty := .long) (by decide) rfl rfl (g := (mkF m 17 #[.val (.ref r0), .val (.long q1), .second, .val (.long q2), .second, .val (.long q3), .second, .val (.long q4), .second, .val (.int p5), .val (.int p6), .val (.int p7), .val (.long q8), .second, .val (.int p9), .val (.int p10), .val (.long q11), .second] [(.long q3), (.ref r0)])) rfl rfl (hb hby own_d2_17)
  have O4 := O3.wr W4 g_r0
  have F4 := ((F_ctime_r0.other W2 (Or.inr (slot_ne (Or.inr (hw _ (List.mem_of_getElem? (i := 20) rfl))) (Or.inr (hw _ (List.mem_of_getElem? (i := 16) rfl))) (by decide) (t := .long) (t' := .long) (by decide) (by decide)))).other W3 (Or.inr (slot_ne (Or.inr (hw _ (List.mem_of_getElem? (i := 20) rfl))) (Or.inr (hw _ (List.mem_of_getElem? (i := 18) rfl))) (by decide) (t := .long) (t' := .long) (by decide) (by decide)))).same W4
  have N4 := Fr.snoc X4 N3 g_r0
  have K4 := K3.wr W4 (Or.inl (List.mem_of_getElem? (i := 0) rfl))
  refine Go.st (V' := T4.setTop (mkF m 20 #[.val (.ref r0), .val (.long q1), .second, .val (.long q2), .second, .val (.long q3), .second, .val (.long q4), .second, .val (.int p5), .val (.int p6), .val (.int p7), .val (.long q8), .second, .val (.int p9), .val (.int p10), .val (.long q11), .second] [])) (fun t k => st4 t k) ?_
  refine Go.st (V' := T4.setTop (mkF m 23 #[.val (.ref r0), .val (.long q1), .second, .val (.long q2), .second, .val (.long q3), .second, .val (.long q4), .second, .val (.int p5), .val (.int p6), .val (.int p7), .val (.long q8), .second, .val (.int p9), .val (.int p10), .val (.long q11), .second] [(.long q4), (.ref r0)])) (fun t k => ?_) ?_
  · refine XS.aloadN X4.here hx rfl (hb hby own_d2_20) rfl rfl ?_
    show Steps p.tables e below (T4.setTop (mkF m 21 #[.val (.ref r0), .val (.long q1), .second, .val (.long q2), .second, .val (.long q3), .second, .val (.long q4), .second, .val (.int p5), .val (.int p6), .val (.int p7), .val (.long q8), .second, .val (.int p9), .val (.int p10), .val (.long q11), .second] [(.ref r0)])) _
    refine XS.lload X4.here hx rfl (hb hby own_d2_21) rfl  ?_
    show Steps p.tables e below (T4.setTop (mkF m 23 #[.val (.ref r0), .val (.long q1), .second, .val (.long q2), .second, .val (.long q3), .second, .val (.long q4), .second, .val (.int p5), .val (.int p6), .val (.int p7), .val (.long q8), .second, .val (.int p9), .val (.int p10), .val (.long q11), .second] [(.long q4), (.ref r0)])) _
    exact k
  obtain ⟨T5, h5, X5, e5, W5, st5⟩ := putF X4 hx hZ hown (host := "") (Or.inl (hw _ (List.mem_of_getElem? (i := 21) rfl))) Via.refl e4 (((F_mtime_r0.other W2 (Or.inr (slot_ne (Or.inr (hw _ (List.mem_of_getElem? (i := 22) rfl))) (Or.inr (hw _ (List.mem_of_getElem? (i := 16) rfl))) (by decide) (t := .long) (t' := .long) (by decide) (by decide)))).other W3 (Or.inr (slot_ne (Or.inr (hw _ (List.mem_of_getElem? (i := 22) rfl))) (Or.inr (hw _ (List.mem_of_getElem? (i := 18) rfl))) (by decide) (t := .long) (t' := .long) (by decide) (by decide)))).other W4 (Or.inr (slot_ne (Or.inr (hw _ (List.mem_of_getElem? (i := 22) rfl))) (Or.inr (hw _ (List.mem_of_getElem? (i := 20) rfl))) (by decide) (t := .long) (t' := .long) (by decide) (by decide)))) (((E_r0.wr W2).wr W3).wr W4) (Or.inr ⟨(hw _ (List.mem_of_getElem? (i := 22) rfl)), rfl, hnm⟩) (hw _ (List.mem_of_getElem? (i := 6) rfl)) (ty := .long) (by decide) rfl rfl (g := (mkF m 23 #[.val (.ref r0), .val (.long q1), .second, .val (.long q2), .second, .val (.long q3), .second, .val (.long q4), .second, .val (.int p5), .val (.int p6), .val (.int p7), .val (.long q8), .second, .val (.int p9), .val (.int p10), .val (.long q11), .second] [(.long q4), (.ref r0)])) rfl rfl (hb hby own_d2_23)
  have O5 := O4.wr W5 g_r0
  have F5 := (((F_mtime_r0.other W2 (Or.inr (slot_ne (Or.inr (hw _ (List.mem_of_getElem? (i := 22) rfl))) (Or.inr (hw _ (List.mem_of_getElem? (i := 16) rfl))) (by decide) (t := .long) (t' := .long) (by decide) (by decide)))).other W3 (Or.inr (slot_ne (Or.inr (hw _ (List.mem_of_getElem? (i := 22) rfl))) (Or.inr (hw _ (List.mem_of_getElem? (i := 18) rfl))) (by decide) (t := .long) (t' := .long) (by decide) (by decide)))).other W4 (Or.inr (slot_ne (Or.inr (hw _ (List.mem_of_getElem? (i := 22) rfl))) (Or.inr (hw _ (List.mem_of_getElem? (i := 20) rfl))) (by decide) (t := .long) (t' := .long) (by decide) (by decide)))).same W5
  have N5 := Fr.snoc X5 N4 g_r0
  have K5 := K4.wr W5 (Or.inl (List.mem_of_getElem? (i := 0) rfl))
  refine Go.st (V' := T5.setTop (mkF m 26 #[.val (.ref r0), .val (.long q1), .second, .val (.long q2), .second, .val (.long q3), .second, .val (.long q4), .second, .val (.int p5), .val (.int p6), .val (.int p7), .val (.long q8), .second, .val (.int p9), .val (.int p10), .val (.long q11), .second] [])) (fun t k => st5 t k) ?_
  refine Go.st (V' := T5.setTop (mkF m 29 #[.val (.ref r0), .val (.long q1), .second, .val (.long q2), .second, .val (.long q3), .second, .val (.long q4), .second, .val (.int p5), .val (.int p6), .val (.int p7), .val (.long q8), .second, .val (.int p9), .val (.int p10), .val (.long q11), .second] [(.int p5), (.ref r0)])) (fun t k => ?_) ?_
  · refine XS.aloadN X5.here hx rfl (hb hby own_d2_26) rfl rfl ?_
    show Steps p.tables e below (T5.setTop (mkF m 27 #[.val (.ref r0), .val (.long q1), .second, .val (.long q2), .second, .val (.long q3), .second, .val (.long q4), .second, .val (.int p5), .val (.int p6), .val (.int p7), .val (.long q8), .second, .val (.int p9), .val (.int p10), .val (.long q11), .second] [(.ref r0)])) _
    refine XS.iload X5.here hx rfl (hb hby own_d2_27) rfl  ?_
    show Steps p.tables e below (T5.setTop (mkF m 29 #[.val (.ref r0), .val (.long q1), .second, .val (.long q2), .second, .val (.long q3), .second, .val (.long q4), .second, .val (.int p5), .val (.int p6), .val (.int p7), .val (.long q8), .second, .val (.int p9), .val (.int p10), .val (.long q11), .second] [(.int p5), (.ref r0)])) _
    exact k
  obtain ⟨T6, h6, X6, e6, W6, st6⟩ := putF X5 hx hZ hown (host := "") (Or.inl (hw _ (List.mem_of_getElem? (i := 23) rfl))) Via.refl e5 ((((F_version_r0.other W2 (Or.inr (slot_ne (Or.inr (hw _ (List.mem_of_getElem? (i := 24) rfl))) (Or.inr (hw _ (List.mem_of_getElem? (i := 16) rfl))) (by decide) (t := .int) (t' := .long) (by decide) (by decide)))).other W3 (Or.inr (slot_ne (Or.inr (hw _ (List.mem_of_getElem? (i := 24) rfl))) (Or.inr (hw _ (List.mem_of_getElem? (i := 18) rfl))) (by decide) (t := .int) (t' := .long) (by decide) (by decide)))).other W4 (Or.inr (slot_ne (Or.inr (hw _ (List.mem_of_getElem? (i := 24) rfl))) (Or.inr (hw _ (List.mem_of_getElem? (i := 20) rfl))) (by decide) (t := .int) (t' := .long) (by decide) (by decide)))).other W5 (Or.inr (slot_ne (Or.inr (hw _ (List.mem_of_getElem? (i := 24) rfl))) (Or.inr (hw _ (List.mem_of_getElem? (i := 22) rfl))) (by decide) (t := .int) (t' := .long) (by decide) (by decide)))) ((((E_r0.wr W2).wr W3).wr W4).wr W5) (Or.inr ⟨(hw _ (List.mem_of_getElem? (i := 24) rfl)), rfl, hnm⟩) (hw _ (List.mem_of_getElem? (i := 6) rfl)) (ty := .int) (by decide) rfl rfl (g := (mkF m 29 #[.val (.ref r0), .val (.long q1), .second, .val (.long q2), .second, .val (.long q3), .second, .val (.long q4), .second, .val (.int p5), .val (.int p6), .val (.int p7), .val (.long q8), .second, .val (.int p9), .val (.int p10), .val (.long q11), .second] [(.int p5), (.ref r0)])) rfl rfl (hb hby own_d2_29)
  have O6 := O5.wr W6 g_r0
  have F6 := ((((F_version_r0.other W2 (Or.inr (slot_ne (Or.inr (hw _ (List.mem_of_getElem? (i := 24) rfl))) (Or.inr (hw _ (List.mem_of_getElem? (i := 16) rfl))) (by decide) (t := .int) (t' := .long) (by decide) (by decide)))).other W3 (Or.inr (slot_ne (Or.inr (hw _ (List.mem_of_getElem? (i := 24) rfl))) (Or.inr (hw _ (List.mem_of_getElem? (i := 18) rfl))) (by decide) (t := .int) (t' := .long) (by decide) (by decide)))).other W4 (Or.inr (slot_ne (Or.inr (hw _ (List.mem_of_getElem? (i := 24) rfl))) (Or.inr (hw _ (List.mem_of_getElem? (i := 20) rfl))) (by decide) (t := .int) (t' := .long) (by decide) (by decide)))).other W5 (Or.inr (slot_ne (Or.inr (hw _ (List.mem_of_getElem? (i := 24) rfl))) (Or.inr (hw _ (List.mem_of_getElem? (i := 22) rfl))) (by decide) (t := .int) (t' := .long) (by decide) (by decide)))).same W6
  have N6 := Fr.snoc X6 N5 g_r0
  have K6 := K5.wr W6 (Or.inl (List.mem_of_getElem? (i := 0) rfl))
  refine Go.st (V' := T6.setTop (mkF m 32 #[.val (.ref r0), .val (.long q1), .second, .val (.long q2), .second, .val (.long q3), .second, .val (.long q4), .second, .val (.int p5), .val (.int p6), .val (.int p7), .val (.long q8), .second, .val (.int p9), .val (.int p10), .val (.long q11), .second] [])) (fun t k => st6 t k) ?_
  refine Go.st (V' := T6.setTop (mkF m 35 #[.val (.ref r0), .val (.long q1), .second, .val (.long q2), .second, .val (.long q3), .second, .val (.long q4), .second, .val (.int p5), .val (.int p6), .val (.int p7), .val (.long q8), .second, .val (.int p9), .val (.int p10), .val (.long q11), .second] [(.int p6), (.ref r0)])) (fun t k => ?_) ?_
  · refine XS.aloadN X6.here hx rfl (hb hby own_d2_32) rfl rfl ?_
    show Steps p.tables e below (T6.setTop (mkF m 33 #[.val (.ref r0), .val (.long q1), .second, .val (.long q2), .second, .val (.long q3), .second, .val (.long q4), .second, .val (.int p5), .val (.int p6), .val (.int p7), .val (.long q8), .second, .val (.int p9), .val (.int p10), .val (.long q11), .second] [(.ref r0)])) _
    refine XS.iload X6.here hx rfl (hb hby own_d2_33) rfl  ?_
    show Steps p.tables e below (T6.setTop (mkF m 35 #[.val (.ref r0), .val (.long q1), .second, .val (.long q2), .second, .val (.long q3), .second, .val (.long q4), .second, .val (.int p5), .val (.int p6), .val (.int p7), .val (.long q8), .second, .val (.int p9), .val (.int p10), .val (.long q11), .second] [(.int p6), (.ref r0)])) _
    exact k
  obtain ⟨T7, h7, X7, e7, W7, st7⟩ := putF X6 hx hZ hown (host := "") (Or.inl (hw _ (List.mem_of_getElem? (i := 25) rfl))) Via.refl e6 (((((F_cversion_r0.other W2 (Or.inr (slot_ne (Or.inr (hw _ (List.mem_of_getElem? (i := 26) rfl))) (Or.inr (hw _ (List.mem_of_getElem? (i := 16) rfl))) (by decide) (t := .int) (t' := .long) (by decide) (by decide)))).other W3 (Or.inr (slot_ne (Or.inr (hw _ (List.mem_of_getElem? (i := 26) rfl))) (Or.inr (hw _ (List.mem_of_getElem? (i := 18) rfl))) (by decide) (t := .int) (t' := .long) (by decide) (by decide)))).other W4 (Or.inr (slot_ne (Or.inr (hw _ (List.mem_of_getElem? (i := 26) rfl))) (Or.inr (hw _ (List.mem_of_getElem? (i := 20) rfl))) (by decide) (t := .int) (t' := .long) (by decide) (by decide)))).other W5 (Or.inr (slot_ne (Or.inr (hw _ (List.mem_of_getElem? (i := 26) rfl))) (Or.inr (hw _ (List.mem_of_getElem? (i := 22) rfl))) (by decide) (t := .int) (t' := .long) (by decide) (by decide)))).other W6 (Or.inr (slot_ne (Or.inr (hw _ (List.mem_of_getElem? (i := 26) rfl))) (Or.inr (hw _ (List.mem_of_getElem? (i := 24) rfl))) (by decide) (t := .int) (t' := .int) (by decide) (by decide)))) (((((E_r0.wr W2).wr W3).wr W4).wr W5).wr W6) (Or.inr ⟨(hw _ (List.mem_of_getElem? (i := 26) rfl)), rfl, hnm⟩) (hw _ (List.mem_of_getElem? (i := 6) rfl)) (ty := .int) (by decide) rfl rfl (g := (mkF m 35 #[.val (.ref r0), .val (.long q1), .second, .val (.long q2), .second, .val (.long q3), .second, .val (.long q4), .second, .val (.int p5), .val (.int p6), .val (.int p7), .val (.long q8), .second, .val (.int p9), .val (.int p10), .val (.long q11), .second] [(.int p6), (.ref r0)])) rfl rfl (hb hby own_d2_35)
  have O7 := O6.wr W7 g_r0
  have F7 := (((((F_cversion_r0.other W2 (Or.inr (slot_ne (Or.inr (hw _ (List.mem_of_getElem? (i := 26) rfl))) (Or.inr (hw _ (List.mem_of_getElem? (i := 16) rfl))) (by decide) (t := .int) (t' := .long) (by decide) (by decide)))).other W3 (Or.inr (slot_ne (Or.inr (hw _ (List.mem_of_getElem? (i := 26) rfl))) (Or.inr (hw _ (List.mem_of_getElem? (i := 18) rfl))) (by decide) (t := .int) (t' := .long) (by decide) (by decide)))).other W4 (Or.inr (slot_ne (Or.inr (hw _ (List.mem_of_getElem? (i := 26) rfl))) (Or.inr (hw _ (List.mem_of_getElem? (i := 20) rfl))) (by decide) (t := .int) (t' := .long) (by decide) (by decide)))).other W5 (Or.inr (slot_ne (Or.inr (hw _ (List.mem_of_getElem? (i := 26) rfl))) (Or.inr (hw _ (List.mem_of_getElem? (i := 22) rfl))) (by decide) (t := .int) (t' := .long) (by decide) (by decide)))).other W6 (Or.inr (slot_ne (Or.inr (hw _ (List.mem_of_getElem? (i := 26) rfl))) (Or.inr (hw _ (List.mem_of_getElem? (i := 24) rfl))) (by decide) (t := .int) (t' := .int) (by decide) (by decide)))).same W7
  have N7 := Fr.snoc X7 N6 g_r0
  have K7 := K6.wr W7 (Or.inl (List.mem_of_getElem? (i := 0) rfl))
  refine Go.st (V' := T7.setTop (mkF m 38 #[.val (.ref r0), .val (.long q1), .second, .val (.long q2), .second, .val (.long q3), .second, .val (.long q4), .second, .val (.int p5), .val (.int p6), .val (.int p7), .val (.long q8), .second, .val (.int p9), .val (.int p10), .val (.long q11), .second] [])) (fun t k => st7 t k) ?_
  refine Go.st (V' := T7.setTop (mkF m 41 #[.val (.ref r0), .val (.long q1), .second, .val (.long q2), .second, .val (.long q3), .second, .val (.long q4), .second, .val (.int p5), .val (.int p6), .val (.int p7), .val (.long q8), .second, .val (.int p9), .val (.int p10), .val (.long q11), .second] [(.int p7), (.ref r0)])) (fun t k => ?_) ?_
  · refine XS.aloadN X7.here hx rfl (hb hby own_d2_38) rfl rfl ?_
    show Steps p.tables e below (T7.setTop (mkF m 39 #[.val (.ref r0), .val (.long q1), .second, .val (.long q2), .second, .val (.long q3), .second, .val (.long q4), .second, .val (.int p5), .val (.int p6), .val (.int p7), .val (.long q8), .second, .val (.int p9), .val (.int p10), .val (.long q11), .second] [(.ref r0)])) _
    refine XS.iload X7.here hx rfl (hb hby own_d2_39) rfl  ?_
    show Steps p.tables e below (T7.setTop (mkF m 41 #[.val (.ref r0), .val (.long q1), .second, .val (.long q2), .second, .val (.long q3), .second, .val (.long q4), .second, .val (.int p5), .val (.int p6), .val (.int p7), .val (.long q8), .second, .val (.int p9), .val (.int p10), .val (.long q11), .second] [(.int p7), (.ref r0)])) _
    exact k
  obtain ⟨T8, h8, X8, e8, W8, st8⟩ := putF X7 hx hZ hown (host := "") (Or.inl (hw _ (List.mem_of_getElem? (i := 27) rfl))) Via.refl e7 ((((((F_aversion_r0.other W2 (Or.inr (slot_ne (Or.inr (hw _ (List.mem_of_getElem? (i := 28) rfl))) (Or.inr (hw _ (List.mem_of_getElem? (i := 16) rfl))) (by decide) (t := .int) (t' := .long) (by decide) (by decide)))).other W3 (Or.inr (slot_ne (Or.inr (hw _ (List.mem_of_getElem? (i := 28) rfl))) (Or.inr (hw _ (List.mem_of_getElem? (i := 18) rfl))) (by decide) (t := .int) (t' := .long) (by decide) (by decide)))).other W4 (Or.inr (slot_ne (Or.inr (hw _ (List.mem_of_getElem? (i := 28) rfl))) (Or.inr (hw _ (List.mem_of_getElem? (i := 20) rfl))) (by decide) (t := .int) (t' := .long) (by decide) (by decide)))).other W5 (Or.inr (slot_ne (Or.inr (hw _ (List.mem_of_getElem? (i := 28) rfl))) (Or.inr (hw _ (List.mem_of_getElem? (i := 22) rfl))) (by decide) (t := .int) (t' := .long) (by decide) (by decide)))).other W6 (Or.inr (slot_ne (Or.inr (hw _ (List.mem_of_getElem? (i := 28) rfl))) (Or.inr (hw _ (List.mem_of_getElem? (i := 24) rfl))) (by decide) (t := .int) (t' := .int) (by decide) (by decide)))).other W7 (Or.inr (slot_ne (Or.inr (hw _ (List.mem_of_getElem? (i := 28) rfl))) (Or.inr (hw _ (List.mem_of_getElem? (i := 26) rfl))) (by decide) (t := .int) (t' := .int) (by decide) (by decide)))) ((((((E_r0.wr W2).wr W3).wr W4).wr W5).wr W6).wr W7) (Or.inr ⟨(hw _ (List.mem_of_getElem? (i := 28) rfl)), rfl, hnm⟩) (hw _ (List.mem_of_getElem? (i := 6) rfl)) (ty := .int) (by decide) rfl rfl (g := (mkF m 41 #[.val (.ref r0), .val (.long q1), .second, .val (.long q2), .second, .val (.long q3), .second, .val (.long q4), .second, .val (.int p5), .val (.int p6), .val (.int p7), .val (.long q8), .second, .val (.int p9), .val (.int p10), .val (.long q11), .second] [(.int p7), (.ref r0)])) rfl rfl (hb hby own_d2_41)
  have O8 := O7.wr W8 g_r0
  have F8 := ((((((F_aversion_r0.other W2 (Or.inr (slot_ne (Or.inr (hw _ (List.mem_of_getElem? (i := 28) rfl))) (Or.inr (hw _ (List.mem_of_getElem? (i := 16) rfl))) (by decide) (t := .int) (t' := .long) (by decide) (by decide)))).other W3 (Or.inr (slot_ne (Or.inr (hw _ (List.mem_of_getElem? (i := 28) rfl))) (Or.inr (hw _ (List.mem_of_getElem? (i := 18) rfl))) (by decide) (t := .int) (t' := .long) (by decide) (by decide)))).other W4 (Or.inr (slot_ne (Or.inr (hw _ (List.mem_of_getElem? (i := 28) rfl))) (Or.inr (hw _ (List.mem_of_getElem? (i := 20) rfl))) (by decide) (t := .int) (t' := .long) (by decide) (by decide)))).other W5 (Or.inr (slot_ne (Or.inr (hw _ (List.mem_of_getElem? (i := 28) rfl))) (Or.inr (hw _ (List.mem_of_getElem? (i := 22) rfl))) (by decide) (t := .int) (t' := .long) (by decide) (by decide)))).other W6 (Or.inr (slot_ne (Or.inr (hw _ (List.mem_of_getElem? (i := 28) rfl))) (Or.inr (hw _ (List.mem_of_getElem? (i := 24) rfl))) (by decide) (t := .int) (t' := .int) (by decide) (by decide)))).other W7 (Or.inr (slot_ne (Or.inr (hw _ (List.mem_of_getElem? (i := 28) rfl))) (Or.inr (hw _ (List.mem_of_getElem? (i := 26) rfl))) (by decide) (t := .int) (t' := .int) (by decide) (by decide)))).same W8
  have N8 := Fr.snoc X8 N7 g_r0
  have K8 := K7.wr W8 (Or.inl (List.mem_of_getElem? (i := 0) rfl))
  refine Go.st (V' := T8.setTop (mkF m 44 #[.val (.ref r0), .val (.long q1), .second, .val (.long q2), .second, .val (.long q3), .second, .val (.long q4), .second, .val (.int p5), .val (.int p6), .val (.int p7), .val (.long q8), .second, .val (.int p9), .val (.int p10), .val (.long q11), .second] [])) (fun t k => st8 t k) ?_
  refine Go.st (V' := T8.setTop (mkF m 47 #[.val (.ref r0), .val (.long q1), .second, .val (.long q2), .second, .val (.long q3), .second, .val (.long q4), .second, .val (.int p5), .val (.int p6), .val (.int p7), .val (.long q8), .second, .val (.int p9), .val (.int p10), .val (.long q11), .second] [(.long q8), (.ref r0)])) (fun t k => ?_) ?_
  · refine XS.aloadN X8.here hx rfl (hb hby own_d2_44) rfl rfl ?_
    show Steps p.tables e below (T8.setTop (mkF m 45 #[.val (.ref r0), .val (.long q1), .second, .val (.long q2), .second, .val (.long q3), .second, .val (.long q4), .second, .val (.int p5), .val (.int p6), .val (.int p7), .val (.long q8), .second, .val (.int p9), .val (.int p10), .val (.long q11), .second] [(.ref r0)])) _
    refine XS.lload X8.here hx rfl (hb hby own_d2_45) rfl  ?_
    show Steps p.tables e below (T8.setTop (mkF m 47 #[.val (.ref r0), .val (.long q1), .second, .val (.long q2), .second, .val (.long q3), .second, .val (.long q4), .second, .val (.int p5), .val (.int p6), .val (.int p7), .val (.long q8), .second, .val (.int p9), .val (.int p10), .val (.long q11), .second] [(.long q8), (.ref r0)])) _
    exact k
  obtain ⟨T9, h9, X9, e9, W9, st9⟩ := putF X8 hx hZ hown (host := "") (Or.inl (hw _ (List.mem_of_getElem? (i := 29) rfl))) Via.refl e8 (((((((F_ephemeralOwner_r0.other W2 (Or.inr (slot_ne (Or.inr (hw _ (List.mem_of_getElem? (i := 30) rfl))) (Or.inr (hw _ (List.mem_of_getElem? (i := 16) rfl))) (by decide) (t := .long) (t' := .long) (by decide) (by decide)))).other W3 (Or.inr (slot_ne (Or.inr (hw _ (List.mem_of_getElem? (i := 30) rfl))) (Or.inr (hw _ (List.mem_of_getElem? (i := 18) rfl))) (by decide) (t := .long) (t' := .long) (by decide) (by decide)))).other W4 (Or.inr (slot_ne (Or.inr (hw _ (List.mem_of_getElem? (i := 30) rfl))) (Or.inr (hw _ (List.mem_of_getElem? (i := 20) rfl))) (by decide) (t := .long) (t' := .long) (by decide) (by decide)))).other W5 (Or.inr (slot_ne (Or.inr (hw _ (List.mem_of_getElem? (i := 30) rfl))) (Or.inr (hw _ (List.mem_of_getElem? (i := 22) rfl))) (by decide) (t := .long) (t' := .long) (by decide) (by decide)))).other W6 (Or.inr (slot_ne (Or.inr (hw _ (List.mem_of_getElem? (i := 30) rfl))) (Or.inr (hw _ (List.mem_of_getElem? (i := 24) rfl))) (by decide) (t := .long) (t' := .int) (by decide) (by decide)))).other W7 (Or.inr (slot_ne (Or.inr (hw _ (List.mem_of_getElem? (i := 30) rfl))) (Or.inr (hw _ (List.mem_of_getElem? (i := 26) rfl))) (by decide) (t := .long) (t' := .int) (by decide) (by decide)))).other W8 (Or.inr (slot_ne (Or.inr (hw _ (List.mem_of_getElem? (i := 30) rfl))) (Or.inr (hw _ (List.mem_of_getElem? (i := 28) rfl))) (by decide) (t := .long) (t' := .int) (by decide) (by decide)))) (((((((E_r0.wr W2).wr W3).wr W4).wr W5).wr W6).wr W7).wr W8) (Or.inr ⟨(hw _ (List.mem_of_getElem? (i := 30) rfl)), rfl, hnm⟩) (hw _ (List.mem_of_getElem? (i := 6) rfl)) (ty := .long) (by decide) rfl rfl (g := (mkF m 47 #[.val (.ref r0), .val (.long q1), .second, .val (.long q2), .second, .val (.long q3), .second, .val (.long q4), .second, .val (.int p5), .val (.int p6), .val (.int p7), .val (.long q8), .second, .val (.int p9), .val (.int p10), .val (.long q11), .second] [(.long q8), (.ref r0)])) rfl rfl (hb hby own_d2_47)
  have O9 := O8.wr W9 g_r0
  have F9 := (((((((F_ephemeralOwner_r0.other W2 (Or.inr (slot_ne (Or.inr (hw _ (List.mem_of_getElem? (i := 30) rfl))) (Or.inr (hw _ (List.mem_of_getElem? (i := 16) rfl))) (by decide) (t := .long) (t' := .long) (by decide) (by decide)))).other W3 (Or.inr (slot_ne (Or.inr (hw _ (List.mem_of_getElem? (i := 30) rfl))) (Or.inr (hw _ (List.mem_of_getElem? (i := 18) rfl))) (by decide) (t := .long) (t' := .long) (by decide) (by decide)))).other W4 (Or.inr (slot_ne (Or.inr (hw _ (List.mem_of_getElem? (i := 30) rfl))) (Or.inr (hw _ (List.mem_of_getElem? (i := 20) rfl))) (by decide) (t := .long) (t' := .long) (by decide) (by decide)))).other W5 (Or.inr (slot_ne (Or.inr (hw _ (List.mem_of_getElem? (i := 30) rfl))) (Or.inr (hw _ (List.mem_of_getElem? (i := 22) rfl))) (by decide) (t := .long) (t' := .long) (by decide) (by decide)))).other W6 (Or.inr (slot_ne (Or.inr (hw _ (List.mem_of_getElem? (i := 30) rfl))) (Or.inr (hw _ (List.mem_of_getElem? (i := 24) rfl))) (by decide) (t := .long) (t' := .int) (by decide) (by decide)))).other W7 (Or.inr (slot_ne (Or.inr (hw _ (List.mem_of_getElem? (i := 30) rfl))) (Or.inr (hw _ (List.mem_of_getElem? (i := 26) rfl))) (by decide) (t := .long) (t' := .int) (by decide) (by decide)))).other W8 (Or.inr (slot_ne (Or.inr (hw _ (List.mem_of_getElem? (i := 30) rfl))) (Or.inr (hw _ (List.mem_of_getElem? (i := 28) rfl))) (by decide) (t := .long) (t' := .int) (by decide) (by decide)))).same W9
  have N9 := Fr.snoc X9 N8 g_r0
  have K9 := K8.wr W9 (Or.inl (List.mem_of_getElem? (i := 0) rfl))
  refine Go.st (V' := T9.setTop (mkF m 50 #[.val (.ref r0), .val (.long q1), .second, .val (.long q2), .second, .val (.long q3), .second, .val (.long q4), .second, .val (.int p5), .val (.int p6), .val (.int p7), .val (.long q8), .second, .val (.int p9), .val (.int p10), .val (.long q11), .second] [])) (fun t k => st9 t k) ?_
  refine Go.st (V' := T9.setTop (mkF m 53 #[.val (.ref r0), .val (.long q1), .second, .val (.long q2), .second, .val (.long q3), .second, .val (.long q4), .second, .val (.int p5), .val (.int p6), .val (.int p7), .val (.long q8), .second, .val (.int p9), .val (.int p10), .val (.long q11), .second] [(.int p9), (.ref r0)])) (fun t k => ?_) ?_
  · refine XS.aloadN X9.here hx rfl (hb hby own_d2_50) rfl rfl ?_
    show Steps p.tables e below (T9.setTop (mkF m 51 #[.val (.ref r0), .val (.long q1), .second, .val (.long q2), .second, .val (.long q3), .second, .val (.long q4), .second, .val (.int p5), .val (.int p6), .val (.int p7), .val (.long q8), .second, .val (.int p9), .val (.int p10), .val (.long q11), .second] [(.ref r0)])) _
    refine XS.iload X9.here hx rfl (hb hby own_d2_51) rfl  ?_
    show Steps p.tables e below (T9.setTop (mkF m 53 #[.val (.ref r0), .val (.long q1), .second, .val (.long q2), .second, .val (.long q3), .second, .val (.long q4), .second, .val (.int p5), .val (.int p6), .val (.int p7), .val (.long q8), .second, .val (.int p9), .val (.int p10), .val (.long q11), .second] [(.int p9), (.ref r0)])) _
    exact k
  obtain ⟨T10, h10, X10, e10, W10, st10⟩ := putF X9 hx hZ hown (host := "") (Or.inl (hw _ (List.mem_of_getElem? (i := 31) rfl))) Via.refl e9 ((((((((F_dataLength_r0.other W2 (Or.inr (slot_ne (Or.inr (hw _ (List.mem_of_getElem? (i := 32) rfl))) (Or.inr (hw _ (List.mem_of_getElem? (i := 16) rfl))) (by decide) (t := .int) (t' := .long) (by decide) (by decide)))).other W3 (Or.inr (slot_ne (Or.inr (hw _ (List.mem_of_getElem? (i := 32) rfl))) (Or.inr (hw _ (List.mem_of_getElem? (i := 18) rfl))) (by decide) (t := .int) (t' := .long) (by decide) (by decide)))).other W4 (Or.inr (slot_ne (Or.inr (hw _ (List.mem_of_getElem? (i := 32) rfl))) (Or.inr (hw _ (List.mem_of_getElem? (i := 20) rfl))) (by decide) (t := .int) (t' := .long) (by decide) (by decide)))).other W5 (Or.inr (slot_ne (Or.inr (hw _ (List.mem_of_getElem? (i := 32) rfl))) (Or.inr (hw _ (List.mem_of_getElem? (i := 22) rfl))) (by decide) (t := .int) (t' := .long) (by decide) (by decide)))).other W6 (Or.inr (slot_ne (Or.inr (hw _ (List.mem_of_getElem? (i := 32) rfl))) (Or.inr (hw _ (List.mem_of_getElem? (i := 24) rfl))) (by decide) (t := .int) (t' := .int) (by decide) (by decide)))).other W7 (Or.inr (slot_ne (Or.inr (hw _ (List.mem_of_getElem? (i := 32) rfl))) (Or.inr (hw _ (List.mem_of_getElem? (i := 26) rfl))) (by decide) (t := .int) (t' := .int) (by decide) (by decide)))).other W8 (Or.inr (slot_ne (Or.inr (hw _ (List.mem_of_getElem? (i := 32) rfl))) (Or.inr (hw _ (List.mem_of_getElem? (i := 28) rfl))) (by decide) (t := .int) (t' := .int) (by decide) (by decide)))).other W9 (Or.inr (slot_ne (Or.inr (hw _ (List.mem_of_getElem? (i := 32) rfl))) (Or.inr (hw _ (List.mem_of_getElem? (i := 30) rfl))) (by decide) (t := .int) (t' := .long) (by decide) (by decide)))) ((((((((E_r0.wr W2).wr W3).wr W4).wr W5).wr W6).wr W7).wr W8).wr W9) (Or.inr ⟨(hw _ (List.mem_of_getElem? (i := 32) rfl)), rfl, hnm⟩) (hw _ (List.mem_of_getElem? (i := 6) rfl)) (ty := .int) (by decide) rfl rfl (g := (mkF m 53 #[.val (.ref r0), .val (.long q1), .second, .val (.long q2), .second, .val (.long q3), .second, .val (.long q4), .second, .val (.int p5), .val (.int p6), .val (.int p7), .val (.long q8), .second, .val (.int p9), .val (.int p10), .val (.long q11), .second] [(.int p9), (.ref r0)])) rfl rfl (hb hby own_d2_53)
  have O10 := O9.wr W10 g_r0
  have F10 := ((((((((F_dataLength_r0.other W2 (Or.inr (slot_ne (Or.inr (hw _ (List.mem_of_getElem? (i := 32) rfl))) (Or.inr (hw _ (List.mem_of_getElem? (i := 16) rfl))) (by decide) (t := .int) (t' := .long) (by decide) (by decide)))).other W3 (Or.inr (slot_ne (Or.inr (hw _ (List.mem_of_getElem? (i := 32) rfl))) (Or.inr (hw _ (List.mem_of_getElem? (i := 18) rfl))) (by decide) (t := .int) (t' := .long) (by decide) (by decide)))).other W4 (Or.inr (slot_ne (Or.inr (hw _ (List.mem_of_getElem? (i := 32) rfl))) (Or.inr (hw _ (List.mem_of_getElem? (i := 20) rfl))) (by decide) (t := .int) (t' := .long) (by decide) (by decide)))).other W5 (Or.inr (slot_ne (Or.inr (hw _ (List.mem_of_getElem? (i := 32) rfl))) (Or.inr (hw _ (List.mem_of_getElem? (i := 22) rfl))) (by decide) (t := .int) (t' := .long) (by decide) (by decide)))).other W6 (Or.inr (slot_ne (Or.inr (hw _ (List.mem_of_getElem? (i := 32) rfl))) (Or.inr (hw _ (List.mem_of_getElem? (i := 24) rfl))) (by decide) (t := .int) (t' := .int) (by decide) (by decide)))).other W7 (Or.inr (slot_ne (Or.inr (hw _ (List.mem_of_getElem? (i := 32) rfl))) (Or.inr (hw _ (List.mem_of_getElem? (i := 26) rfl))) (by decide) (t := .int) (t' := .int) (by decide) (by decide)))).other W8 (Or.inr (slot_ne (Or.inr (hw _ (List.mem_of_getElem? (i := 32) rfl))) (Or.inr (hw _ (List.mem_of_getElem? (i := 28) rfl))) (by decide) (t := .int) (t' := .int) (by decide) (by decide)))).other W9 (Or.inr (slot_ne (Or.inr (hw _ (List.mem_of_getElem? (i := 32) rfl))) (Or.inr (hw _ (List.mem_of_getElem? (i := 30) rfl))) (by decide) (t := .int) (t' := .long) (by decide) (by decide)))).same W10
  have N10 := Fr.snoc X10 N9 g_r0
  have K10 := K9.wr W10 (Or.inl (List.mem_of_getElem? (i := 0) rfl))
  refine Go.st (V' := T10.setTop (mkF m 56 #[.val (.ref r0), .val (.long q1), .second, .val (.long q2), .second, .val (.long q3), .second, .val (.long q4), .second, .val (.int p5), .val (.int p6), .val (.int p7), .val (.long q8), .second, .val (.int p9), .val (.int p10), .val (.long q11), .second] [])) (fun t k => st10 t k) ?_
  refine Go.st (V' := T10.setTop (mkF m 59 #[.val (.ref r0), .val (.long q1), .second, .val (.long q2), .second, .val (.long q3), .second, .val (.long q4), .second, .val (.int p5), .val (.int p6), .val (.int p7), .val (.long q8), .second, .val (.int p9), .val (.int p10), .val (.long q11), .second] [(.int p10), (.ref r0)])) (fun t k => ?_) ?_
  · refine XS.aloadN X10.here hx rfl (hb hby own_d2_56) rfl rfl ?_
    show Steps p.tables e below (T10.setTop (mkF m 57 #[.val (.ref r0), .val (.long q1), .second, .val (.long q2), .second, .val (.long q3), .second, .val (.long q4), .second, .val (.int p5), .val (.int p6), .val (.int p7), .val (.long q8), .second, .val (.int p9), .val (.int p10), .val (.long q11), .second] [(.ref r0)])) _
    refine XS.iload X10.here hx rfl (hb hby own_d2_57) rfl  ?_
    show Steps p.tables e below (T10.setTop (mkF m 59 #[.val (.ref r0), .val (.long q1), .second, .val (.long q2), .second, .val (.long q3), .second, .val (.long q4), .second, .val (.int p5), .val (.int p6), .val (.int p7), .val (.long q8), .second, .val (.int p9), .val (.int p10), .val (.long q11), .second] [(.int p10), (.ref r0)])) _
    exact k
  obtain ⟨T11, h11, X11, e11, W11, st11⟩ := putF X10 hx hZ hown (host := "") (Or.inl (hw _ (List.mem_of_getElem? (i := 33) rfl))) Via.refl e10 (((((((((F_numChildren_r0.other W2 (Or.inr (slot_ne (Or.inr (hw _ (List.mem_of_getElem? (i := 34) rfl))) (Or.inr (hw _ (List.mem_of_getElem? (i := 16) rfl))) (by decide) (t := .int) (t' := .long) (by decide) (by decide)))).other W3 (Or.inr (slot_ne (Or.inr (hw _ (List.mem_of_getElem? (i := 34) rfl))) (Or.inr (hw _ (List.mem_of_getElem? (i := 18) rfl))) (by decide) (t := .int) (t' := .long) (by decide) (by decide)))).other W4 (Or.inr (slot_ne (Or.inr (hw _ (List.mem_of_getElem? (i := 34) rfl))) (Or.inr (hw _ (List.mem_of_getElem? (i := 20) rfl))) (by decide) (t := .int) (t' := .long) (by decide) (by decide)))).other W5 (Or.inr (slot_ne (Or.inr (hw _ (List.mem_of_getElem? (i := 34) rfl))) (Or.inr (hw _ (List.mem_of_getElem? (i := 22) rfl))) (by decide) (t := .int) (t' := .long) (by decide) (by decide)))).other W6 (Or.inr (slot_ne (Or.inr (hw _ (List.mem_of_getElem? (i := 34) rfl))) (Or.inr (hw _ (List.mem_of_getElem? (i := 24) rfl))) (by decide) (t := .int) (t' := .int) (by decide) (by decide)))).other W7 (Or.inr (slot_ne (Or.inr (hw _ (List.mem_of_getElem? (i := 34) rfl))) (Or.inr (hw _ (List.mem_of_getElem? (i := 26) rfl))) (by decide) (t := .int) (t' := .int) (by decide) (by decide)))).other W8 (Or.inr (slot_ne (Or.inr (hw _ (List.mem_of_getElem? (i := 34) rfl))) (Or.inr (hw _ (List.mem_of_getElem? (i := 28) rfl))) (by decide) (t := .int) (t' := .int) (by decide) (by decide)))).other W9 (Or.inr (slot_ne (Or.inr (hw _ (List.mem_of_getElem? (i := 34) rfl))) (Or.inr (hw _ (List.mem_of_getElem? (i := 30) rfl))) (by decide) (t := .int) (t' := .long) (by decide) (by decide)))).other W10 (Or.inr (slot_ne (Or.inr (hw _ (List.mem_of_getElem? (i := 34) rfl))) (Or.inr (hw _ (List.mem_of_getElem? (i := 32) rfl))) (by decide) (t := .int) (t' := .int) (by decide) (by decide)))) (((((((((E_r0.wr W2).wr W3).wr W4).wr W5).wr W6).wr W7).wr W8).wr W9).wr W10) (Or.inr ⟨(hw _ (List.mem_of_getElem? (i := 34) rfl)), rfl, hnm⟩) (hw _ (List.mem_of_getElem? (i := 6) rfl)) (ty := .int) (by decide) rfl rfl (g := (mkF m 59 #[.val (.ref r0), .val (.long q1), .second, .val (.long q2), .second, .val (.long q3), .second, .val (.long q4), .second, .val (.int p5), .val (.int p6), .val (.int p7), .val (.long q8), .second, .val (.int p9), .val (.int p10), .val (.long q11), .second] [(.int p10), (.ref r0)])) rfl rfl (hb hby own_d2_59)
  have O11 := O10.wr W11 g_r0
  have F11 := (((((((((F_numChildren_r0.other W2 (Or.inr (slot_ne (Or.inr (hw _ (List.mem_of_getElem? (i := 34) rfl))) (Or.inr (hw _ (List.mem_of_getElem? (i := 16) rfl))) (by decide) (t := .int) (t' := .long) (by decide) (by decide)))).other W3 (Or.inr (slot_ne (Or.inr (hw _ (List.mem_of_getElem? (i := 34) rfl))) (Or.inr (hw _ (List.mem_of_getElem? (i := 18) rfl))) (by decide) (t := .int) (t' := .long) (by decide) (by decide)))).other W4 (Or.inr (slot_ne (Or.inr (hw _ (List.mem_of_getElem? (i := 34) rfl))) (Or.inr (hw _ (List.mem_of_getElem? (i := 20) rfl))) (by decide) (t := .int) (t' := .long) (by decide) (by decide)))).other W5 (Or.inr (slot_ne (Or.inr (hw _ (List.mem_of_getElem? (i := 34) rfl))) (Or.inr (hw _ (List.mem_of_getElem? (i := 22) rfl))) (by decide) (t := .int) (t' := .long) (by decide) (by decide)))).other W6 (Or.inr (slot_ne (Or.inr (hw _ (List.mem_of_getElem? (i := 34) rfl))) (Or.inr (hw _ (List.mem_of_getElem? (i := 24) rfl))) (by decide) (t := .int) (t' := .int) (by decide) (by decide)))).other W7 (Or.inr (slot_ne (Or.inr (hw _ (List.mem_of_getElem? (i := 34) rfl))) (Or.inr (hw _ (List.mem_of_getElem? (i := 26) rfl))) (by decide) (t := .int) (t' := .int) (by decide) (by decide)))).other W8 (Or.inr (slot_ne (Or.inr (hw _ (List.mem_of_getElem? (i := 34) rfl))) (Or.inr (hw _ (List.mem_of_getElem? (i := 28) rfl))) (by decide) (t := .int) (t' := .int) (by decide) (by decide)))).other W9 (Or.inr (slot_ne (Or.inr (hw _ (List.mem_of_getElem? (i := 34) rfl))) (Or.inr (hw _ (List.mem_of_getElem? (i := 30) rfl))) (by decide) (t := .int) (t' := .long) (by decide) (by decide)))).other W10 (Or.inr (slot_ne (Or.inr (hw _ (List.mem_of_getElem? (i := 34) rfl))) (Or.inr (hw _ (List.mem_of_getElem? (i := 32) rfl))) (by decide) (t := .int) (t' := .int) (by decide) (by decide)))).same W11
  have N11 := Fr.snoc X11 N10 g_r0
  have K11 := K10.wr W11 (Or.inl (List.mem_of_getElem? (i := 0) rfl))
  refine Go.st (V' := T11.setTop (mkF m 62 #[.val (.ref r0), .val (.long q1), .second, .val (.long q2), .second, .val (.long q3), .second, .val (.long q4), .second, .val (.int p5), .val (.int p6), .val (.int p7), .val (.long q8), .second, .val (.int p9), .val (.int p10), .val (.long q11), .second] [])) (fun t k => st11 t k) ?_
  refine Go.st (V' := T11.setTop (mkF m 65 #[.val (.ref r0), .val (.long q1), .second, .val (.long q2), .second, .val (.long q3), .second, .val (.long q4), .second, .val (.int p5), .val (.int p6), .val (.int p7), .val (.long q8), .second, .val (.int p9), .val (.int p10), .val (.long q11), .second] [(.long q11), (.ref r0)])) (fun t k => ?_) ?_
  · refine XS.aloadN X11.here hx rfl (hb hby own_d2_62) rfl rfl ?_
    show Steps p.tables e below (T11.setTop (mkF m 63 #[.val (.ref r0), .val (.long q1), .second, .val (.long q2), .second, .val (.long q3), .second, .val (.long q4), .second, .val (.int p5), .val (.int p6), .val (.int p7), .val (.long q8), .second, .val (.int p9), .val (.int p10), .val (.long q11), .second] [(.ref r0)])) _
    refine XS.lload X11.here hx rfl (hb hby own_d2_63) rfl  ?_
    show Steps p.tables e below (T11.setTop (mkF m 65 #[.val (.ref r0), .val (.long q1), .second, .val (.long q2), .second, .val (.long q3), .second, .val (.long q4), .second, .val (.int p5), .val (.int p6), .val (.int p7), .val (.long q8), .second, .val (.int p9), .val (.int p10), .val (.long q11), .second] [(.long q11), (.ref r0)])) _
    exact k
  obtain ⟨T12, h12, X12, e12, W12, st12⟩ := putF X11 hx hZ hown (host := "") (Or.inl (hw _ (List.mem_of_getElem? (i := 35) rfl))) Via.refl e11 ((((((((((F_pzxid_r0.other W2 (Or.inr (slot_ne (Or.inr (hw _ (List.mem_of_getElem? (i := 36) rfl))) (Or.inr (hw _ (List.mem_of_getElem? (i := 16) rfl))) (by decide) (t := .long) (t' := .long) (by decide) (by decide)))).other W3 (Or.inr (slot_ne (Or.inr (hw _ (List.mem_of_getElem? (i := 36) rfl))) (Or.inr (hw _ (List.mem_of_getElem? (i := 18) rfl))) (by decide) (t := .long) (t' := .long) (by decide) (by decide)))).other W4 (Or.inr (slot_ne (Or.inr (hw _ (List.mem_of_getElem? (i := 36) rfl))) (Or.inr (hw _ (List.mem_of_getElem? (i := 20) rfl))) (by decide) (t := .long) (t' := .long) (by decide) (by decide)))).other W5 (Or.inr (slot_ne (Or.inr (hw _ (List.mem_of_getElem? (i := 36) rfl))) (Or.inr (hw _ (List.mem_of_getElem? (i := 22) rfl))) (by decide) (t := .long) (t' := .long) (by decide) (by decide)))).other W6 (Or.inr (slot_ne (Or.inr (hw _ (List.mem_of_getElem? (i := 36) rfl))) (Or.inr (hw _ (List.mem_of_getElem? (i := 24) rfl))) (by decide) (t := .long) (t' := .int) (by decide) (by decide)))).other W7 (Or.inr (slot_ne (Or.inr (hw _ (List.mem_of_getElem? (i := 36) rfl))) (Or.inr (hw _ (List.mem_of_getElem? (i := 26) rfl))) (by decide) (t := .long) (t' := .int) (by decide) (by decide)))).other W8 (Or.inr (slot_ne (Or.inr (hw _ (List.mem_of_getElem? (i := 36) rfl))) (Or.inr (hw _ (List.mem_of_getElem? (i := 28) rfl))) (by decide) (t := .long) (t' := .int) (by decide) (by decide)))).other W9 (Or.inr (slot_ne (Or.inr (hw _ (List.mem_of_getElem? (i := 36) rfl))) (Or.inr (hw _ (List.mem_of_getElem? (i := 30) rfl))) (by decide) (t := .long) (t' := .long) (by decide) (by decide)))).other W10 (Or.inr (slot_ne (Or.inr (hw _ (List.mem_of_getElem? (i := 36) rfl))) (Or.inr (hw _ (List.mem_of_getElem? (i := 32) rfl))) (by decide) (t := .long) (t' := .int) (by decide) (by decide)))).other W11 (Or.inr (slot_ne (Or.inr (hw _ (List.mem_of_getElem? (i := 36) rfl))) (Or.inr (hw _ (List.mem_of_getElem? (i := 34) rfl))) (by decide) (t := .long) (t' := .int) (by decide) (by decide)))) ((((((((((E_r0.wr W2).wr W3).wr W4).wr W5).wr W6).wr W7).wr W8).wr W9).wr W10).wr W11) (Or.inr ⟨(hw _ (List.mem_of_getElem? (i := 36) rfl)), rfl, hnm⟩) (hw _ (List.mem_of_getElem? (i := 6) rfl)) (ty := .long) (by decide) rfl rfl (g := (mkF m 65 #[.val (.ref r0), .val (.long q1), .second, .val (.long q2), .second, .val (.long q3), .second, .val (.long q4), .second, .val (.int p5), .val (.int p6), .val (.int p7), .val (.long q8), .second, .val (.int p9), .val (.int p10), .val (.long q11), .second] [(.long q11), (.ref r0)])) rfl rfl (hb hby own_d2_65)
  have O12 := O11.wr W12 g_r0
  have F12 := ((((((((((F_pzxid_r0.other W2 (Or.inr (slot_ne (Or.inr (hw _ (List.mem_of_getElem? (i := 36) rfl))) (Or.inr (hw _ (List.mem_of_getElem? (i := 16) rfl))) (by decide) (t := .long) (t' := .long) (by decide) (by decide)))).other W3 (Or.inr (slot_ne (Or.inr (hw _ (List.mem_of_getElem? (i := 36) rfl))) (Or.inr (hw _ (List.mem_of_getElem? (i := 18) rfl))) (by decide) (t := .long) (t' := .long) (by decide) (by decide)))).other W4 (Or.inr (slot_ne (Or.inr (hw _ (List.mem_of_getElem? (i := 36) rfl))) (Or.inr (hw _ (List.mem_of_getElem? (i := 20) rfl))) (by decide) (t := .long) (t' := .long) (by decide) (by decide)))).other W5 (Or.inr (slot_ne (Or.inr (hw _ (List.mem_of_getElem? (i := 36) rfl))) (Or.inr (hw _ (List.mem_of_getElem? (i := 22) rfl))) (by decide) (t := .long) (t' := .long) (by decide) (by decide)))).other W6 (Or.inr (slot_ne (Or.inr (hw _ (List.mem_of_getElem? (i := 36) rfl))) (Or.inr (hw _ (List.mem_of_getElem? (i := 24) rfl))) (by decide) (t := .long) (t' := .int) (by decide) (by decide)))).other W7 (Or.inr (slot_ne (Or.inr (hw _ (List.mem_of_getElem? (i := 36) rfl))) (Or.inr (hw _ (List.mem_of_getElem? (i := 26) rfl))) (by decide) (t := .long) (t' := .int) (by decide) (by decide)))).other W8 (Or.inr (slot_ne (Or.inr (hw _ (List.mem_of_getElem? (i := 36) rfl))) (Or.inr (hw _ (List.mem_of_getElem? (i := 28) rfl))) (by decide) (t := .long) (t' := .int) (by decide) (by decide)))).other W9 (Or.inr (slot_ne (Or.inr (hw _ (List.mem_of_getElem? (i := 36) rfl))) (Or.inr (hw _ (List.mem_of_getElem? (i := 30) rfl))) (by decide) (t := .long) (t' := .long) (by decide) (by decide)))).other W10 (Or.inr (slot_ne (Or.inr (hw _ (List.mem_of_getElem? (i := 36) rfl))) (Or.inr (hw _ (List.mem_of_getElem? (i := 32) rfl))) (by decide) (t := .long) (t' := .int) (by decide) (by decide)))).other W11 (Or.inr (slot_ne (Or.inr (hw _ (List.mem_of_getElem? (i := 36) rfl))) (Or.inr (hw _ (List.mem_of_getElem? (i := 34) rfl))) (by decide) (t := .long) (t' := .int) (by decide) (by decide)))).same W12
  have N12 := Fr.snoc X12 N11 g_r0
  have K12 := K11.wr W12 (Or.inl (List.mem_of_getElem? (i := 0) rfl))
  refine Go.st (V' := T12.setTop (mkF m 68 #[.val (.ref r0), .val (.long q1), .second, .val (.long q2), .second, .val (.long q3), .second, .val (.long q4), .second, .val (.int p5), .val (.int p6), .val (.int p7), .val (.long q8), .second, .val (.int p9), .val (.int p10), .val (.long q11), .second] [])) (fun t k => st12 t k) ?_
  obtain ⟨fs, hr, hrun, hended, hW, hsame⟩ := X12.leave (v := none) (fun _ => rfl)
  refine Go.mk' ⟨_, _, X12.returnOut hx Bd.returns (hb hby own_d2_68) hr, hrun, hended, _, _, rfl, ?_, ⟨_, rfl⟩, hW, hsame.mono (by decide) (by decide)⟩
  show Q2 Z s_icache cl_icache r0 q1 q2 q3 q4 p5 p6 p7 q8 p9 p10 q11 u_czxid_r0 u_mzxid_r0 u_ctime_r0 u_mtime_r0 u_version_r0 u_cversion_r0 u_aversion_r0 u_ephemeralOwner_r0 u_dataLength_r0 u_numChildren_r0 u_pzxid_r0 h0 n0 _ T12.heap _
  rw [e12]
  exact ⟨rfl, N12, K12, ((((((((((F2.other W3 (Or.inr (slot_ne (Or.inr (hw _ (List.mem_of_getElem? (i := 16) rfl))) (Or.inr (hw _ (List.mem_of_getElem? (i := 18) rfl))) (by decide) (t := .long) (t' := .long) (by decide) (by decide)))).other W4 (Or.inr (slot_ne (Or.inr (hw _ (List.mem_of_getElem? (i := 16) rfl))) (Or.inr (hw _ (List.mem_of_getElem? (i := 20) rfl))) (by decide) (t := .long) (t' := .long) (by decide) (by decide)))).other W5 (Or.inr (slot_ne (Or.inr (hw _ (List.mem_of_getElem? (i := 16) rfl))) (Or.inr (hw _ (List.mem_of_getElem? (i := 22) rfl))) (by decide) (t := .long) (t' := .long) (by decide) (by decide)))).other W6 (Or.inr (slot_ne (Or.inr (hw _ (List.mem_of_getElem? (i := 16) rfl))) (Or.inr (hw _ (List.mem_of_getElem? (i := 24) rfl))) (by decide) (t := .long) (t' := .int) (by decide) (by decide)))).other W7 (Or.inr (slot_ne (Or.inr (hw _ (List.mem_of_getElem? (i := 16) rfl))) (Or.inr (hw _ (List.mem_of_getElem? (i := 26) rfl))) (by decide) (t := .long) (t' := .int) (by decide) (by decide)))).other W8 (Or.inr (slot_ne (Or.inr (hw _ (List.mem_of_getElem? (i := 16) rfl))) (Or.inr (hw _ (List.mem_of_getElem? (i := 28) rfl))) (by decide) (t := .long) (t' := .int) (by decide) (by decide)))).other W9 (Or.inr (slot_ne (Or.inr (hw _ (List.mem_of_getElem? (i := 16) rfl))) (Or.inr (hw _ (List.mem_of_getElem? (i := 30) rfl))) (by decide) (t := .long) (t' := .long) (by decide) (by decide)))).other W10 (Or.inr (slot_ne (Or.inr (hw _ (List.mem_of_getElem? (i := 16) rfl))) (Or.inr (hw _ (List.mem_of_getElem? (i := 32) rfl))) (by decide) (t := .long) (t' := .int) (by decide) (by decide)))).other W11 (Or.inr (slot_ne (Or.inr (hw _ (List.mem_of_getElem? (i := 16) rfl))) (Or.inr (hw _ (List.mem_of_getElem? (i := 34) rfl))) (by decide) (t := .long) (t' := .int) (by decide) (by decide)))).other W12 (Or.inr (slot_ne (Or.inr (hw _ (List.mem_of_getElem? (i := 16) rfl))) (Or.inr (hw _ (List.mem_of_getElem? (i := 36) rfl))) (by decide) (t := .long) (t' := .long) (by decide) (by decide)))), (((((((((F3.other W4 (Or.inr (slot_ne (Or.inr (hw _ (List.mem_of_getElem? (i := 18) rfl))) (Or.inr (hw _ (List.mem_of_getElem? (i := 20) rfl))) (by decide) (t := .long) (t' := .long) (by decide) (by decide)))).other W5 (Or.inr (slot_ne (Or.inr (hw _ (List.mem_of_getElem? (i := 18) rfl))) (Or.inr (hw _ (List.mem_of_getElem? (i := 22) rfl))) (by decide) (t := .long) (t' := .long) (by decide) (by decide)))).other W6 (Or.inr (slot_ne (Or.inr (hw _ (List.mem_of_getElem? (i := 18) rfl))) (Or.inr (hw _ (List.mem_of_getElem? (i := 24) rfl))) (by decide) (t := .long) (t' := .int) (by decide) (by decide)))).other W7 (Or.inr (slot_ne (Or.inr (hw _ (List.mem_of_getElem? (i := 18) rfl))) (Or.inr (hw _ (List.mem_of_getElem? (i := 26) rfl))) (by decide) (t := .long) (t' := .int) (by decide) (by decide)))).other W8 (Or.inr (slot_ne (Or.inr (hw _ (List.mem_of_getElem? (i := 18) rfl))) (Or.inr (hw _ (List.mem_of_getElem? (i := 28) rfl))) (by decide) (t := .long) (t' := .int) (by decide) (by decide)))).other W9 (Or.inr (slot_ne (Or.inr (hw _ (List.mem_of_getElem? (i := 18) rfl))) (Or.inr (hw _ (List.mem_of_getElem? (i := 30) rfl))) (by decide) (t := .long) (t' := .long) (by decide) (by decide)))).other W10 (Or.inr (slot_ne (Or.inr (hw _ (List.mem_of_getElem? (i := 18) rfl))) (Or.inr (hw _ (List.mem_of_getElem? (i := 32) rfl))) (by decide) (t := .long) (t' := .int) (by decide) (by decide)))).other W11 (Or.inr (slot_ne (Or.inr (hw _ (List.mem_of_getElem? (i := 18) rfl))) (Or.inr (hw _ (List.mem_of_getElem? (i := 34) rfl))) (by decide) (t := .long) (t' := .int) (by decide) (by decide)))).other W12 (Or.inr (slot_ne (Or.inr (hw _ (List.mem_of_getElem? (i := 18) rfl))) (Or.inr (hw _ (List.mem_of_getElem? (i := 36) rfl))) (by decide) (t := .long) (t' := .long) (by decide) (by decide)))), ((((((((F4.other W5 (Or.inr (slot_ne (Or.inr (hw _ (List.mem_of_getElem? (i := 20) rfl))) (Or.inr (hw _ (List.mem_of_getElem? (i := 22) rfl))) (by decide) (t := .long) (t' := .long) (by decide) (by decide)))).other W6 (Or.inr (slot_ne (Or.inr (hw _ (List.mem_of_getElem? (i := 20) rfl))) (Or.inr (hw _ (List.mem_of_getElem? (i := 24) rfl))) (by decide) (t := .long) (t' := .int) (by decide) (by decide)))).other W7 (Or.inr (slot_ne (Or.inr (hw _ (List.mem_of_getElem? (i := 20) rfl))) (Or.inr (hw _ (List.mem_of_getElem? (i := 26) rfl))) (by decide) (t := .long) (t' := .int) (by decide) (by decide)))).other W8 (Or.inr (slot_ne (Or.inr (hw _ (List.mem_of_getElem? (i := 20) rfl))) (Or.inr (hw _ (List.mem_of_getElem? (i := 28) rfl))) (by decide) (t := .long) (t' := .int) (by decide) (by decide)))).other W9 (Or.inr (slot_ne (Or.inr (hw _ (List.mem_of_getElem? (i := 20) rfl))) (Or.inr (hw _ (List.mem_of_getElem? (i := 30) rfl))) (by decide) (t := .long) (t' := .long) (by decide) (by decide)))).other W10 (Or.inr (slot_ne (Or.inr (hw _ (List.mem_of_getElem? (i := 20) rfl))) (Or.inr (hw _ (List.mem_of_getElem? (i := 32) rfl))) (by decide) (t := .long) (t' := .int) (by decide) (by decide)))).other W11 (Or.inr (slot_ne (Or.inr (hw _ (List.mem_of_getElem? (i := 20) rfl))) (Or.inr (hw _ (List.mem_of_getElem? (i := 34) rfl))) (by decide) (t := .long) (t' := .int) (by decide) (by decide)))).other W12 (Or.inr (slot_ne (Or.inr (hw _ (List.mem_of_getElem? (i := 20) rfl))) (Or.inr (hw _ (List.mem_of_getElem? (i := 36) rfl))) (by decide) (t := .long) (t' := .long) (by decide) (by decide)))), (((((((F5.other W6 (Or.inr (slot_ne (Or.inr (hw _ (List.mem_of_getElem? (i := 22) rfl))) (Or.inr (hw _ (List.mem_of_getElem? (i := 24) rfl))) (by decide) (t := .long) (t' := .int) (by decide) (by decide)))).other W7 (Or.inr (slot_ne (Or.inr (hw _ (List.mem_of_getElem? (i := 22) rfl))) (Or.inr (hw _ (List.mem_of_getElem? (i := 26) rfl))) (by decide) (t := .long) (t' := .int) (by decide) (by decide)))).other W8 (Or.inr (slot_ne (Or.inr (hw _ (List.mem_of_getElem? (i := 22) rfl))) (Or.inr (hw _ (List.mem_of_getElem? (i := 28) rfl))) (by decide) (t := .long) (t' := .int) (by decide) (by decide)))).other W9 (Or.inr (slot_ne (Or.inr (hw _ (List.mem_of_getElem? (i := 22) rfl))) (Or.inr (hw _ (List.mem_of_getElem? (i := 30) rfl))) (by decide) (t := .long) (t' := .long) (by decide) (by decide)))).other W10 (Or.inr (slot_ne (Or.inr (hw _ (List.mem_of_getElem? (i := 22) rfl))) (Or.inr (hw _ (List.mem_of_getElem? (i := 32) rfl))) (by decide) (t := .long) (t' := .int) (by decide) (by decide)))).other W11 (Or.inr (slot_ne (Or.inr (hw _ (List.mem_of_getElem? (i := 22) rfl))) (Or.inr (hw _ (List.mem_of_getElem? (i := 34) rfl))) (by decide) (t := .long) (t' := .int) (by decide) (by decide)))).other W12 (Or.inr (slot_ne (Or.inr (hw _ (List.mem_of_getElem? (i := 22) rfl))) (Or.inr (hw _ (List.mem_of_getElem? (i := 36) rfl))) (by decide) (t := .long) (t' := .long) (by decide) (by decide)))), ((((((F6.other W7 (Or.inr (slot_ne (Or.inr (hw _ (List.mem_of_getElem? (i := 24) rfl))) (Or.inr (hw _ (List.mem_of_getElem? (i := 26) rfl))) (by decide) (t := .int) (t' := .int) (by decide) (by decide)))).other W8 (Or.inr (slot_ne (Or.inr (hw _ (List.mem_of_getElem? (i := 24) rfl))) (Or.inr (hw _ (List.mem_of_getElem? (i := 28) rfl))) (by decide) (t := .int) (t' := .int) (by decide) (by decide)))).other W9 (Or.inr (slot_ne (Or.inr (hw _ (List.mem_of_getElem? (i := 24) rfl))) (Or.inr (hw _ (List.mem_of_getElem? (i := 30) rfl))) (by decide) (t := .int) (t' := .long) (by decide) (by decide)))).other W10 (Or.inr (slot_ne (Or.inr (hw _ (List.mem_of_getElem? (i := 24) rfl))) (Or.inr (hw _ (List.mem_of_getElem? (i := 32) rfl))) (by decide) (t := .int) (t' := .int) (by decide) (by decide)))).other W11 (Or.inr (slot_ne (Or.inr (hw _ (List.mem_of_getElem? (i := 24) rfl))) (Or.inr (hw _ (List.mem_of_getElem? (i := 34) rfl))) (by decide) (t := .int) (t' := .int) (by decide) (by decide)))).other W12 (Or.inr (slot_ne (Or.inr (hw _ (List.mem_of_getElem? (i := 24) rfl))) (Or.inr (hw _ (List.mem_of_getElem? (i := 36) rfl))) (by decide) (t := .int) (t' := .long) (by decide) (by decide)))), (((((F7.other W8 (Or.inr (slot_ne (Or.inr (hw _ (List.mem_of_getElem? (i := 26) rfl))) (Or.inr (hw _ (List.mem_of_getElem? (i := 28) rfl))) (by decide) (t := .int) (t' := .int) (by decide) (by decide)))).other W9 (Or.inr (slot_ne (Or.inr (hw _ (List.mem_of_getElem? (i := 26) rfl))) (Or.inr (hw _ (List.mem_of_getElem? (i := 30) rfl))) (by decide) (t := .int) (t' := .long) (by decide) (by decide)))).other W10 (Or.inr (slot_ne (Or.inr (hw _ (List.mem_of_getElem? (i := 26) rfl))) (Or.inr (hw _ (List.mem_of_getElem? (i := 32) rfl))) (by decide) (t := .int) (t' := .int) (by decide) (by decide)))).other W11 (Or.inr (slot_ne (Or.inr (hw _ (List.mem_of_getElem? (i := 26) rfl))) (Or.inr (hw _ (List.mem_of_getElem? (i := 34) rfl))) (by decide) (t := .int) (t' := .int) (by decide) (by decide)))).other W12 (Or.inr (slot_ne (Or.inr (hw _ (List.mem_of_getElem? (i := 26) rfl))) (Or.inr (hw _ (List.mem_of_getElem? (i := 36) rfl))) (by decide) (t := .int) (t' := .long) (by decide) (by decide)))), ((((F8.other W9 (Or.inr (slot_ne (Or.inr (hw _ (List.mem_of_getElem? (i := 28) rfl))) (Or.inr (hw _ (List.mem_of_getElem? (i := 30) rfl))) (by decide) (t := .int) (t' := .long) (by decide) (by decide)))).other W10 (Or.inr (slot_ne (Or.inr (hw _ (List.mem_of_getElem? (i := 28) rfl))) (Or.inr (hw _ (List.mem_of_getElem? (i := 32) rfl))) (by decide) (t := .int) (t' := .int) (by decide) (by decide)))).other W11 (Or.inr (slot_ne (Or.inr (hw _ (List.mem_of_getElem? (i := 28) rfl))) (Or.inr (hw _ (List.mem_of_getElem? (i := 34) rfl))) (by decide) (t := .int) (t' := .int) (by decide) (by decide)))).other W12 (Or.inr (slot_ne (Or.inr (hw _ (List.mem_of_getElem? (i := 28) rfl))) (Or.inr (hw _ (List.mem_of_getElem? (i := 36) rfl))) (by decide) (t := .int) (t' := .long) (by decide) (by decide)))), (((F9.other W10 (Or.inr (slot_ne (Or.inr (hw _ (List.mem_of_getElem? (i := 30) rfl))) (Or.inr (hw _ (List.mem_of_getElem? (i := 32) rfl))) (by decide) (t := .long) (t' := .int) (by decide) (by decide)))).other W11 (Or.inr (slot_ne (Or.inr (hw _ (List.mem_of_getElem? (i := 30) rfl))) (Or.inr (hw _ (List.mem_of_getElem? (i := 34) rfl))) (by decide) (t := .long) (t' := .int) (by decide) (by decide)))).other W12 (Or.inr (slot_ne (Or.inr (hw _ (List.mem_of_getElem? (i := 30) rfl))) (Or.inr (hw _ (List.mem_of_getElem? (i := 36) rfl))) (by decide) (t := .long) (t' := .long) (by decide) (by decide)))), ((F10.other W11 (Or.inr (slot_ne (Or.inr (hw _ (List.mem_of_getElem? (i := 32) rfl))) (Or.inr (hw _ (List.mem_of_getElem? (i := 34) rfl))) (by decide) (t := .int) (t' := .int) (by decide) (by decide)))).other W12 (Or.inr (slot_ne (Or.inr (hw _ (List.mem_of_getElem? (i := 32) rfl))) (Or.inr (hw _ (List.mem_of_getElem? (i := 36) rfl))) (by decide) (t := .int) (t' := .long) (by decide) (by decide)))), (F11.other W12 (Or.inr (slot_ne (Or.inr (hw _ (List.mem_of_getElem? (i := 34) rfl))) (Or.inr (hw _ (List.mem_of_getElem? (i := 36) rfl))) (by decide) (t := .int) (t' := .long) (by decide) (by decide)))), F12, (((((((((((E_r0.wr W2).wr W3).wr W4).wr W5).wr W6).wr W7).wr W8).wr W9).wr W10).wr W11).wr W12)⟩
theorem own_d1_0 : decode method_2_code 0 = .ok (.lload 7, 2) := by decide +kernel
theorem own_d1_2 : decode method_2_code 2 = .ok (.l2i, 1) := by decide +kernel
theorem own_d1_3 : decode method_2_code 3 = .ok (.istore 9, 2) := by decide +kernel
theorem own_d1_5 : decode method_2_code 5 = .ok (.new 7, 3) := by decide +kernel
theorem own_d1_8 : decode method_2_code 8 = .ok (.dup, 1) := by decide +kernel
theorem own_d1_9 : decode method_2_code 9 = .ok (.lload_n 0, 1) := by decide +kernel
theorem own_d1_10 : decode method_2_code 10 = .ok (.iload 6, 2) := by decide +kernel
theorem own_d1_12 : decode method_2_code 12 = .ok (.ifCond .ne 8, 3) := by decide +kernel
theorem own_d1_15 : decode method_2_code 15 = .ok (.lload 7, 2) := by decide +kernel
theorem own_d1_17 : decode method_2_code 17 = .ok (.goto 4, 3) := by decide +kernel
theorem own_d1_20 : decode method_2_code 20 = .ok (.lconst 0, 1) := by decide +kernel
theorem own_d1_21 : decode method_2_code 21 = .ok (.ladd, 1) := by decide +kernel
theorem own_d1_22 : decode method_2_code 22 = .ok (.lload_n 2, 1) := by decide +kernel
theorem own_d1_23 : decode method_2_code 23 = .ok (.iload 6, 2) := by decide +kernel
theorem own_d1_25 : decode method_2_code 25 = .ok (.iconst 1, 1) := by decide +kernel
theorem own_d1_26 : decode method_2_code 26 = .ok (.if_icmp .ne 8, 3) := by decide +kernel
theorem own_d1_29 : decode method_2_code 29 = .ok (.lload 7, 2) := by decide +kernel
theorem own_d1_31 : decode method_2_code 31 = .ok (.goto 4, 3) := by decide +kernel
theorem own_d1_34 : decode method_2_code 34 = .ok (.lconst 0, 1) := by decide +kernel
theorem own_d1_35 : decode method_2_code 35 = .ok (.ladd, 1) := by decide +kernel
theorem own_d1_36 : decode method_2_code 36 = .ok (.lload_n 0, 1) := by decide +kernel
theorem own_d1_37 : decode method_2_code 37 = .ok (.lload_n 2, 1) := by decide +kernel
theorem own_d1_38 : decode method_2_code 38 = .ok (.ladd, 1) := by decide +kernel
theorem own_d1_39 : decode method_2_code 39 = .ok (.iload 6, 2) := by decide +kernel
theorem own_d1_41 : decode method_2_code 41 = .ok (.iconst 2, 1) := by decide +kernel
theorem own_d1_42 : decode method_2_code 42 = .ok (.if_icmp .ne 8, 3) := by decide +kernel
theorem own_d1_45 : decode method_2_code 45 = .ok (.lload 7, 2) := by decide +kernel
theorem own_d1_47 : decode method_2_code 47 = .ok (.goto 4, 3) := by decide +kernel
theorem own_d1_50 : decode method_2_code 50 = .ok (.lconst 0, 1) := by decide +kernel
theorem own_d1_51 : decode method_2_code 51 = .ok (.ladd, 1) := by decide +kernel
theorem own_d1_52 : decode method_2_code 52 = .ok (.lload_n 0, 1) := by decide +kernel
theorem own_d1_53 : decode method_2_code 53 = .ok (.lload_n 2, 1) := by decide +kernel
theorem own_d1_54 : decode method_2_code 54 = .ok (.lsub, 1) := by decide +kernel
theorem own_d1_55 : decode method_2_code 55 = .ok (.iload 6, 2) := by decide +kernel
theorem own_d1_57 : decode method_2_code 57 = .ok (.iconst 3, 1) := by decide +kernel
theorem own_d1_58 : decode method_2_code 58 = .ok (.if_icmp .ne 8, 3) := by decide +kernel
theorem own_d1_61 : decode method_2_code 61 = .ok (.lload 7, 2) := by decide +kernel
theorem own_d1_63 : decode method_2_code 63 = .ok (.goto 4, 3) := by decide +kernel
theorem own_d1_66 : decode method_2_code 66 = .ok (.lconst 0, 1) := by decide +kernel
theorem own_d1_67 : decode method_2_code 67 = .ok (.ladd, 1) := by decide +kernel
theorem own_d1_68 : decode method_2_code 68 = .ok (.iload 4, 2) := by decide +kernel
theorem own_d1_70 : decode method_2_code 70 = .ok (.iload 6, 2) := by decide +kernel
theorem own_d1_72 : decode method_2_code 72 = .ok (.iconst 4, 1) := by decide +kernel
theorem own_d1_73 : decode method_2_code 73 = .ok (.if_icmp .ne 8, 3) := by decide +kernel
theorem own_d1_76 : decode method_2_code 76 = .ok (.iload 9, 2) := by decide +kernel
theorem own_d1_78 : decode method_2_code 78 = .ok (.goto 4, 3) := by decide +kernel
theorem own_d1_81 : decode method_2_code 81 = .ok (.iconst 0, 1) := by decide +kernel
theorem own_d1_82 : decode method_2_code 82 = .ok (.iadd, 1) := by decide +kernel
theorem own_d1_83 : decode method_2_code 83 = .ok (.iload 5, 2) := by decide +kernel
theorem own_d1_85 : decode method_2_code 85 = .ok (.iload 6, 2) := by decide +kernel
theorem own_d1_87 : decode method_2_code 87 = .ok (.iconst 5, 1) := by decide +kernel
theorem own_d1_88 : decode method_2_code 88 = .ok (.if_icmp .ne 8, 3) := by decide +kernel
theorem own_d1_91 : decode method_2_code 91 = .ok (.iload 9, 2) := by decide +kernel
theorem own_d1_93 : decode method_2_code 93 = .ok (.goto 4, 3) := by decide +kernel
theorem own_d1_96 : decode method_2_code 96 = .ok (.iconst 0, 1) := by decide +kernel
theorem own_d1_97 : decode method_2_code 97 = .ok (.iadd, 1) := by decide +kernel
theorem own_d1_98 : decode method_2_code 98 = .ok (.iload 4, 2) := by decide +kernel
theorem own_d1_100 : decode method_2_code 100 = .ok (.iload 5, 2) := by decide +kernel
theorem own_d1_102 : decode method_2_code 102 = .ok (.ixor, 1) := by decide +kernel
theorem own_d1_103 : decode method_2_code 103 = .ok (.iload 6, 2) := by decide +kernel
theorem own_d1_105 : decode method_2_code 105 = .ok (.bipush 6, 2) := by decide +kernel
theorem own_d1_107 : decode method_2_code 107 = .ok (.if_icmp .ne 8, 3) := by decide +kernel
theorem own_d1_110 : decode method_2_code 110 = .ok (.iload 9, 2) := by decide +kernel
theorem own_d1_112 : decode method_2_code 112 = .ok (.goto 4, 3) := by decide +kernel
theorem own_d1_115 : decode method_2_code 115 = .ok (.iconst 0, 1) := by decide +kernel
theorem own_d1_116 : decode method_2_code 116 = .ok (.iadd, 1) := by decide +kernel
theorem own_d1_117 : decode method_2_code 117 = .ok (.lload_n 0, 1) := by decide +kernel
theorem own_d1_118 : decode method_2_code 118 = .ok (.ldc2_w 9, 3) := by decide +kernel
theorem own_d1_121 : decode method_2_code 121 = .ok (.lxor, 1) := by decide +kernel
theorem own_d1_122 : decode method_2_code 122 = .ok (.iload 6, 2) := by decide +kernel
theorem own_d1_124 : decode method_2_code 124 = .ok (.bipush 7, 2) := by decide +kernel
theorem own_d1_126 : decode method_2_code 126 = .ok (.if_icmp .ne 8, 3) := by decide +kernel
theorem own_d1_129 : decode method_2_code 129 = .ok (.lload 7, 2) := by decide +kernel
theorem own_d1_131 : decode method_2_code 131 = .ok (.goto 4, 3) := by decide +kernel
theorem own_d1_134 : decode method_2_code 134 = .ok (.lconst 0, 1) := by decide +kernel
theorem own_d1_135 : decode method_2_code 135 = .ok (.ladd, 1) := by decide +kernel
theorem own_d1_136 : decode method_2_code 136 = .ok (.iload 4, 2) := by decide +kernel
theorem own_d1_138 : decode method_2_code 138 = .ok (.iload 5, 2) := by decide +kernel
theorem own_d1_140 : decode method_2_code 140 = .ok (.iadd, 1) := by decide +kernel
theorem own_d1_141 : decode method_2_code 141 = .ok (.iload 6, 2) := by decide +kernel
theorem own_d1_143 : decode method_2_code 143 = .ok (.bipush 8, 2) := by decide +kernel
theorem own_d1_145 : decode method_2_code 145 = .ok (.if_icmp .ne 8, 3) := by decide +kernel
theorem own_d1_148 : decode method_2_code 148 = .ok (.iload 9, 2) := by decide +kernel
theorem own_d1_150 : decode method_2_code 150 = .ok (.goto 4, 3) := by decide +kernel
theorem own_d1_153 : decode method_2_code 153 = .ok (.iconst 0, 1) := by decide +kernel
theorem own_d1_154 : decode method_2_code 154 = .ok (.iadd, 1) := by decide +kernel
theorem own_d1_155 : decode method_2_code 155 = .ok (.iload 4, 2) := by decide +kernel
theorem own_d1_157 : decode method_2_code 157 = .ok (.iload 5, 2) := by decide +kernel
theorem own_d1_159 : decode method_2_code 159 = .ok (.isub, 1) := by decide +kernel
theorem own_d1_160 : decode method_2_code 160 = .ok (.iload 6, 2) := by decide +kernel
theorem own_d1_162 : decode method_2_code 162 = .ok (.bipush 9, 2) := by decide +kernel
theorem own_d1_164 : decode method_2_code 164 = .ok (.if_icmp .ne 8, 3) := by decide +kernel
theorem own_d1_167 : decode method_2_code 167 = .ok (.iload 9, 2) := by decide +kernel
theorem own_d1_169 : decode method_2_code 169 = .ok (.goto 4, 3) := by decide +kernel
theorem own_d1_172 : decode method_2_code 172 = .ok (.iconst 0, 1) := by decide +kernel
theorem own_d1_173 : decode method_2_code 173 = .ok (.iadd, 1) := by decide +kernel
theorem own_d1_174 : decode method_2_code 174 = .ok (.lload_n 0, 1) := by decide +kernel
theorem own_d1_175 : decode method_2_code 175 = .ok (.lload_n 2, 1) := by decide +kernel
theorem own_d1_176 : decode method_2_code 176 = .ok (.lxor, 1) := by decide +kernel
theorem own_d1_177 : decode method_2_code 177 = .ok (.iload 6, 2) := by decide +kernel
theorem own_d1_179 : decode method_2_code 179 = .ok (.bipush 10, 2) := by decide +kernel
theorem own_d1_181 : decode method_2_code 181 = .ok (.if_icmp .ne 8, 3) := by decide +kernel
theorem own_d1_184 : decode method_2_code 184 = .ok (.lload 7, 2) := by decide +kernel
theorem own_d1_186 : decode method_2_code 186 = .ok (.goto 4, 3) := by decide +kernel
theorem own_d1_189 : decode method_2_code 189 = .ok (.lconst 0, 1) := by decide +kernel
theorem own_d1_190 : decode method_2_code 190 = .ok (.ladd, 1) := by decide +kernel
theorem own_d1_191 : decode method_2_code 191 = .ok (.invokespecial 11, 3) := by decide +kernel
theorem own_pd143 : parseMethodDescriptor "(JJJJIIIJIIJ)V" = some ⟨[.long, .long, .long, .long, .int, .int, .int, .long, .int, .int, .long], none⟩ := by decide +kernel
theorem own_d1_194 : decode method_2_code 194 = .ok (.areturn, 1) := by decide +kernel
theorem own_pn1 : plainName "com/example/numtick/numtick/protocol/StatEqualsPinLaw" = true := by first | (simp [plainName, overriddenIn]; done) | decide +kernel
theorem ef1 (m : MethodId) (q0 : Int64) (q1 : Int64) (p2 : Int32) (p3 : Int32) (p4 : Int32) (q5 : Int64) : entryFrame m #[(.long q0), (.long q1), (.int p2), (.int p3), (.int p4), (.long q5)] 10 = mkF m 0 #[.val (.long q0), .second, .val (.long q1), .second, .val (.int p2), .val (.int p3), .val (.int p4), .val (.long q5), .second, .unset] [] := by first | (simp [entryFrame, mkF, argsToLocals, Value.category]; done) | rfl
def Q1 (Z : State) (s_icache : Addr) (cl_icache : Cell) (q0 : Int64) (q1 : Int64) (p2 : Int32) (p3 : Int32) (p4 : Int32) (q5 : Int64) (h0 : Heap) (n0 : Nat) (v : Option Value) (h : Heap) (L : List Loc) : Prop := ∃ y0 : Addr, v = some (.ref y0) ∧ Fr n0 L ∧ Keep h0 h [] ∧ h0.size ≤ y0 ∧ Exa Z h y0 "com/example/numtick/numtick/protocol/Stat" ∧ Fld Z h y0 "com/example/numtick/numtick/protocol/Stat" "czxid" "J" (.long (q0 + (if p4 = (0 : Int32) then q5 else (0 : Int64)))) ∧ Fld Z h y0 "com/example/numtick/numtick/protocol/Stat" "mzxid" "J" (.long (q1 + (if p4 = (1 : Int32) then q5 else (0 : Int64)))) ∧ Fld Z h y0 "com/example/numtick/numtick/protocol/Stat" "ctime" "J" (.long ((q0 + q1) + (if p4 = (2 : Int32) then q5 else (0 : Int64)))) ∧ Fld Z h y0 "com/example/numtick/numtick/protocol/Stat" "mtime" "J" (.long ((q0 - q1) + (if p4 = (3 : Int32) then q5 else (0 : Int64)))) ∧ Fld Z h y0 "com/example/numtick/numtick/protocol/Stat" "version" "I" (.int (p2 + (if p4 = (4 : Int32) then (q5.toInt32) else (0 : Int32)))) ∧ Fld Z h y0 "com/example/numtick/numtick/protocol/Stat" "cversion" "I" (.int (p3 + (if p4 = (5 : Int32) then (q5.toInt32) else (0 : Int32)))) ∧ Fld Z h y0 "com/example/numtick/numtick/protocol/Stat" "aversion" "I" (.int ((p2 ^^^ p3) + (if p4 = (6 : Int32) then (q5.toInt32) else (0 : Int32)))) ∧ Fld Z h y0 "com/example/numtick/numtick/protocol/Stat" "ephemeralOwner" "J" (.long ((q0 ^^^ (-1 : Int64)) + (if p4 = (7 : Int32) then q5 else (0 : Int64)))) ∧ Fld Z h y0 "com/example/numtick/numtick/protocol/Stat" "dataLength" "I" (.int ((p2 + p3) + (if p4 = (8 : Int32) then (q5.toInt32) else (0 : Int32)))) ∧ Fld Z h y0 "com/example/numtick/numtick/protocol/Stat" "numChildren" "I" (.int ((p2 - p3) + (if p4 = (9 : Int32) then (q5.toInt32) else (0 : Int32)))) ∧ Fld Z h y0 "com/example/numtick/numtick/protocol/Stat" "pzxid" "J" (.long ((q0 ^^^ q1) + (if p4 = (10 : Int32) then q5 else (0 : Int64))))
set_option maxRecDepth 65536 in
set_option maxHeartbeats 40000000 in
theorem rm1 (l : Launch) (Z : State) (a0 : Array Value) (hw : ∀ d ∈ tables_1, d.before a0 Z = true) (ws : List Jvm.Cond) (s_icache : Addr) (cl_icache : Cell) (HW : W0 Z s_icache cl_icache) (q0 : Int64) (q1 : Int64) (p2 : Int32) (p3 : Int32) (p4 : Int32) (q5 : Int64) (h0 : Heap) (n0 : Nat) (O0 : Old Z n0 h0) :
    MetFree l (⟨"com/example/numtick/numtick/protocol/StatEqualsPinLaw", "make", "(JJIIIJ)Lcom/example/numtick/numtick/protocol/Stat;"⟩ : MethodName) (head1 (Jvm.Cond.code (⟨"com/example/numtick/numtick/protocol/StatEqualsPinLaw", "make", "(JJIIIJ)Lcom/example/numtick/numtick/protocol/Stat;"⟩ : MethodName) method_2_code 10 (some (.object "com/example/numtick/numtick/protocol/Stat")) :: ws) ({ frames := 2, cells := 1, slots := 11, locals := 42 } : Room)) (fun a U => a = #[(.long q0), (.long q1), (.int p2), (.int p3), (.int p4), (.long q5)] ∧ Z.Warmed39 U.vm ∧ U.heap = h0) (fun _ _ _ _ _ => True) (fun _ U o U' => ∃ v L, o = .returned v ∧ Q1 Z s_icache cl_icache q0 q1 p2 p3 p4 q5 h0 n0 v U'.heap L ∧ FrameEnd U o U' L ({ frames := 2, cells := 1, slots := 11, locals := 42 } : Room).cells ({ frames := 2, cells := 1, slots := 11, locals := 42 } : Room).slots) := by
  refine MetFree.of_bodySF (plainFor_of_name own_pn1) hisR ?_
  intro p e s m args below meth c s₁ Bd hml0 hP hK
  obtain ⟨rfl, hZ, hh⟩ := hP
  obtain ⟨S_ihigh, B_icache, S_icache⟩ := id HW
  have hx := Bd.exec
  have hby := Bd.bytes
  have hml : c.maxLocals = 10 := hml0
  have hown : s.vm.findClass "com/example/numtick/numtick/protocol/StatEqualsPinLaw" = some m.cls := findClass_of_methodNamed Bd.named
  have hnm := (name_of_methodNamed Bd.named Bd.method).1
  have X0 : Stand p l e ({ frames := 2, cells := 1, slots := 11, locals := 42 } : Room) s m #[(.long q0), (.long q1), (.int p2), (.int p3), (.int p4), (.long q5)] below meth c s₁ [] 0 0 := Stand.of_body Bd
  have e0 : s₁.heap = h0 := by rw [← hh, Bd.state]; rfl
  have N0 := Fr.nil n0
  have K0 := Keep.refl h0 []
  refine Go.out ?_
  refine Go.st (V' := s₁.setTop (mkF m 0 #[.val (.long q0), .second, .val (.long q1), .second, .val (.int p2), .val (.int p3), .val (.int p4), .val (.long q5), .second, .unset] [])) (fun t k => castTop (ef1 m q0 q1 p2 p3 p4 q5) k) ?_
  refine Go.st (V' := s₁.setTop (mkF m 5 #[.val (.long q0), .second, .val (.long q1), .second, .val (.int p2), .val (.int p3), .val (.int p4), .val (.long q5), .second, .val (.int (q5.toInt32))] [])) (fun t k => ?_) ?_
  · refine XS.lload X0.here hx rfl (hb hby own_d1_0) rfl  ?_
    show Steps p.tables e below (s₁.setTop (mkF m 2 #[.val (.long q0), .second, .val (.long q1), .second, .val (.int p2), .val (.int p3), .val (.int p4), .val (.long q5), .second, .unset] [(.long q5)])) _
    refine XS.l2i X0.here hx rfl (hb hby own_d1_2) rfl ?_
    show Steps p.tables e below (s₁.setTop (mkF m 3 #[.val (.long q0), .second, .val (.long q1), .second, .val (.int p2), .val (.int p3), .val (.int p4), .val (.long q5), .second, .unset] [(.int (q5.toInt32))])) _
    refine XS.istore X0.here hx rfl (hb hby own_d1_3) rfl (l' := #[.val (.long q0), .second, .val (.long q1), .second, .val (.int p2), .val (.int p3), .val (.int p4), .val (.long q5), .second, .val (.int (q5.toInt32))]) rfl ?_
    show Steps p.tables e below (s₁.setTop (mkF m 5 #[.val (.long q0), .second, .val (.long q1), .second, .val (.int p2), .val (.int p3), .val (.int p4), .val (.long q5), .second, .val (.int (q5.toInt32))] [])) _
    exact k
  obtain ⟨T13, h13, X13, e13, E13, A13, D13, U13, st13⟩ := newO X0 hx hZ hown (hw _ (List.mem_of_getElem? (i := 5) rfl)) (hw _ (List.mem_of_getElem? (i := 6) rfl)) (hw _ (List.mem_of_getElem? (i := 7) rfl)) e0 (g := (mkF m 5 #[.val (.long q0), .second, .val (.long q1), .second, .val (.int p2), .val (.int p3), .val (.int p4), .val (.long q5), .second, .val (.int (q5.toInt32))] [])) rfl (hb hby own_d1_5) (by decide) (by decide)
  obtain ⟨b13, g13⟩ : ∃ z, z = h0.size := ⟨_, rfl⟩
  rw [← g13] at A13 D13 U13 st13
  have g_b13 : n0 ≤ b13 := Nat.le_trans (Nat.le_trans (Nat.le_of_eq O0.1.symm) O0.2.1) (Nat.le_of_eq g13.symm)
  have sz_b13 : h0.size ≤ b13 := Nat.le_trans K0.1 (Nat.le_of_eq g13.symm)
  have K13 := K0.ext E13
  have O13 := O0.ext E13
  have F_czxid_b13 : Fld Z h13 b13 "com/example/numtick/numtick/protocol/Stat" "czxid" "J" (.long (0 : Int64)) := D13 (Or.inr (hw _ (List.mem_of_getElem? (i := 16) rfl))) (ty := .long) (by decide)
  have F_mzxid_b13 : Fld Z h13 b13 "com/example/numtick/numtick/protocol/Stat" "mzxid" "J" (.long (0 : Int64)) := D13 (Or.inr (hw _ (List.mem_of_getElem? (i := 18) rfl))) (ty := .long) (by decide)
  have F_ctime_b13 : Fld Z h13 b13 "com/example/numtick/numtick/protocol/Stat" "ctime" "J" (.long (0 : Int64)) := D13 (Or.inr (hw _ (List.mem_of_getElem? (i := 20) rfl))) (ty := .long) (by decide)
  have F_mtime_b13 : Fld Z h13 b13 "com/example/numtick/numtick/protocol/Stat" "mtime" "J" (.long (0 : Int64)) := D13 (Or.inr (hw _ (List.mem_of_getElem? (i := 22) rfl))) (ty := .long) (by decide)
  have F_version_b13 : Fld Z h13 b13 "com/example/numtick/numtick/protocol/Stat" "version" "I" (.int (0 : Int32)) := D13 (Or.inr (hw _ (List.mem_of_getElem? (i := 24) rfl))) (ty := .int) (by decide)
  have F_cversion_b13 : Fld Z h13 b13 "com/example/numtick/numtick/protocol/Stat" "cversion" "I" (.int (0 : Int32)) := D13 (Or.inr (hw _ (List.mem_of_getElem? (i := 26) rfl))) (ty := .int) (by decide)
  have F_aversion_b13 : Fld Z h13 b13 "com/example/numtick/numtick/protocol/Stat" "aversion" "I" (.int (0 : Int32)) := D13 (Or.inr (hw _ (List.mem_of_getElem? (i := 28) rfl))) (ty := .int) (by decide)
  have F_ephemeralOwner_b13 : Fld Z h13 b13 "com/example/numtick/numtick/protocol/Stat" "ephemeralOwner" "J" (.long (0 : Int64)) := D13 (Or.inr (hw _ (List.mem_of_getElem? (i := 30) rfl))) (ty := .long) (by decide)
  have F_dataLength_b13 : Fld Z h13 b13 "com/example/numtick/numtick/protocol/Stat" "dataLength" "I" (.int (0 : Int32)) := D13 (Or.inr (hw _ (List.mem_of_getElem? (i := 32) rfl))) (ty := .int) (by decide)
  have F_numChildren_b13 : Fld Z h13 b13 "com/example/numtick/numtick/protocol/Stat" "numChildren" "I" (.int (0 : Int32)) := D13 (Or.inr (hw _ (List.mem_of_getElem? (i := 34) rfl))) (ty := .int) (by decide)
  have F_pzxid_b13 : Fld Z h13 b13 "com/example/numtick/numtick/protocol/Stat" "pzxid" "J" (.long (0 : Int64)) := D13 (Or.inr (hw _ (List.mem_of_getElem? (i := 36) rfl))) (ty := .long) (by decide)
  refine Go.st (V' := T13.setTop (mkF m 8 #[.val (.long q0), .second, .val (.long q1), .second, .val (.int p2), .val (.int p3), .val (.int p4), .val (.long q5), .second, .val (.int (q5.toInt32))] [(.ref b13)])) (fun t k => st13 t k) ?_
  refine Go.st (V' := T13.setTop (mkF m 12 #[.val (.long q0), .second, .val (.long q1), .second, .val (.int p2), .val (.int p3), .val (.int p4), .val (.long q5), .second, .val (.int (q5.toInt32))] [(.int p4), (.long q0), (.ref b13), (.ref b13)])) (fun t k => ?_) ?_
  · refine XS.dup X13.here hx rfl (hb hby own_d1_8) rfl rfl ?_
    show Steps p.tables e below (T13.setTop (mkF m 9 #[.val (.long q0), .second, .val (.long q1), .second, .val (.int p2), .val (.int p3), .val (.int p4), .val (.long q5), .second, .val (.int (q5.toInt32))] [(.ref b13), (.ref b13)])) _
    refine XS.lloadN X13.here hx rfl (hb hby own_d1_9) rfl  ?_
    show Steps p.tables e below (T13.setTop (mkF m 10 #[.val (.long q0), .second, .val (.long q1), .second, .val (.int p2), .val (.int p3), .val (.int p4), .val (.long q5), .second, .val (.int (q5.toInt32))] [(.long q0), (.ref b13), (.ref b13)])) _
    refine XS.iload X13.here hx rfl (hb hby own_d1_10) rfl  ?_
    show Steps p.tables e below (T13.setTop (mkF m 12 #[.val (.long q0), .second, .val (.long q1), .second, .val (.int p2), .val (.int p3), .val (.int p4), .val (.long q5), .second, .val (.int (q5.toInt32))] [(.int p4), (.long q0), (.ref b13), (.ref b13)])) _
    exact k
  refine Go.dia (c := p4 = (0 : Int32)) (VJ := T13.setTop (mkF m 21 #[.val (.long q0), .second, .val (.long q1), .second, .val (.int p2), .val (.int p3), .val (.int p4), .val (.long q5), .second, .val (.int (q5.toInt32))] [(.long (if p4 = (0 : Int32) then q5 else (0 : Int64))), (.long q0), (.ref b13), (.ref b13)])) (fun hd14 t k => ?_) (fun hd14 t k => ?_) ?_
  · rw [if_pos hd14] at k
    refine XS.ifNo X13.here hx rfl (hb hby own_d1_12) rfl ((if0 _ _).trans (teq hd14).2) ?_
    show Steps p.tables e below (T13.setTop (mkF m 15 #[.val (.long q0), .second, .val (.long q1), .second, .val (.int p2), .val (.int p3), .val (.int p4), .val (.long q5), .second, .val (.int (q5.toInt32))] [(.long q0), (.ref b13), (.ref b13)])) _
    refine XS.lload X13.here hx rfl (hb hby own_d1_15) rfl  ?_
    show Steps p.tables e below (T13.setTop (mkF m 17 #[.val (.long q0), .second, .val (.long q1), .second, .val (.int p2), .val (.int p3), .val (.int p4), .val (.long q5), .second, .val (.int (q5.toInt32))] [(.long q5), (.long q0), (.ref b13), (.ref b13)])) _
    refine XS.goto X13.here hx rfl (pc0 := 17) (pc' := 21) rfl (hb hby own_d1_17) (by decide) (by decide) ?_
    show Steps p.tables e below (T13.setTop (mkF m 21 #[.val (.long q0), .second, .val (.long q1), .second, .val (.int p2), .val (.int p3), .val (.int p4), .val (.long q5), .second, .val (.int (q5.toInt32))] [(.long q5), (.long q0), (.ref b13), (.ref b13)])) _
    exact k
  · rw [if_neg hd14] at k
    refine XS.ifYes X13.here hx rfl (pc0 := 12) (pc' := 20) rfl (hb hby own_d1_12) rfl ((if0 _ _).trans (feq hd14).2) (by decide) (by decide) ?_
    show Steps p.tables e below (T13.setTop (mkF m 20 #[.val (.long q0), .second, .val (.long q1), .second, .val (.int p2), .val (.int p3), .val (.int p4), .val (.long q5), .second, .val (.int (q5.toInt32))] [(.long q0), (.ref b13), (.ref b13)])) _
    refine XS.lconst X13.here hx rfl (hb hby own_d1_20) ?_
    show Steps p.tables e below (T13.setTop (mkF m 21 #[.val (.long q0), .second, .val (.long q1), .second, .val (.int p2), .val (.int p3), .val (.int p4), .val (.long q5), .second, .val (.int (q5.toInt32))] [(.long (0 : Int64)), (.long q0), (.ref b13), (.ref b13)])) _
    exact k
  refine Go.st (V' := T13.setTop (mkF m 26 #[.val (.long q0), .second, .val (.long q1), .second, .val (.int p2), .val (.int p3), .val (.int p4), .val (.long q5), .second, .val (.int (q5.toInt32))] [(.int (1 : Int32)), (.int p4), (.long q1), (.long (q0 + (if p4 = (0 : Int32) then q5 else (0 : Int64)))), (.ref b13), (.ref b13)])) (fun t k => ?_) ?_
  · refine XS.ladd X13.here hx rfl (hb hby own_d1_21) rfl ?_
    show Steps p.tables e below (T13.setTop (mkF m 22 #[.val (.long q0), .second, .val (.long q1), .second, .val (.int p2), .val (.int p3), .val (.int p4), .val (.long q5), .second, .val (.int (q5.toInt32))] [(.long (q0 + (if p4 = (0 : Int32) then q5 else (0 : Int64)))), (.ref b13), (.ref b13)])) _
    refine XS.lloadN X13.here hx rfl (hb hby own_d1_22) rfl  ?_
    show Steps p.tables e below (T13.setTop (mkF m 23 #[.val (.long q0), .second, .val (.long q1), .second, .val (.int p2), .val (.int p3), .val (.int p4), .val (.long q5), .second, .val (.int (q5.toInt32))] [(.long q1), (.long (q0 + (if p4 = (0 : Int32) then q5 else (0 : Int64)))), (.ref b13), (.ref b13)])) _
    refine XS.iload X13.here hx rfl (hb hby own_d1_23) rfl  ?_
    show Steps p.tables e below (T13.setTop (mkF m 25 #[.val (.long q0), .second, .val (.long q1), .second, .val (.int p2), .val (.int p3), .val (.int p4), .val (.long q5), .second, .val (.int (q5.toInt32))] [(.int p4), (.long q1), (.long (q0 + (if p4 = (0 : Int32) then q5 else (0 : Int64)))), (.ref b13), (.ref b13)])) _
    refine XS.iconst X13.here hx rfl (hb hby own_d1_25) ?_
    show Steps p.tables e below (T13.setTop (mkF m 26 #[.val (.long q0), .second, .val (.long q1), .second, .val (.int p2), .val (.int p3), .val (.int p4), .val (.long q5), .second, .val (.int (q5.toInt32))] [(.int (1 : Int32)), (.int p4), (.long q1), (.long (q0 + (if p4 = (0 : Int32) then q5 else (0 : Int64)))), (.ref b13), (.ref b13)])) _
    exact k
  refine Go.dia (c := p4 = (1 : Int32)) (VJ := T13.setTop (mkF m 35 #[.val (.long q0), .second, .val (.long q1), .second, .val (.int p2), .val (.int p3), .val (.int p4), .val (.long q5), .second, .val (.int (q5.toInt32))] [(.long (if p4 = (1 : Int32) then q5 else (0 : Int64))), (.long q1), (.long (q0 + (if p4 = (0 : Int32) then q5 else (0 : Int64)))), (.ref b13), (.ref b13)])) (fun hd15 t k => ?_) (fun hd15 t k => ?_) ?_
  · rw [if_pos hd15] at k
    refine XS.icmpNo X13.here hx rfl (hb hby own_d1_26) rfl (teq hd15).2 ?_
    show Steps p.tables e below (T13.setTop (mkF m 29 #[.val (.long q0), .second, .val (.long q1), .second, .val (.int p2), .val (.int p3), .val (.int p4), .val (.long q5), .second, .val (.int (q5.toInt32))] [(.long q1), (.long (q0 + (if p4 = (0 : Int32) then q5 else (0 : Int64)))), (.ref b13), (.ref b13)])) _
    refine XS.lload X13.here hx rfl (hb hby own_d1_29) rfl  ?_
    show Steps p.tables e below (T13.setTop (mkF m 31 #[.val (.long q0), .second, .val (.long q1), .second, .val (.int p2), .val (.int p3), .val (.int p4), .val (.long q5), .second, .val (.int (q5.toInt32))] [(.long q5), (.long q1), (.long (q0 + (if p4 = (0 : Int32) then q5 else (0 : Int64)))), (.ref b13), (.ref b13)])) _
    refine XS.goto X13.here hx rfl (pc0 := 31) (pc' := 35) rfl (hb hby own_d1_31) (by decide) (by decide) ?_
    show Steps p.tables e below (T13.setTop (mkF m 35 #[.val (.long q0), .second, .val (.long q1), .second, .val (.int p2), .val (.int p3), .val (.int p4), .val (.long q5), .second, .val (.int (q5.toInt32))] [(.long q5), (.long q1), (.long (q0 + (if p4 = (0 : Int32) then q5 else (0 : Int64)))), (.ref b13), (.ref b13)])) _
    exact k
  · rw [if_neg hd15] at k
    refine XS.icmpYes X13.here hx rfl (pc0 := 26) (pc' := 34) rfl (hb hby own_d1_26) rfl (feq hd15).2 (by decide) (by decide) ?_
    show Steps p.tables e below (T13.setTop (mkF m 34 #[.val (.long q0), .second, .val (.long q1), .second, .val (.int p2), .val (.int p3), .val (.int p4), .val (.long q5), .second, .val (.int (q5.toInt32))] [(.long q1), (.long (q0 + (if p4 = (0 : Int32) then q5 else (0 : Int64)))), (.ref b13), (.ref b13)])) _
    refine XS.lconst X13.here hx rfl (hb hby own_d1_34) ?_
    show Steps p.tables e below (T13.setTop (mkF m 35 #[.val (.long q0), .second, .val (.long q1), .second, .val (.int p2), .val (.int p3), .val (.int p4), .val (.long q5), .second, .val (.int (q5.toInt32))] [(.long (0 : Int64)), (.long q1), (.long (q0 + (if p4 = (0 : Int32) then q5 else (0 : Int64)))), (.ref b13), (.ref b13)])) _
    exact k
  refine Go.st (V' := T13.setTop (mkF m 42 #[.val (.long q0), .second, .val (.long q1), .second, .val (.int p2), .val (.int p3), .val (.int p4), .val (.long q5), .second, .val (.int (q5.toInt32))] [(.int (2 : Int32)), (.int p4), (.long (q0 + q1)), (.long (q1 + (if p4 = (1 : Int32) then q5 else (0 : Int64)))), (.long (q0 + (if p4 = (0 : Int32) then q5 else (0 : Int64)))), (.ref b13), (.ref b13)])) (fun t k => ?_) ?_
  · refine XS.ladd X13.here hx rfl (hb hby own_d1_35) rfl ?_
    show Steps p.tables e below (T13.setTop (mkF m 36 #[.val (.long q0), .second, .val (.long q1), .second, .val (.int p2), .val (.int p3), .val (.int p4), .val (.long q5), .second, .val (.int (q5.toInt32))] [(.long (q1 + (if p4 = (1 : Int32) then q5 else (0 : Int64)))), (.long (q0 + (if p4 = (0 : Int32) then q5 else (0 : Int64)))), (.ref b13), (.ref b13)])) _
    refine XS.lloadN X13.here hx rfl (hb hby own_d1_36) rfl  ?_
    show Steps p.tables e below (T13.setTop (mkF m 37 #[.val (.long q0), .second, .val (.long q1), .second, .val (.int p2), .val (.int p3), .val (.int p4), .val (.long q5), .second, .val (.int (q5.toInt32))] [(.long q0), (.long (q1 + (if p4 = (1 : Int32) then q5 else (0 : Int64)))), (.long (q0 + (if p4 = (0 : Int32) then q5 else (0 : Int64)))), (.ref b13), (.ref b13)])) _
    refine XS.lloadN X13.here hx rfl (hb hby own_d1_37) rfl  ?_
    show Steps p.tables e below (T13.setTop (mkF m 38 #[.val (.long q0), .second, .val (.long q1), .second, .val (.int p2), .val (.int p3), .val (.int p4), .val (.long q5), .second, .val (.int (q5.toInt32))] [(.long q1), (.long q0), (.long (q1 + (if p4 = (1 : Int32) then q5 else (0 : Int64)))), (.long (q0 + (if p4 = (0 : Int32) then q5 else (0 : Int64)))), (.ref b13), (.ref b13)])) _
    refine XS.ladd X13.here hx rfl (hb hby own_d1_38) rfl ?_
    show Steps p.tables e below (T13.setTop (mkF m 39 #[.val (.long q0), .second, .val (.long q1), .second, .val (.int p2), .val (.int p3), .val (.int p4), .val (.long q5), .second, .val (.int (q5.toInt32))] [(.long (q0 + q1)), (.long (q1 + (if p4 = (1 : Int32) then q5 else (0 : Int64)))), (.long (q0 + (if p4 = (0 : Int32) then q5 else (0 : Int64)))), (.ref b13), (.ref b13)])) _
    refine XS.iload X13.here hx rfl (hb hby own_d1_39) rfl  ?_
    show Steps p.tables e below (T13.setTop (mkF m 41 #[.val (.long q0), .second, .val (.long q1), .second, .val (.int p2), .val (.int p3), .val (.int p4), .val (.long q5), .second, .val (.int (q5.toInt32))] [(.int p4), (.long (q0 + q1)), (.long (q1 + (if p4 = (1 : Int32) then q5 else (0 : Int64)))), (.long (q0 + (if p4 = (0 : Int32) then q5 else (0 : Int64)))), (.ref b13), (.ref b13)])) _
    refine XS.iconst X13.here hx rfl (hb hby own_d1_41) ?_
    show Steps p.tables e below (T13.setTop (mkF m 42 #[.val (.long q0), .second, .val (.long q1), .second, .val (.int p2), .val (.int p3), .val (.int p4), .val (.long q5), .second, .val (.int (q5.toInt32))] [(.int (2 : Int32)), (.int p4), (.long (q0 + q1)), (.long (q1 + (if p4 = (1 : Int32) then q5 else (0 : Int64)))), (.long (q0 + (if p4 = (0 : Int32) then q5 else (0 : Int64)))), (.ref b13), (.ref b13)])) _
    exact k
  refine Go.dia (c := p4 = (2 : Int32)) (VJ := T13.setTop (mkF m 51 #[.val (.long q0), .second, .val (.long q1), .second, .val (.int p2), .val (.int p3), .val (.int p4), .val (.long q5), .second, .val (.int (q5.toInt32))] [(.long (if p4 = (2 : Int32) then q5 else (0 : Int64))), (.long (q0 + q1)), (.long (q1 + (if p4 = (1 : Int32) then q5 else (0 : Int64)))), (.long (q0 + (if p4 = (0 : Int32) then q5 else (0 : Int64)))), (.ref b13), (.ref b13)])) (fun hd16 t k => ?_) (fun hd16 t k => ?_) ?_
  · rw [if_pos hd16] at k
    refine XS.icmpNo X13.here hx rfl (hb hby own_d1_42) rfl (teq hd16).2 ?_
    show Steps p.tables e below (T13.setTop (mkF m 45 #[.val (.long q0), .second, .val (.long q1), .second, .val (.int p2), .val (.int p3), .val (.int p4), .val (.long q5), .second, .val (.int (q5.toInt32))] [(.long (q0 + q1)), (.long (q1 + (if p4 = (1 : Int32) then q5 else (0 : Int64)))), (.long (q0 + (if p4 = (0 : Int32) then q5 else (0 : Int64)))), (.ref b13), (.ref b13)])) _
    refine XS.lload X13.here hx rfl (hb hby own_d1_45) rfl  ?_
    show Steps p.tables e below (T13.setTop (mkF m 47 #[.val (.long q0), .second, .val (.long q1), .second, .val (.int p2), .val (.int p3), .val (.int p4), .val (.long q5), .second, .val (.int (q5.toInt32))] [(.long q5), (.long (q0 + q1)), (.long (q1 + (if p4 = (1 : Int32) then q5 else (0 : Int64)))), (.long (q0 + (if p4 = (0 : Int32) then q5 else (0 : Int64)))), (.ref b13), (.ref b13)])) _
    refine XS.goto X13.here hx rfl (pc0 := 47) (pc' := 51) rfl (hb hby own_d1_47) (by decide) (by decide) ?_
    show Steps p.tables e below (T13.setTop (mkF m 51 #[.val (.long q0), .second, .val (.long q1), .second, .val (.int p2), .val (.int p3), .val (.int p4), .val (.long q5), .second, .val (.int (q5.toInt32))] [(.long q5), (.long (q0 + q1)), (.long (q1 + (if p4 = (1 : Int32) then q5 else (0 : Int64)))), (.long (q0 + (if p4 = (0 : Int32) then q5 else (0 : Int64)))), (.ref b13), (.ref b13)])) _
    exact k
  · rw [if_neg hd16] at k
    refine XS.icmpYes X13.here hx rfl (pc0 := 42) (pc' := 50) rfl (hb hby own_d1_42) rfl (feq hd16).2 (by decide) (by decide) ?_
    show Steps p.tables e below (T13.setTop (mkF m 50 #[.val (.long q0), .second, .val (.long q1), .second, .val (.int p2), .val (.int p3), .val (.int p4), .val (.long q5), .second, .val (.int (q5.toInt32))] [(.long (q0 + q1)), (.long (q1 + (if p4 = (1 : Int32) then q5 else (0 : Int64)))), (.long (q0 + (if p4 = (0 : Int32) then q5 else (0 : Int64)))), (.ref b13), (.ref b13)])) _
    refine XS.lconst X13.here hx rfl (hb hby own_d1_50) ?_
    show Steps p.tables e below (T13.setTop (mkF m 51 #[.val (.long q0), .second, .val (.long q1), .second, .val (.int p2), .val (.int p3), .val (.int p4), .val (.long q5), .second, .val (.int (q5.toInt32))] [(.long (0 : Int64)), (.long (q0 + q1)), (.long (q1 + (if p4 = (1 : Int32) then q5 else (0 : Int64)))), (.long (q0 + (if p4 = (0 : Int32) then q5 else (0 : Int64)))), (.ref b13), (.ref b13)])) _
    exact k
  refine Go.st (V' := T13.setTop (mkF m 58 #[.val (.long q0), .second, .val (.long q1), .second, .val (.int p2), .val (.int p3), .val (.int p4), .val (.long q5), .second, .val (.int (q5.toInt32))] [(.int (3 : Int32)), (.int p4), (.long (q0 - q1)), (.long ((q0 + q1) + (if p4 = (2 : Int32) then q5 else (0 : Int64)))), (.long (q1 + (if p4 = (1 : Int32) then q5 else (0 : Int64)))), (.long (q0 + (if p4 = (0 : Int32) then q5 else (0 : Int64)))), (.ref b13), (.ref b13)])) (fun t k => ?_) ?_
  · refine XS.ladd X13.here hx rfl (hb hby own_d1_51) rfl ?_
    show Steps p.tables e below (T13.setTop (mkF m 52 #[.val (.long q0), .second, .val (.long q1), .second, .val (.int p2), .val (.int p3), .val (.int p4), .val (.long q5), .second, .val (.int (q5.toInt32))] [(.long ((q0 + q1) + (if p4 = (2 : Int32) then q5 else (0 : Int64)))), (.long (q1 + (if p4 = (1 : Int32) then q5 else (0 : Int64)))), (.long (q0 + (if p4 = (0 : Int32) then q5 else (0 : Int64)))), (.ref b13), (.ref b13)])) _
    refine XS.lloadN X13.here hx rfl (hb hby own_d1_52) rfl  ?_
    show Steps p.tables e below (T13.setTop (mkF m 53 #[.val (.long q0), .second, .val (.long q1), .second, .val (.int p2), .val (.int p3), .val (.int p4), .val (.long q5), .second, .val (.int (q5.toInt32))] [(.long q0), (.long ((q0 + q1) + (if p4 = (2 : Int32) then q5 else (0 : Int64)))), (.long (q1 + (if p4 = (1 : Int32) then q5 else (0 : Int64)))), (.long (q0 + (if p4 = (0 : Int32) then q5 else (0 : Int64)))), (.ref b13), (.ref b13)])) _
    refine XS.lloadN X13.here hx rfl (hb hby own_d1_53) rfl  ?_
    show Steps p.tables e below (T13.setTop (mkF m 54 #[.val (.long q0), .second, .val (.long q1), .second, .val (.int p2), .val (.int p3), .val (.int p4), .val (.long q5), .second, .val (.int (q5.toInt32))] [(.long q1), (.long q0), (.long ((q0 + q1) + (if p4 = (2 : Int32) then q5 else (0 : Int64)))), (.long (q1 + (if p4 = (1 : Int32) then q5 else (0 : Int64)))), (.long (q0 + (if p4 = (0 : Int32) then q5 else (0 : Int64)))), (.ref b13), (.ref b13)])) _
    refine XS.lsub X13.here hx rfl (hb hby own_d1_54) rfl ?_
    show Steps p.tables e below (T13.setTop (mkF m 55 #[.val (.long q0), .second, .val (.long q1), .second, .val (.int p2), .val (.int p3), .val (.int p4), .val (.long q5), .second, .val (.int (q5.toInt32))] [(.long (q0 - q1)), (.long ((q0 + q1) + (if p4 = (2 : Int32) then q5 else (0 : Int64)))), (.long (q1 + (if p4 = (1 : Int32) then q5 else (0 : Int64)))), (.long (q0 + (if p4 = (0 : Int32) then q5 else (0 : Int64)))), (.ref b13), (.ref b13)])) _
    refine XS.iload X13.here hx rfl (hb hby own_d1_55) rfl  ?_
    show Steps p.tables e below (T13.setTop (mkF m 57 #[.val (.long q0), .second, .val (.long q1), .second, .val (.int p2), .val (.int p3), .val (.int p4), .val (.long q5), .second, .val (.int (q5.toInt32))] [(.int p4), (.long (q0 - q1)), (.long ((q0 + q1) + (if p4 = (2 : Int32) then q5 else (0 : Int64)))), (.long (q1 + (if p4 = (1 : Int32) then q5 else (0 : Int64)))), (.long (q0 + (if p4 = (0 : Int32) then q5 else (0 : Int64)))), (.ref b13), (.ref b13)])) _
    refine XS.iconst X13.here hx rfl (hb hby own_d1_57) ?_
    show Steps p.tables e below (T13.setTop (mkF m 58 #[.val (.long q0), .second, .val (.long q1), .second, .val (.int p2), .val (.int p3), .val (.int p4), .val (.long q5), .second, .val (.int (q5.toInt32))] [(.int (3 : Int32)), (.int p4), (.long (q0 - q1)), (.long ((q0 + q1) + (if p4 = (2 : Int32) then q5 else (0 : Int64)))), (.long (q1 + (if p4 = (1 : Int32) then q5 else (0 : Int64)))), (.long (q0 + (if p4 = (0 : Int32) then q5 else (0 : Int64)))), (.ref b13), (.ref b13)])) _
    exact k
  refine Go.dia (c := p4 = (3 : Int32)) (VJ := T13.setTop (mkF m 67 #[.val (.long q0), .second, .val (.long q1), .second, .val (.int p2), .val (.int p3), .val (.int p4), .val (.long q5), .second, .val (.int (q5.toInt32))] [(.long (if p4 = (3 : Int32) then q5 else (0 : Int64))), (.long (q0 - q1)), (.long ((q0 + q1) + (if p4 = (2 : Int32) then q5 else (0 : Int64)))), (.long (q1 + (if p4 = (1 : Int32) then q5 else (0 : Int64)))), (.long (q0 + (if p4 = (0 : Int32) then q5 else (0 : Int64)))), (.ref b13), (.ref b13)])) (fun hd17 t k => ?_) (fun hd17 t k => ?_) ?_
  · rw [if_pos hd17] at k
    refine XS.icmpNo X13.here hx rfl (hb hby own_d1_58) rfl (teq hd17).2 ?_
    show Steps p.tables e below (T13.setTop (mkF m 61 #[.val (.long q0), .second, .val (.long q1), .second, .val (.int p2), .val (.int p3), .val (.int p4), .val (.long q5), .second, .val (.int (q5.toInt32))] [(.long (q0 - q1)), (.long ((q0 + q1) + (if p4 = (2 : Int32) then q5 else (0 : Int64)))), (.long (q1 + (if p4 = (1 : Int32) then q5 else (0 : Int64)))), (.long (q0 + (if p4 = (0 : Int32) then q5 else (0 : Int64)))), (.ref b13), (.ref b13)])) _
    refine XS.lload X13.here hx rfl (hb hby own_d1_61) rfl  ?_
    show Steps p.tables e below (T13.setTop (mkF m 63 #[.val (.long q0), .second, .val (.long q1), .second, .val (.int p2), .val (.int p3), .val (.int p4), .val (.long q5), .second, .val (.int (q5.toInt32))] [(.long q5), (.long (q0 - q1)), (.long ((q0 + q1) + (if p4 = (2 : Int32) then q5 else (0 : Int64)))), (.long (q1 + (if p4 = (1 : Int32) then q5 else (0 : Int64)))), (.long (q0 + (if p4 = (0 : Int32) then q5 else (0 : Int64)))), (.ref b13), (.ref b13)])) _
    refine XS.goto X13.here hx rfl (pc0 := 63) (pc' := 67) rfl (hb hby own_d1_63) (by decide) (by decide) ?_
    show Steps p.tables e below (T13.setTop (mkF m 67 #[.val (.long q0), .second, .val (.long q1), .second, .val (.int p2), .val (.int p3), .val (.int p4), .val (.long q5), .second, .val (.int (q5.toInt32))] [(.long q5), (.long (q0 - q1)), (.long ((q0 + q1) + (if p4 = (2 : Int32) then q5 else (0 : Int64)))), (.long (q1 + (if p4 = (1 : Int32) then q5 else (0 : Int64)))), (.long (q0 + (if p4 = (0 : Int32) then q5 else (0 : Int64)))), (.ref b13), (.ref b13)])) _
    exact k
  · rw [if_neg hd17] at k
    refine XS.icmpYes X13.here hx rfl (pc0 := 58) (pc' := 66) rfl (hb hby own_d1_58) rfl (feq hd17).2 (by decide) (by decide) ?_
    show Steps p.tables e below (T13.setTop (mkF m 66 #[.val (.long q0), .second, .val (.long q1), .second, .val (.int p2), .val (.int p3), .val (.int p4), .val (.long q5), .second, .val (.int (q5.toInt32))] [(.long (q0 - q1)), (.long ((q0 + q1) + (if p4 = (2 : Int32) then q5 else (0 : Int64)))), (.long (q1 + (if p4 = (1 : Int32) then q5 else (0 : Int64)))), (.long (q0 + (if p4 = (0 : Int32) then q5 else (0 : Int64)))), (.ref b13), (.ref b13)])) _
    refine XS.lconst X13.here hx rfl (hb hby own_d1_66) ?_
    show Steps p.tables e below (T13.setTop (mkF m 67 #[.val (.long q0), .second, .val (.long q1), .second, .val (.int p2), .val (.int p3), .val (.int p4), .val (.long q5), .second, .val (.int (q5.toInt32))] [(.long (0 : Int64)), (.long (q0 - q1)), (.long ((q0 + q1) + (if p4 = (2 : Int32) then q5 else (0 : Int64)))), (.long (q1 + (if p4 = (1 : Int32) then q5 else (0 : Int64)))), (.long (q0 + (if p4 = (0 : Int32) then q5 else (0 : Int64)))), (.ref b13), (.ref b13)])) _
    exact k
  refine Go.st (V' := T13.setTop (mkF m 73 #[.val (.long q0), .second, .val (.long q1), .second, .val (.int p2), .val (.int p3), .val (.int p4), .val (.long q5), .second, .val (.int (q5.toInt32))] [(.int (4 : Int32)), (.int p4), (.int p2), (.long ((q0 - q1) + (if p4 = (3 : Int32) then q5 else (0 : Int64)))), (.long ((q0 + q1) + (if p4 = (2 : Int32) then q5 else (0 : Int64)))), (.long (q1 + (if p4 = (1 : Int32) then q5 else (0 : Int64)))), (.long (q0 + (if p4 = (0 : Int32) then q5 else (0 : Int64)))), (.ref b13), (.ref b13)])) (fun t k => ?_) ?_
  · refine XS.ladd X13.here hx rfl (hb hby own_d1_67) rfl ?_
    show Steps p.tables e below (T13.setTop (mkF m 68 #[.val (.long q0), .second, .val (.long q1), .second, .val (.int p2), .val (.int p3), .val (.int p4), .val (.long q5), .second, .val (.int (q5.toInt32))] [(.long ((q0 - q1) + (if p4 = (3 : Int32) then q5 else (0 : Int64)))), (.long ((q0 + q1) + (if p4 = (2 : Int32) then q5 else (0 : Int64)))), (.long (q1 + (if p4 = (1 : Int32) then q5 else (0 : Int64)))), (.long (q0 + (if p4 = (0 : Int32) then q5 else (0 : Int64)))), (.ref b13), (.ref b13)])) _
    refine XS.iload X13.here hx rfl (hb hby own_d1_68) rfl  ?_
    show Steps p.tables e below (T13.setTop (mkF m 70 #[.val (.long q0), .second, .val (.long q1), .second, .val (.int p2), .val (.int p3), .val (.int p4), .val (.long q5), .second, .val (.int (q5.toInt32))] [(.int p2), (.long ((q0 - q1) + (if p4 = (3 : Int32) then q5 else (0 : Int64)))), (.long ((q0 + q1) + (if p4 = (2 : Int32) then q5 else (0 : Int64)))), (.long (q1 + (if p4 = (1 : Int32) then q5 else (0 : Int64)))), (.long (q0 + (if p4 = (0 : Int32) then q5 else (0 : Int64)))), (.ref b13), (.ref b13)])) _
    refine XS.iload X13.here hx rfl (hb hby own_d1_70) rfl  ?_
    show Steps p.tables e below (T13.setTop (mkF m 72 #[.val (.long q0), .second, .val (.long q1), .second, .val (.int p2), .val (.int p3), .val (.int p4), .val (.long q5), .second, .val (.int (q5.toInt32))] [(.int p4), (.int p2), (.long ((q0 - q1) + (if p4 = (3 : Int32) then q5 else (0 : Int64)))), (.long ((q0 + q1) + (if p4 = (2 : Int32) then q5 else (0 : Int64)))), (.long (q1 + (if p4 = (1 : Int32) then q5 else (0 : Int64)))), (.long (q0 + (if p4 = (0 : Int32) then q5 else (0 : Int64)))), (.ref b13), (.ref b13)])) _
    refine XS.iconst X13.here hx rfl (hb hby own_d1_72) ?_
    show Steps p.tables e below (T13.setTop (mkF m 73 #[.val (.long q0), .second, .val (.long q1), .second, .val (.int p2), .val (.int p3), .val (.int p4), .val (.long q5), .second, .val (.int (q5.toInt32))] [(.int (4 : Int32)), (.int p4), (.int p2), (.long ((q0 - q1) + (if p4 = (3 : Int32) then q5 else (0 : Int64)))), (.long ((q0 + q1) + (if p4 = (2 : Int32) then q5 else (0 : Int64)))), (.long (q1 + (if p4 = (1 : Int32) then q5 else (0 : Int64)))), (.long (q0 + (if p4 = (0 : Int32) then q5 else (0 : Int64)))), (.ref b13), (.ref b13)])) _
    exact k
  refine Go.dia (c := p4 = (4 : Int32)) (VJ := T13.setTop (mkF m 82 #[.val (.long q0), .second, .val (.long q1), .second, .val (.int p2), .val (.int p3), .val (.int p4), .val (.long q5), .second, .val (.int (q5.toInt32))] [(.int (if p4 = (4 : Int32) then (q5.toInt32) else (0 : Int32))), (.int p2), (.long ((q0 - q1) + (if p4 = (3 : Int32) then q5 else (0 : Int64)))), (.long ((q0 + q1) + (if p4 = (2 : Int32) then q5 else (0 : Int64)))), (.long (q1 + (if p4 = (1 : Int32) then q5 else (0 : Int64)))), (.long (q0 + (if p4 = (0 : Int32) then q5 else (0 : Int64)))), (.ref b13), (.ref b13)])) (fun hd18 t k => ?_) (fun hd18 t k => ?_) ?_
  · rw [if_pos hd18] at k
    refine XS.icmpNo X13.here hx rfl (hb hby own_d1_73) rfl (teq hd18).2 ?_
    show Steps p.tables e below (T13.setTop (mkF m 76 #[.val (.long q0), .second, .val (.long q1), .second, .val (.int p2), .val (.int p3), .val (.int p4), .val (.long q5), .second, .val (.int (q5.toInt32))] [(.int p2), (.long ((q0 - q1) + (if p4 = (3 : Int32) then q5 else (0 : Int64)))), (.long ((q0 + q1) + (if p4 = (2 : Int32) then q5 else (0 : Int64)))), (.long (q1 + (if p4 = (1 : Int32) then q5 else (0 : Int64)))), (.long (q0 + (if p4 = (0 : Int32) then q5 else (0 : Int64)))), (.ref b13), (.ref b13)])) _
    refine XS.iload X13.here hx rfl (hb hby own_d1_76) rfl  ?_
    show Steps p.tables e below (T13.setTop (mkF m 78 #[.val (.long q0), .second, .val (.long q1), .second, .val (.int p2), .val (.int p3), .val (.int p4), .val (.long q5), .second, .val (.int (q5.toInt32))] [(.int (q5.toInt32)), (.int p2), (.long ((q0 - q1) + (if p4 = (3 : Int32) then q5 else (0 : Int64)))), (.long ((q0 + q1) + (if p4 = (2 : Int32) then q5 else (0 : Int64)))), (.long (q1 + (if p4 = (1 : Int32) then q5 else (0 : Int64)))), (.long (q0 + (if p4 = (0 : Int32) then q5 else (0 : Int64)))), (.ref b13), (.ref b13)])) _
    refine XS.goto X13.here hx rfl (pc0 := 78) (pc' := 82) rfl (hb hby own_d1_78) (by decide) (by decide) ?_
    show Steps p.tables e below (T13.setTop (mkF m 82 #[.val (.long q0), .second, .val (.long q1), .second, .val (.int p2), .val (.int p3), .val (.int p4), .val (.long q5), .second, .val (.int (q5.toInt32))] [(.int (q5.toInt32)), (.int p2), (.long ((q0 - q1) + (if p4 = (3 : Int32) then q5 else (0 : Int64)))), (.long ((q0 + q1) + (if p4 = (2 : Int32) then q5 else (0 : Int64)))), (.long (q1 + (if p4 = (1 : Int32) then q5 else (0 : Int64)))), (.long (q0 + (if p4 = (0 : Int32) then q5 else (0 : Int64)))), (.ref b13), (.ref b13)])) _
    exact k
  · rw [if_neg hd18] at k
    refine XS.icmpYes X13.here hx rfl (pc0 := 73) (pc' := 81) rfl (hb hby own_d1_73) rfl (feq hd18).2 (by decide) (by decide) ?_
    show Steps p.tables e below (T13.setTop (mkF m 81 #[.val (.long q0), .second, .val (.long q1), .second, .val (.int p2), .val (.int p3), .val (.int p4), .val (.long q5), .second, .val (.int (q5.toInt32))] [(.int p2), (.long ((q0 - q1) + (if p4 = (3 : Int32) then q5 else (0 : Int64)))), (.long ((q0 + q1) + (if p4 = (2 : Int32) then q5 else (0 : Int64)))), (.long (q1 + (if p4 = (1 : Int32) then q5 else (0 : Int64)))), (.long (q0 + (if p4 = (0 : Int32) then q5 else (0 : Int64)))), (.ref b13), (.ref b13)])) _
    refine XS.iconst X13.here hx rfl (hb hby own_d1_81) ?_
    show Steps p.tables e below (T13.setTop (mkF m 82 #[.val (.long q0), .second, .val (.long q1), .second, .val (.int p2), .val (.int p3), .val (.int p4), .val (.long q5), .second, .val (.int (q5.toInt32))] [(.int (0 : Int32)), (.int p2), (.long ((q0 - q1) + (if p4 = (3 : Int32) then q5 else (0 : Int64)))), (.long ((q0 + q1) + (if p4 = (2 : Int32) then q5 else (0 : Int64)))), (.long (q1 + (if p4 = (1 : Int32) then q5 else (0 : Int64)))), (.long (q0 + (if p4 = (0 : Int32) then q5 else (0 : Int64)))), (.ref b13), (.ref b13)])) _
    exact k
  refine Go.st (V' := T13.setTop (mkF m 88 #[.val (.long q0), .second, .val (.long q1), .second, .val (.int p2), .val (.int p3), .val (.int p4), .val (.long q5), .second, .val (.int (q5.toInt32))] [(.int (5 : Int32)), (.int p4), (.int p3), (.int (p2 + (if p4 = (4 : Int32) then (q5.toInt32) else (0 : Int32)))), (.long ((q0 - q1) + (if p4 = (3 : Int32) then q5 else (0 : Int64)))), (.long ((q0 + q1) + (if p4 = (2 : Int32) then q5 else (0 : Int64)))), (.long (q1 + (if p4 = (1 : Int32) then q5 else (0 : Int64)))), (.long (q0 + (if p4 = (0 : Int32) then q5 else (0 : Int64)))), (.ref b13), (.ref b13)])) (fun t k => ?_) ?_
  · refine XS.iadd X13.here hx rfl (hb hby own_d1_82) rfl ?_
    show Steps p.tables e below (T13.setTop (mkF m 83 #[.val (.long q0), .second, .val (.long q1), .second, .val (.int p2), .val (.int p3), .val (.int p4), .val (.long q5), .second, .val (.int (q5.toInt32))] [(.int (p2 + (if p4 = (4 : Int32) then (q5.toInt32) else (0 : Int32)))), (.long ((q0 - q1) + (if p4 = (3 : Int32) then q5 else (0 : Int64)))), (.long ((q0 + q1) + (if p4 = (2 : Int32) then q5 else (0 : Int64)))), (.long (q1 + (if p4 = (1 : Int32) then q5 else (0 : Int64)))), (.long (q0 + (if p4 = (0 : Int32) then q5 else (0 : Int64)))), (.ref b13), (.ref b13)])) _
    refine XS.iload X13.here hx rfl (hb hby own_d1_83) rfl  ?_
    show Steps p.tables e below (T13.setTop (mkF m 85 #[.val (.long q0), .second, .val (.long q1), .second, .val (.int p2), .val (.int p3), .val (.int p4), .val (.long q5), .second, .val (.int (q5.toInt32))] [(.int p3), (.int (p2 + (if p4 = (4 : Int32) then (q5.toInt32) else (0 : Int32)))), (.long ((q0 - q1) + (if p4 = (3 : Int32) then q5 else (0 : Int64)))), (.long ((q0 + q1) + (if p4 = (2 : Int32) then q5 else (0 : Int64)))), (.long (q1 + (if p4 = (1 : Int32) then q5 else (0 : Int64)))), (.long (q0 + (if p4 = (0 : Int32) then q5 else (0 : Int64)))), (.ref b13), (.ref b13)])) _
    refine XS.iload X13.here hx rfl (hb hby own_d1_85) rfl  ?_
    show Steps p.tables e below (T13.setTop (mkF m 87 #[.val (.long q0), .second, .val (.long q1), .second, .val (.int p2), .val (.int p3), .val (.int p4), .val (.long q5), .second, .val (.int (q5.toInt32))] [(.int p4), (.int p3), (.int (p2 + (if p4 = (4 : Int32) then (q5.toInt32) else (0 : Int32)))), (.long ((q0 - q1) + (if p4 = (3 : Int32) then q5 else (0 : Int64)))), (.long ((q0 + q1) + (if p4 = (2 : Int32) then q5 else (0 : Int64)))), (.long (q1 + (if p4 = (1 : Int32) then q5 else (0 : Int64)))), (.long (q0 + (if p4 = (0 : Int32) then q5 else (0 : Int64)))), (.ref b13), (.ref b13)])) _
    refine XS.iconst X13.here hx rfl (hb hby own_d1_87) ?_
    show Steps p.tables e below (T13.setTop (mkF m 88 #[.val (.long q0), .second, .val (.long q1), .second, .val (.int p2), .val (.int p3), .val (.int p4), .val (.long q5), .second, .val (.int (q5.toInt32))] [(.int (5 : Int32)), (.int p4), (.int p3), (.int (p2 + (if p4 = (4 : Int32) then (q5.toInt32) else (0 : Int32)))), (.long ((q0 - q1) + (if p4 = (3 : Int32) then q5 else (0 : Int64)))), (.long ((q0 + q1) + (if p4 = (2 : Int32) then q5 else (0 : Int64)))), (.long (q1 + (if p4 = (1 : Int32) then q5 else (0 : Int64)))), (.long (q0 + (if p4 = (0 : Int32) then q5 else (0 : Int64)))), (.ref b13), (.ref b13)])) _
    exact k
  refine Go.dia (c := p4 = (5 : Int32)) (VJ := T13.setTop (mkF m 97 #[.val (.long q0), .second, .val (.long q1), .second, .val (.int p2), .val (.int p3), .val (.int p4), .val (.long q5), .second, .val (.int (q5.toInt32))] [(.int (if p4 = (5 : Int32) then (q5.toInt32) else (0 : Int32))), (.int p3), (.int (p2 + (if p4 = (4 : Int32) then (q5.toInt32) else (0 : Int32)))), (.long ((q0 - q1) + (if p4 = (3 : Int32) then q5 else (0 : Int64)))), (.long ((q0 + q1) + (if p4 = (2 : Int32) then q5 else (0 : Int64)))), (.long (q1 + (if p4 = (1 : Int32) then q5 else (0 : Int64)))), (.long (q0 + (if p4 = (0 : Int32) then q5 else (0 : Int64)))), (.ref b13), (.ref b13)])) (fun hd19 t k => ?_) (fun hd19 t k => ?_) ?_
  · rw [if_pos hd19] at k
    refine XS.icmpNo X13.here hx rfl (hb hby own_d1_88) rfl (teq hd19).2 ?_
    show Steps p.tables e below (T13.setTop (mkF m 91 #[.val (.long q0), .second, .val (.long q1), .second, .val (.int p2), .val (.int p3), .val (.int p4), .val (.long q5), .second, .val (.int (q5.toInt32))] [(.int p3), (.int (p2 + (if p4 = (4 : Int32) then (q5.toInt32) else (0 : Int32)))), (.long ((q0 - q1) + (if p4 = (3 : Int32) then q5 else (0 : Int64)))), (.long ((q0 + q1) + (if p4 = (2 : Int32) then q5 else (0 : Int64)))), (.long (q1 + (if p4 = (1 : Int32) then q5 else (0 : Int64)))), (.long (q0 + (if p4 = (0 : Int32) then q5 else (0 : Int64)))), (.ref b13), (.ref b13)])) _
    refine XS.iload X13.here hx rfl (hb hby own_d1_91) rfl  ?_
    show Steps p.tables e below (T13.setTop (mkF m 93 #[.val (.long q0), .second, .val (.long q1), .second, .val (.int p2), .val (.int p3), .val (.int p4), .val (.long q5), .second, .val (.int (q5.toInt32))] [(.int (q5.toInt32)), (.int p3), (.int (p2 + (if p4 = (4 : Int32) then (q5.toInt32) else (0 : Int32)))), (.long ((q0 - q1) + (if p4 = (3 : Int32) then q5 else (0 : Int64)))), (.long ((q0 + q1) + (if p4 = (2 : Int32) then q5 else (0 : Int64)))), (.long (q1 + (if p4 = (1 : Int32) then q5 else (0 : Int64)))), (.long (q0 + (if p4 = (0 : Int32) then q5 else (0 : Int64)))), (.ref b13), (.ref b13)])) _
    refine XS.goto X13.here hx rfl (pc0 := 93) (pc' := 97) rfl (hb hby own_d1_93) (by decide) (by decide) ?_
    show Steps p.tables e below (T13.setTop (mkF m 97 #[.val (.long q0), .second, .val (.long q1), .second, .val (.int p2), .val (.int p3), .val (.int p4), .val (.long q5), .second, .val (.int (q5.toInt32))] [(.int (q5.toInt32)), (.int p3), (.int (p2 + (if p4 = (4 : Int32) then (q5.toInt32) else (0 : Int32)))), (.long ((q0 - q1) + (if p4 = (3 : Int32) then q5 else (0 : Int64)))), (.long ((q0 + q1) + (if p4 = (2 : Int32) then q5 else (0 : Int64)))), (.long (q1 + (if p4 = (1 : Int32) then q5 else (0 : Int64)))), (.long (q0 + (if p4 = (0 : Int32) then q5 else (0 : Int64)))), (.ref b13), (.ref b13)])) _
    exact k
  · rw [if_neg hd19] at k
    refine XS.icmpYes X13.here hx rfl (pc0 := 88) (pc' := 96) rfl (hb hby own_d1_88) rfl (feq hd19).2 (by decide) (by decide) ?_
    show Steps p.tables e below (T13.setTop (mkF m 96 #[.val (.long q0), .second, .val (.long q1), .second, .val (.int p2), .val (.int p3), .val (.int p4), .val (.long q5), .second, .val (.int (q5.toInt32))] [(.int p3), (.int (p2 + (if p4 = (4 : Int32) then (q5.toInt32) else (0 : Int32)))), (.long ((q0 - q1) + (if p4 = (3 : Int32) then q5 else (0 : Int64)))), (.long ((q0 + q1) + (if p4 = (2 : Int32) then q5 else (0 : Int64)))), (.long (q1 + (if p4 = (1 : Int32) then q5 else (0 : Int64)))), (.long (q0 + (if p4 = (0 : Int32) then q5 else (0 : Int64)))), (.ref b13), (.ref b13)])) _
    refine XS.iconst X13.here hx rfl (hb hby own_d1_96) ?_
    show Steps p.tables e below (T13.setTop (mkF m 97 #[.val (.long q0), .second, .val (.long q1), .second, .val (.int p2), .val (.int p3), .val (.int p4), .val (.long q5), .second, .val (.int (q5.toInt32))] [(.int (0 : Int32)), (.int p3), (.int (p2 + (if p4 = (4 : Int32) then (q5.toInt32) else (0 : Int32)))), (.long ((q0 - q1) + (if p4 = (3 : Int32) then q5 else (0 : Int64)))), (.long ((q0 + q1) + (if p4 = (2 : Int32) then q5 else (0 : Int64)))), (.long (q1 + (if p4 = (1 : Int32) then q5 else (0 : Int64)))), (.long (q0 + (if p4 = (0 : Int32) then q5 else (0 : Int64)))), (.ref b13), (.ref b13)])) _
    exact k
  refine Go.st (V' := T13.setTop (mkF m 107 #[.val (.long q0), .second, .val (.long q1), .second, .val (.int p2), .val (.int p3), .val (.int p4), .val (.long q5), .second, .val (.int (q5.toInt32))] [(.int (6 : Int32)), (.int p4), (.int (p2 ^^^ p3)), (.int (p3 + (if p4 = (5 : Int32) then (q5.toInt32) else (0 : Int32)))), (.int (p2 + (if p4 = (4 : Int32) then (q5.toInt32) else (0 : Int32)))), (.long ((q0 - q1) + (if p4 = (3 : Int32) then q5 else (0 : Int64)))), (.long ((q0 + q1) + (if p4 = (2 : Int32) then q5 else (0 : Int64)))), (.long (q1 + (if p4 = (1 : Int32) then q5 else (0 : Int64)))), (.long (q0 + (if p4 = (0 : Int32) then q5 else (0 : Int64)))), (.ref b13), (.ref b13)])) (fun t k => ?_) ?_
  · refine XS.iadd X13.here hx rfl (hb hby own_d1_97) rfl ?_
    show Steps p.tables e below (T13.setTop (mkF m 98 #[.val (.long q0), .second, .val (.long q1), .second, .val (.int p2), .val (.int p3), .val (.int p4), .val (.long q5), .second, .val (.int (q5.toInt32))] [(.int (p3 + (if p4 = (5 : Int32) then (q5.toInt32) else (0 : Int32)))), (.int (p2 + (if p4 = (4 : Int32) then (q5.toInt32) else (0 : Int32)))), (.long ((q0 - q1) + (if p4 = (3 : Int32) then q5 else (0 : Int64)))), (.long ((q0 + q1) + (if p4 = (2 : Int32) then q5 else (0 : Int64)))), (.long (q1 + (if p4 = (1 : Int32) then q5 else (0 : Int64)))), (.long (q0 + (if p4 = (0 : Int32) then q5 else (0 : Int64)))), (.ref b13), (.ref b13)])) _
    refine XS.iload X13.here hx rfl (hb hby own_d1_98) rfl  ?_
    show Steps p.tables e below (T13.setTop (mkF m 100 #[.val (.long q0), .second, .val (.long q1), .second, .val (.int p2), .val (.int p3), .val (.int p4), .val (.long q5), .second, .val (.int (q5.toInt32))] [(.int p2), (.int (p3 + (if p4 = (5 : Int32) then (q5.toInt32) else (0 : Int32)))), (.int (p2 + (if p4 = (4 : Int32) then (q5.toInt32) else (0 : Int32)))), (.long ((q0 - q1) + (if p4 = (3 : Int32) then q5 else (0 : Int64)))), (.long ((q0 + q1) + (if p4 = (2 : Int32) then q5 else (0 : Int64)))), (.long (q1 + (if p4 = (1 : Int32) then q5 else (0 : Int64)))), (.long (q0 + (if p4 = (0 : Int32) then q5 else (0 : Int64)))), (.ref b13), (.ref b13)])) _
    refine XS.iload X13.here hx rfl (hb hby own_d1_100) rfl  ?_
    show Steps p.tables e below (T13.setTop (mkF m 102 #[.val (.long q0), .second, .val (.long q1), .second, .val (.int p2), .val (.int p3), .val (.int p4), .val (.long q5), .second, .val (.int (q5.toInt32))] [(.int p3), (.int p2), (.int (p3 + (if p4 = (5 : Int32) then (q5.toInt32) else (0 : Int32)))), (.int (p2 + (if p4 = (4 : Int32) then (q5.toInt32) else (0 : Int32)))), (.long ((q0 - q1) + (if p4 = (3 : Int32) then q5 else (0 : Int64)))), (.long ((q0 + q1) + (if p4 = (2 : Int32) then q5 else (0 : Int64)))), (.long (q1 + (if p4 = (1 : Int32) then q5 else (0 : Int64)))), (.long (q0 + (if p4 = (0 : Int32) then q5 else (0 : Int64)))), (.ref b13), (.ref b13)])) _
    refine XS.ixor X13.here hx rfl (hb hby own_d1_102) rfl ?_
    show Steps p.tables e below (T13.setTop (mkF m 103 #[.val (.long q0), .second, .val (.long q1), .second, .val (.int p2), .val (.int p3), .val (.int p4), .val (.long q5), .second, .val (.int (q5.toInt32))] [(.int (p2 ^^^ p3)), (.int (p3 + (if p4 = (5 : Int32) then (q5.toInt32) else (0 : Int32)))), (.int (p2 + (if p4 = (4 : Int32) then (q5.toInt32) else (0 : Int32)))), (.long ((q0 - q1) + (if p4 = (3 : Int32) then q5 else (0 : Int64)))), (.long ((q0 + q1) + (if p4 = (2 : Int32) then q5 else (0 : Int64)))), (.long (q1 + (if p4 = (1 : Int32) then q5 else (0 : Int64)))), (.long (q0 + (if p4 = (0 : Int32) then q5 else (0 : Int64)))), (.ref b13), (.ref b13)])) _
    refine XS.iload X13.here hx rfl (hb hby own_d1_103) rfl  ?_
    show Steps p.tables e below (T13.setTop (mkF m 105 #[.val (.long q0), .second, .val (.long q1), .second, .val (.int p2), .val (.int p3), .val (.int p4), .val (.long q5), .second, .val (.int (q5.toInt32))] [(.int p4), (.int (p2 ^^^ p3)), (.int (p3 + (if p4 = (5 : Int32) then (q5.toInt32) else (0 : Int32)))), (.int (p2 + (if p4 = (4 : Int32) then (q5.toInt32) else (0 : Int32)))), (.long ((q0 - q1) + (if p4 = (3 : Int32) then q5 else (0 : Int64)))), (.long ((q0 + q1) + (if p4 = (2 : Int32) then q5 else (0 : Int64)))), (.long (q1 + (if p4 = (1 : Int32) then q5 else (0 : Int64)))), (.long (q0 + (if p4 = (0 : Int32) then q5 else (0 : Int64)))), (.ref b13), (.ref b13)])) _
    refine XS.bipush X13.here hx rfl (hb hby own_d1_105) ?_
    show Steps p.tables e below (T13.setTop (mkF m 107 #[.val (.long q0), .second, .val (.long q1), .second, .val (.int p2), .val (.int p3), .val (.int p4), .val (.long q5), .second, .val (.int (q5.toInt32))] [(.int (6 : Int32)), (.int p4), (.int (p2 ^^^ p3)), (.int (p3 + (if p4 = (5 : Int32) then (q5.toInt32) else (0 : Int32)))), (.int (p2 + (if p4 = (4 : Int32) then (q5.toInt32) else (0 : Int32)))), (.long ((q0 - q1) + (if p4 = (3 : Int32) then q5 else (0 : Int64)))), (.long ((q0 + q1) + (if p4 = (2 : Int32) then q5 else (0 : Int64)))), (.long (q1 + (if p4 = (1 : Int32) then q5 else (0 : Int64)))), (.long (q0 + (if p4 = (0 : Int32) then q5 else (0 : Int64)))), (.ref b13), (.ref b13)])) _
    exact k
  refine Go.dia (c := p4 = (6 : Int32)) (VJ := T13.setTop (mkF m 116 #[.val (.long q0), .second, .val (.long q1), .second, .val (.int p2), .val (.int p3), .val (.int p4), .val (.long q5), .second, .val (.int (q5.toInt32))] [(.int (if p4 = (6 : Int32) then (q5.toInt32) else (0 : Int32))), (.int (p2 ^^^ p3)), (.int (p3 + (if p4 = (5 : Int32) then (q5.toInt32) else (0 : Int32)))), (.int (p2 + (if p4 = (4 : Int32) then (q5.toInt32) else (0 : Int32)))), (.long ((q0 - q1) + (if p4 = (3 : Int32) then q5 else (0 : Int64)))), (.long ((q0 + q1) + (if p4 = (2 : Int32) then q5 else (0 : Int64)))), (.long (q1 + (if p4 = (1 : Int32) then q5 else (0 : Int64)))), (.long (q0 + (if p4 = (0 : Int32) then q5 else (0 : Int64)))), (.ref b13), (.ref b13)])) (fun hd20 t k => ?_) (fun hd20 t k => ?_) ?_
  · rw [if_pos hd20] at k
    refine XS.icmpNo X13.here hx rfl (hb hby own_d1_107) rfl (teq hd20).2 ?_
    show Steps p.tables e below (T13.setTop (mkF m 110 #[.val (.long q0), .second, .val (.long q1), .second, .val (.int p2), .val (.int p3), .val (.int p4), .val (.long q5), .second, .val (.int (q5.toInt32))] [(.int (p2 ^^^ p3)), (.int (p3 + (if p4 = (5 : Int32) then (q5.toInt32) else (0 : Int32)))), (.int (p2 + (if p4 = (4 : Int32) then (q5.toInt32) else (0 : Int32)))), (.long ((q0 - q1) + (if p4 = (3 : Int32) then q5 else (0 : Int64)))), (.long ((q0 + q1) + (if p4 = (2 : Int32) then q5 else (0 : Int64)))), (.long (q1 + (if p4 = (1 : Int32) then q5 else (0 : Int64)))), (.long (q0 + (if p4 = (0 : Int32) then q5 else (0 : Int64)))), (.ref b13), (.ref b13)])) _
    refine XS.iload X13.here hx rfl (hb hby own_d1_110) rfl  ?_
    show Steps p.tables e below (T13.setTop (mkF m 112 #[.val (.long q0), .second, .val (.long q1), .second, .val (.int p2), .val (.int p3), .val (.int p4), .val (.long q5), .second, .val (.int (q5.toInt32))] [(.int (q5.toInt32)), (.int (p2 ^^^ p3)), (.int (p3 + (if p4 = (5 : Int32) then (q5.toInt32) else (0 : Int32)))), (.int (p2 + (if p4 = (4 : Int32) then (q5.toInt32) else (0 : Int32)))), (.long ((q0 - q1) + (if p4 = (3 : Int32) then q5 else (0 : Int64)))), (.long ((q0 + q1) + (if p4 = (2 : Int32) then q5 else (0 : Int64)))), (.long (q1 + (if p4 = (1 : Int32) then q5 else (0 : Int64)))), (.long (q0 + (if p4 = (0 : Int32) then q5 else (0 : Int64)))), (.ref b13), (.ref b13)])) _
    refine XS.goto X13.here hx rfl (pc0 := 112) (pc' := 116) rfl (hb hby own_d1_112) (by decide) (by decide) ?_
    show Steps p.tables e below (T13.setTop (mkF m 116 #[.val (.long q0), .second, .val (.long q1), .second, .val (.int p2), .val (.int p3), .val (.int p4), .val (.long q5), .second, .val (.int (q5.toInt32))] [(.int (q5.toInt32)), (.int (p2 ^^^ p3)), (.int (p3 + (if p4 = (5 : Int32) then (q5.toInt32) else (0 : Int32)))), (.int (p2 + (if p4 = (4 : Int32) then (q5.toInt32) else (0 : Int32)))), (.long ((q0 - q1) + (if p4 = (3 : Int32) then q5 else (0 : Int64)))), (.long ((q0 + q1) + (if p4 = (2 : Int32) then q5 else (0 : Int64)))), (.long (q1 + (if p4 = (1 : Int32) then q5 else (0 : Int64)))), (.long (q0 + (if p4 = (0 : Int32) then q5 else (0 : Int64)))), (.ref b13), (.ref b13)])) _
    exact k
  · rw [if_neg hd20] at k
    refine XS.icmpYes X13.here hx rfl (pc0 := 107) (pc' := 115) rfl (hb hby own_d1_107) rfl (feq hd20).2 (by decide) (by decide) ?_
    show Steps p.tables e below (T13.setTop (mkF m 115 #[.val (.long q0), .second, .val (.long q1), .second, .val (.int p2), .val (.int p3), .val (.int p4), .val (.long q5), .second, .val (.int (q5.toInt32))] [(.int (p2 ^^^ p3)), (.int (p3 + (if p4 = (5 : Int32) then (q5.toInt32) else (0 : Int32)))), (.int (p2 + (if p4 = (4 : Int32) then (q5.toInt32) else (0 : Int32)))), (.long ((q0 - q1) + (if p4 = (3 : Int32) then q5 else (0 : Int64)))), (.long ((q0 + q1) + (if p4 = (2 : Int32) then q5 else (0 : Int64)))), (.long (q1 + (if p4 = (1 : Int32) then q5 else (0 : Int64)))), (.long (q0 + (if p4 = (0 : Int32) then q5 else (0 : Int64)))), (.ref b13), (.ref b13)])) _
    refine XS.iconst X13.here hx rfl (hb hby own_d1_115) ?_
    show Steps p.tables e below (T13.setTop (mkF m 116 #[.val (.long q0), .second, .val (.long q1), .second, .val (.int p2), .val (.int p3), .val (.int p4), .val (.long q5), .second, .val (.int (q5.toInt32))] [(.int (0 : Int32)), (.int (p2 ^^^ p3)), (.int (p3 + (if p4 = (5 : Int32) then (q5.toInt32) else (0 : Int32)))), (.int (p2 + (if p4 = (4 : Int32) then (q5.toInt32) else (0 : Int32)))), (.long ((q0 - q1) + (if p4 = (3 : Int32) then q5 else (0 : Int64)))), (.long ((q0 + q1) + (if p4 = (2 : Int32) then q5 else (0 : Int64)))), (.long (q1 + (if p4 = (1 : Int32) then q5 else (0 : Int64)))), (.long (q0 + (if p4 = (0 : Int32) then q5 else (0 : Int64)))), (.ref b13), (.ref b13)])) _
    exact k
  refine Go.st (V' := T13.setTop (mkF m 126 #[.val (.long q0), .second, .val (.long q1), .second, .val (.int p2), .val (.int p3), .val (.int p4), .val (.long q5), .second, .val (.int (q5.toInt32))] [(.int (7 : Int32)), (.int p4), (.long (q0 ^^^ (-1 : Int64))), (.int ((p2 ^^^ p3) + (if p4 = (6 : Int32) then (q5.toInt32) else (0 : Int32)))), (.int (p3 + (if p4 = (5 : Int32) then (q5.toInt32) else (0 : Int32)))), (.int (p2 + (if p4 = (4 : Int32) then (q5.toInt32) else (0 : Int32)))), (.long ((q0 - q1) + (if p4 = (3 : Int32) then q5 else (0 : Int64)))), (.long ((q0 + q1) + (if p4 = (2 : Int32) then q5 else (0 : Int64)))), (.long (q1 + (if p4 = (1 : Int32) then q5 else (0 : Int64)))), (.long (q0 + (if p4 = (0 : Int32) then q5 else (0 : Int64)))), (.ref b13), (.ref b13)])) (fun t k => ?_) ?_
  · refine XS.iadd X13.here hx rfl (hb hby own_d1_116) rfl ?_
    show Steps p.tables e below (T13.setTop (mkF m 117 #[.val (.long q0), .second, .val (.long q1), .second, .val (.int p2), .val (.int p3), .val (.int p4), .val (.long q5), .second, .val (.int (q5.toInt32))] [(.int ((p2 ^^^ p3) + (if p4 = (6 : Int32) then (q5.toInt32) else (0 : Int32)))), (.int (p3 + (if p4 = (5 : Int32) then (q5.toInt32) else (0 : Int32)))), (.int (p2 + (if p4 = (4 : Int32) then (q5.toInt32) else (0 : Int32)))), (.long ((q0 - q1) + (if p4 = (3 : Int32) then q5 else (0 : Int64)))), (.long ((q0 + q1) + (if p4 = (2 : Int32) then q5 else (0 : Int64)))), (.long (q1 + (if p4 = (1 : Int32) then q5 else (0 : Int64)))), (.long (q0 + (if p4 = (0 : Int32) then q5 else (0 : Int64)))), (.ref b13), (.ref b13)])) _
    refine XS.lloadN X13.here hx rfl (hb hby own_d1_117) rfl  ?_
    show Steps p.tables e below (T13.setTop (mkF m 118 #[.val (.long q0), .second, .val (.long q1), .second, .val (.int p2), .val (.int p3), .val (.int p4), .val (.long q5), .second, .val (.int (q5.toInt32))] [(.long q0), (.int ((p2 ^^^ p3) + (if p4 = (6 : Int32) then (q5.toInt32) else (0 : Int32)))), (.int (p3 + (if p4 = (5 : Int32) then (q5.toInt32) else (0 : Int32)))), (.int (p2 + (if p4 = (4 : Int32) then (q5.toInt32) else (0 : Int32)))), (.long ((q0 - q1) + (if p4 = (3 : Int32) then q5 else (0 : Int64)))), (.long ((q0 + q1) + (if p4 = (2 : Int32) then q5 else (0 : Int64)))), (.long (q1 + (if p4 = (1 : Int32) then q5 else (0 : Int64)))), (.long (q0 + (if p4 = (0 : Int32) then q5 else (0 : Int64)))), (.ref b13), (.ref b13)])) _
    refine X13.ldc2Long hx hown (mvT hZ (hw _ (List.mem_of_getElem? (i := 8) rfl))) (g := (mkF m 118 #[.val (.long q0), .second, .val (.long q1), .second, .val (.int p2), .val (.int p3), .val (.int p4), .val (.long q5), .second, .val (.int (q5.toInt32))] [(.long q0), (.int ((p2 ^^^ p3) + (if p4 = (6 : Int32) then (q5.toInt32) else (0 : Int32)))), (.int (p3 + (if p4 = (5 : Int32) then (q5.toInt32) else (0 : Int32)))), (.int (p2 + (if p4 = (4 : Int32) then (q5.toInt32) else (0 : Int32)))), (.long ((q0 - q1) + (if p4 = (3 : Int32) then q5 else (0 : Int64)))), (.long ((q0 + q1) + (if p4 = (2 : Int32) then q5 else (0 : Int64)))), (.long (q1 + (if p4 = (1 : Int32) then q5 else (0 : Int64)))), (.long (q0 + (if p4 = (0 : Int32) then q5 else (0 : Int64)))), (.ref b13), (.ref b13)])) rfl (hb hby own_d1_118) _ ?_
    show Steps p.tables e below (T13.setTop (mkF m 121 #[.val (.long q0), .second, .val (.long q1), .second, .val (.int p2), .val (.int p3), .val (.int p4), .val (.long q5), .second, .val (.int (q5.toInt32))] [(.long (-1 : Int64)), (.long q0), (.int ((p2 ^^^ p3) + (if p4 = (6 : Int32) then (q5.toInt32) else (0 : Int32)))), (.int (p3 + (if p4 = (5 : Int32) then (q5.toInt32) else (0 : Int32)))), (.int (p2 + (if p4 = (4 : Int32) then (q5.toInt32) else (0 : Int32)))), (.long ((q0 - q1) + (if p4 = (3 : Int32) then q5 else (0 : Int64)))), (.long ((q0 + q1) + (if p4 = (2 : Int32) then q5 else (0 : Int64)))), (.long (q1 + (if p4 = (1 : Int32) then q5 else (0 : Int64)))), (.long (q0 + (if p4 = (0 : Int32) then q5 else (0 : Int64)))), (.ref b13), (.ref b13)])) _
    refine XS.lxor X13.here hx rfl (hb hby own_d1_121) rfl ?_
    show Steps p.tables e below (T13.setTop (mkF m 122 #[.val (.long q0), .second, .val (.long q1), .second, .val (.int p2), .val (.int p3), .val (.int p4), .val (.long q5), .second, .val (.int (q5.toInt32))] [(.long (q0 ^^^ (-1 : Int64))), (.int ((p2 ^^^ p3) + (if p4 = (6 : Int32) then (q5.toInt32) else (0 : Int32)))), (.int (p3 + (if p4 = (5 : Int32) then (q5.toInt32) else (0 : Int32)))), (.int (p2 + (if p4 = (4 : Int32) then (q5.toInt32) else (0 : Int32)))), (.long ((q0 - q1) + (if p4 = (3 : Int32) then q5 else (0 : Int64)))), (.long ((q0 + q1) + (if p4 = (2 : Int32) then q5 else (0 : Int64)))), (.long (q1 + (if p4 = (1 : Int32) then q5 else (0 : Int64)))), (.long (q0 + (if p4 = (0 : Int32) then q5 else (0 : Int64)))), (.ref b13), (.ref b13)])) _
    refine XS.iload X13.here hx rfl (hb hby own_d1_122) rfl  ?_
    show Steps p.tables e below (T13.setTop (mkF m 124 #[.val (.long q0), .second, .val (.long q1), .second, .val (.int p2), .val (.int p3), .val (.int p4), .val (.long q5), .second, .val (.int (q5.toInt32))] [(.int p4), (.long (q0 ^^^ (-1 : Int64))), (.int ((p2 ^^^ p3) + (if p4 = (6 : Int32) then (q5.toInt32) else (0 : Int32)))), (.int (p3 + (if p4 = (5 : Int32) then (q5.toInt32) else (0 : Int32)))), (.int (p2 + (if p4 = (4 : Int32) then (q5.toInt32) else (0 : Int32)))), (.long ((q0 - q1) + (if p4 = (3 : Int32) then q5 else (0 : Int64)))), (.long ((q0 + q1) + (if p4 = (2 : Int32) then q5 else (0 : Int64)))), (.long (q1 + (if p4 = (1 : Int32) then q5 else (0 : Int64)))), (.long (q0 + (if p4 = (0 : Int32) then q5 else (0 : Int64)))), (.ref b13), (.ref b13)])) _
    refine XS.bipush X13.here hx rfl (hb hby own_d1_124) ?_
    show Steps p.tables e below (T13.setTop (mkF m 126 #[.val (.long q0), .second, .val (.long q1), .second, .val (.int p2), .val (.int p3), .val (.int p4), .val (.long q5), .second, .val (.int (q5.toInt32))] [(.int (7 : Int32)), (.int p4), (.long (q0 ^^^ (-1 : Int64))), (.int ((p2 ^^^ p3) + (if p4 = (6 : Int32) then (q5.toInt32) else (0 : Int32)))), (.int (p3 + (if p4 = (5 : Int32) then (q5.toInt32) else (0 : Int32)))), (.int (p2 + (if p4 = (4 : Int32) then (q5.toInt32) else (0 : Int32)))), (.long ((q0 - q1) + (if p4 = (3 : Int32) then q5 else (0 : Int64)))), (.long ((q0 + q1) + (if p4 = (2 : Int32) then q5 else (0 : Int64)))), (.long (q1 + (if p4 = (1 : Int32) then q5 else (0 : Int64)))), (.long (q0 + (if p4 = (0 : Int32) then q5 else (0 : Int64)))), (.ref b13), (.ref b13)])) _
    exact k
  refine Go.dia (c := p4 = (7 : Int32)) (VJ := T13.setTop (mkF m 135 #[.val (.long q0), .second, .val (.long q1), .second, .val (.int p2), .val (.int p3), .val (.int p4), .val (.long q5), .second, .val (.int (q5.toInt32))] [(.long (if p4 = (7 : Int32) then q5 else (0 : Int64))), (.long (q0 ^^^ (-1 : Int64))), (.int ((p2 ^^^ p3) + (if p4 = (6 : Int32) then (q5.toInt32) else (0 : Int32)))), (.int (p3 + (if p4 = (5 : Int32) then (q5.toInt32) else (0 : Int32)))), (.int (p2 + (if p4 = (4 : Int32) then (q5.toInt32) else (0 : Int32)))), (.long ((q0 - q1) + (if p4 = (3 : Int32) then q5 else (0 : Int64)))), (.long ((q0 + q1) + (if p4 = (2 : Int32) then q5 else (0 : Int64)))), (.long (q1 + (if p4 = (1 : Int32) then q5 else (0 : Int64)))), (.long (q0 + (if p4 = (0 : Int32) then q5 else (0 : Int64)))), (.ref b13), (.ref b13)])) (fun hd21 t k => ?_) (fun hd21 t k => ?_) ?_
  · rw [if_pos hd21] at k
    refine XS.icmpNo X13.here hx rfl (hb hby own_d1_126) rfl (teq hd21).2 ?_
    show Steps p.tables e below (T13.setTop (mkF m 129 #[.val (.long q0), .second, .val (.long q1), .second, .val (.int p2), .val (.int p3), .val (.int p4), .val (.long q5), .second, .val (.int (q5.toInt32))] [(.long (q0 ^^^ (-1 : Int64))), (.int ((p2 ^^^ p3) + (if p4 = (6 : Int32) then (q5.toInt32) else (0 : Int32)))), (.int (p3 + (if p4 = (5 : Int32) then (q5.toInt32) else (0 : Int32)))), (.int (p2 + (if p4 = (4 : Int32) then (q5.toInt32) else (0 : Int32)))), (.long ((q0 - q1) + (if p4 = (3 : Int32) then q5 else (0 : Int64)))), (.long ((q0 + q1) + (if p4 = (2 : Int32) then q5 else (0 : Int64)))), (.long (q1 + (if p4 = (1 : Int32) then q5 else (0 : Int64)))), (.long (q0 + (if p4 = (0 : Int32) then q5 else (0 : Int64)))), (.ref b13), (.ref b13)])) _
    refine XS.lload X13.here hx rfl (hb hby own_d1_129) rfl  ?_
    show Steps p.tables e below (T13.setTop (mkF m 131 #[.val (.long q0), .second, .val (.long q1), .second, .val (.int p2), .val (.int p3), .val (.int p4), .val (.long q5), .second, .val (.int (q5.toInt32))] [(.long q5), (.long (q0 ^^^ (-1 : Int64))), (.int ((p2 ^^^ p3) + (if p4 = (6 : Int32) then (q5.toInt32) else (0 : Int32)))), (.int (p3 + (if p4 = (5 : Int32) then (q5.toInt32) else (0 : Int32)))), (.int (p2 + (if p4 = (4 : Int32) then (q5.toInt32) else (0 : Int32)))), (.long ((q0 - q1) + (if p4 = (3 : Int32) then q5 else (0 : Int64)))), (.long ((q0 + q1) + (if p4 = (2 : Int32) then q5 else (0 : Int64)))), (.long (q1 + (if p4 = (1 : Int32) then q5 else (0 : Int64)))), (.long (q0 + (if p4 = (0 : Int32) then q5 else (0 : Int64)))), (.ref b13), (.ref b13)])) _
    refine XS.goto X13.here hx rfl (pc0 := 131) (pc' := 135) rfl (hb hby own_d1_131) (by decide) (by decide) ?_
    show Steps p.tables e below (T13.setTop (mkF m 135 #[.val (.long q0), .second, .val (.long q1), .second, .val (.int p2), .val (.int p3), .val (.int p4), .val (.long q5), .second, .val (.int (q5.toInt32))] [(.long q5), (.long (q0 ^^^ (-1 : Int64))), (.int ((p2 ^^^ p3) + (if p4 = (6 : Int32) then (q5.toInt32) else (0 : Int32)))), (.int (p3 + (if p4 = (5 : Int32) then (q5.toInt32) else (0 : Int32)))), (.int (p2 + (if p4 = (4 : Int32) then (q5.toInt32) else (0 : Int32)))), (.long ((q0 - q1) + (if p4 = (3 : Int32) then q5 else (0 : Int64)))), (.long ((q0 + q1) + (if p4 = (2 : Int32) then q5 else (0 : Int64)))), (.long (q1 + (if p4 = (1 : Int32) then q5 else (0 : Int64)))), (.long (q0 + (if p4 = (0 : Int32) then q5 else (0 : Int64)))), (.ref b13), (.ref b13)])) _
    exact k
  · rw [if_neg hd21] at k
    refine XS.icmpYes X13.here hx rfl (pc0 := 126) (pc' := 134) rfl (hb hby own_d1_126) rfl (feq hd21).2 (by decide) (by decide) ?_
    show Steps p.tables e below (T13.setTop (mkF m 134 #[.val (.long q0), .second, .val (.long q1), .second, .val (.int p2), .val (.int p3), .val (.int p4), .val (.long q5), .second, .val (.int (q5.toInt32))] [(.long (q0 ^^^ (-1 : Int64))), (.int ((p2 ^^^ p3) + (if p4 = (6 : Int32) then (q5.toInt32) else (0 : Int32)))), (.int (p3 + (if p4 = (5 : Int32) then (q5.toInt32) else (0 : Int32)))), (.int (p2 + (if p4 = (4 : Int32) then (q5.toInt32) else (0 : Int32)))), (.long ((q0 - q1) + (if p4 = (3 : Int32) then q5 else (0 : Int64)))), (.long ((q0 + q1) + (if p4 = (2 : Int32) then q5 else (0 : Int64)))), (.long (q1 + (if p4 = (1 : Int32) then q5 else (0 : Int64)))), (.long (q0 + (if p4 = (0 : Int32) then q5 else (0 : Int64)))), (.ref b13), (.ref b13)])) _
    refine XS.lconst X13.here hx rfl (hb hby own_d1_134) ?_
    show Steps p.tables e below (T13.setTop (mkF m 135 #[.val (.long q0), .second, .val (.long q1), .second, .val (.int p2), .val (.int p3), .val (.int p4), .val (.long q5), .second, .val (.int (q5.toInt32))] [(.long (0 : Int64)), (.long (q0 ^^^ (-1 : Int64))), (.int ((p2 ^^^ p3) + (if p4 = (6 : Int32) then (q5.toInt32) else (0 : Int32)))), (.int (p3 + (if p4 = (5 : Int32) then (q5.toInt32) else (0 : Int32)))), (.int (p2 + (if p4 = (4 : Int32) then (q5.toInt32) else (0 : Int32)))), (.long ((q0 - q1) + (if p4 = (3 : Int32) then q5 else (0 : Int64)))), (.long ((q0 + q1) + (if p4 = (2 : Int32) then q5 else (0 : Int64)))), (.long (q1 + (if p4 = (1 : Int32) then q5 else (0 : Int64)))), (.long (q0 + (if p4 = (0 : Int32) then q5 else (0 : Int64)))), (.ref b13), (.ref b13)])) _
    exact k
  refine Go.st (V' := T13.setTop (mkF m 145 #[.val (.long q0), .second, .val (.long q1), .second, .val (.int p2), .val (.int p3), .val (.int p4), .val (.long q5), .second, .val (.int (q5.toInt32))] [(.int (8 : Int32)), (.int p4), (.int (p2 + p3)), (.long ((q0 ^^^ (-1 : Int64)) + (if p4 = (7 : Int32) then q5 else (0 : Int64)))), (.int ((p2 ^^^ p3) + (if p4 = (6 : Int32) then (q5.toInt32) else (0 : Int32)))), (.int (p3 + (if p4 = (5 : Int32) then (q5.toInt32) else (0 : Int32)))), (.int (p2 + (if p4 = (4 : Int32) then (q5.toInt32) else (0 : Int32)))), (.long ((q0 - q1) + (if p4 = (3 : Int32) then q5 else (0 : Int64)))), (.long ((q0 + q1) + (if p4 = (2 : Int32) then q5 else (0 : Int64)))), (.long (q1 + (if p4 = (1 : Int32) then q5 else (0 : Int64)))), (.long (q0 + (if p4 = (0 : Int32) then q5 else (0 : Int64)))), (.ref b13), (.ref b13)])) (fun t k => ?_) ?_
  · refine XS.ladd X13.here hx rfl (hb hby own_d1_135) rfl ?_
    show Steps p.tables e below (T13.setTop (mkF m 136 #[.val (.long q0), .second, .val (.long q1), .second, .val (.int p2), .val (.int p3), .val (.int p4), .val (.long q5), .second, .val (.int (q5.toInt32))] [(.long ((q0 ^^^ (-1 : Int64)) + (if p4 = (7 : Int32) then q5 else (0 : Int64)))), (.int ((p2 ^^^ p3) + (if p4 = (6 : Int32) then (q5.toInt32) else (0 : Int32)))), (.int (p3 + (if p4 = (5 : Int32) then (q5.toInt32) else (0 : Int32)))), (.int (p2 + (if p4 = (4 : Int32) then (q5.toInt32) else (0 : Int32)))), (.long ((q0 - q1) + (if p4 = (3 : Int32) then q5 else (0 : Int64)))), (.long ((q0 + q1) + (if p4 = (2 : Int32) then q5 else (0 : Int64)))), (.long (q1 + (if p4 = (1 : Int32) then q5 else (0 : Int64)))), (.long (q0 + (if p4 = (0 : Int32) then q5 else (0 : Int64)))), (.ref b13), (.ref b13)])) _
    refine XS.iload X13.here hx rfl (hb hby own_d1_136) rfl  ?_
    show Steps p.tables e below (T13.setTop (mkF m 138 #[.val (.long q0), .second, .val (.long q1), .second, .val (.int p2), .val (.int p3), .val (.int p4), .val (.long q5), .second, .val (.int (q5.toInt32))] [(.int p2), (.long ((q0 ^^^ (-1 : Int64)) + (if p4 = (7 : Int32) then q5 else (0 : Int64)))), (.int ((p2 ^^^ p3) + (if p4 = (6 : Int32) then (q5.toInt32) else (0 : Int32)))), (.int (p3 + (if p4 = (5 : Int32) then (q5.toInt32) else (0 : Int32)))), (.int (p2 + (if p4 = (4 : Int32) then (q5.toInt32) else (0 : Int32)))), (.long ((q0 - q1) + (if p4 = (3 : Int32) then q5 else (0 : Int64)))), (.long ((q0 + q1) + (if p4 = (2 : Int32) then q5 else (0 : Int64)))), (.long (q1 + (if p4 = (1 : Int32) then q5 else (0 : Int64)))), (.long (q0 + (if p4 = (0 : Int32) then q5 else (0 : Int64)))), (.ref b13), (.ref b13)])) _
    refine XS.iload X13.here hx rfl (hb hby own_d1_138) rfl  ?_
    show Steps p.tables e below (T13.setTop (mkF m 140 #[.val (.long q0), .second, .val (.long q1), .second, .val (.int p2), .val (.int p3), .val (.int p4), .val (.long q5), .second, .val (.int (q5.toInt32))] [(.int p3), (.int p2), (.long ((q0 ^^^ (-1 : Int64)) + (if p4 = (7 : Int32) then q5 else (0 : Int64)))), (.int ((p2 ^^^ p3) + (if p4 = (6 : Int32) then (q5.toInt32) else (0 : Int32)))), (.int (p3 + (if p4 = (5 : Int32) then (q5.toInt32) else (0 : Int32)))), (.int (p2 + (if p4 = (4 : Int32) then (q5.toInt32) else (0 : Int32)))), (.long ((q0 - q1) + (if p4 = (3 : Int32) then q5 else (0 : Int64)))), (.long ((q0 + q1) + (if p4 = (2 : Int32) then q5 else (0 : Int64)))), (.long (q1 + (if p4 = (1 : Int32) then q5 else (0 : Int64)))), (.long (q0 + (if p4 = (0 : Int32) then q5 else (0 : Int64)))), (.ref b13), (.ref b13)])) _
    refine XS.iadd X13.here hx rfl (hb hby own_d1_140) rfl ?_
    show Steps p.tables e below (T13.setTop (mkF m 141 #[.val (.long q0), .second, .val (.long q1), .second, .val (.int p2), .val (.int p3), .val (.int p4), .val (.long q5), .second, .val (.int (q5.toInt32))] [(.int (p2 + p3)), (.long ((q0 ^^^ (-1 : Int64)) + (if p4 = (7 : Int32) then q5 else (0 : Int64)))), (.int ((p2 ^^^ p3) + (if p4 = (6 : Int32) then (q5.toInt32) else (0 : Int32)))), (.int (p3 + (if p4 = (5 : Int32) then (q5.toInt32) else (0 : Int32)))), (.int (p2 + (if p4 = (4 : Int32) then (q5.toInt32) else (0 : Int32)))), (.long ((q0 - q1) + (if p4 = (3 : Int32) then q5 else (0 : Int64)))), (.long ((q0 + q1) + (if p4 = (2 : Int32) then q5 else (0 : Int64)))), (.long (q1 + (if p4 = (1 : Int32) then q5 else (0 : Int64)))), (.long (q0 + (if p4 = (0 : Int32) then q5 else (0 : Int64)))), (.ref b13), (.ref b13)])) _
    refine XS.iload X13.here hx rfl (hb hby own_d1_141) rfl  ?_
    show Steps p.tables e below (T13.setTop (mkF m 143 #[.val (.long q0), .second, .val (.long q1), .second, .val (.int p2), .val (.int p3), .val (.int p4), .val (.long q5), .second, .val (.int (q5.toInt32))] [(.int p4), (.int (p2 + p3)), (.long ((q0 ^^^ (-1 : Int64)) + (if p4 = (7 : Int32) then q5 else (0 : Int64)))), (.int ((p2 ^^^ p3) + (if p4 = (6 : Int32) then (q5.toInt32) else (0 : Int32)))), (.int (p3 + (if p4 = (5 : Int32) then (q5.toInt32) else (0 : Int32)))), (.int (p2 + (if p4 = (4 : Int32) then (q5.toInt32) else (0 : Int32)))), (.long ((q0 - q1) + (if p4 = (3 : Int32) then q5 else (0 : Int64)))), (.long ((q0 + q1) + (if p4 = (2 : Int32) then q5 else (0 : Int64)))), (.long (q1 + (if p4 = (1 : Int32) then q5 else (0 : Int64)))), (.long (q0 + (if p4 = (0 : Int32) then q5 else (0 : Int64)))), (.ref b13), (.ref b13)])) _
    refine XS.bipush X13.here hx rfl (hb hby own_d1_143) ?_
    show Steps p.tables e below (T13.setTop (mkF m 145 #[.val (.long q0), .second, .val (.long q1), .second, .val (.int p2), .val (.int p3), .val (.int p4), .val (.long q5), .second, .val (.int (q5.toInt32))] [(.int (8 : Int32)), (.int p4), (.int (p2 + p3)), (.long ((q0 ^^^ (-1 : Int64)) + (if p4 = (7 : Int32) then q5 else (0 : Int64)))), (.int ((p2 ^^^ p3) + (if p4 = (6 : Int32) then (q5.toInt32) else (0 : Int32)))), (.int (p3 + (if p4 = (5 : Int32) then (q5.toInt32) else (0 : Int32)))), (.int (p2 + (if p4 = (4 : Int32) then (q5.toInt32) else (0 : Int32)))), (.long ((q0 - q1) + (if p4 = (3 : Int32) then q5 else (0 : Int64)))), (.long ((q0 + q1) + (if p4 = (2 : Int32) then q5 else (0 : Int64)))), (.long (q1 + (if p4 = (1 : Int32) then q5 else (0 : Int64)))), (.long (q0 + (if p4 = (0 : Int32) then q5 else (0 : Int64)))), (.ref b13), (.ref b13)])) _
    exact k
  refine Go.dia (c := p4 = (8 : Int32)) (VJ := T13.setTop (mkF m 154 #[.val (.long q0), .second, .val (.long q1), .second, .val (.int p2), .val (.int p3), .val (.int p4), .val (.long q5), .second, .val (.int (q5.toInt32))] [(.int (if p4 = (8 : Int32) then (q5.toInt32) else (0 : Int32))), (.int (p2 + p3)), (.long ((q0 ^^^ (-1 : Int64)) + (if p4 = (7 : Int32) then q5 else (0 : Int64)))), (.int ((p2 ^^^ p3) + (if p4 = (6 : Int32) then (q5.toInt32) else (0 : Int32)))), (.int (p3 + (if p4 = (5 : Int32) then (q5.toInt32) else (0 : Int32)))), (.int (p2 + (if p4 = (4 : Int32) then (q5.toInt32) else (0 : Int32)))), (.long ((q0 - q1) + (if p4 = (3 : Int32) then q5 else (0 : Int64)))), (.long ((q0 + q1) + (if p4 = (2 : Int32) then q5 else (0 : Int64)))), (.long (q1 + (if p4 = (1 : Int32) then q5 else (0 : Int64)))), (.long (q0 + (if p4 = (0 : Int32) then q5 else (0 : Int64)))), (.ref b13), (.ref b13)])) (fun hd22 t k => ?_) (fun hd22 t k => ?_) ?_
  · rw [if_pos hd22] at k
    refine XS.icmpNo X13.here hx rfl (hb hby own_d1_145) rfl (teq hd22).2 ?_
    show Steps p.tables e below (T13.setTop (mkF m 148 #[.val (.long q0), .second, .val (.long q1), .second, .val (.int p2), .val (.int p3), .val (.int p4), .val (.long q5), .second, .val (.int (q5.toInt32))] [(.int (p2 + p3)), (.long ((q0 ^^^ (-1 : Int64)) + (if p4 = (7 : Int32) then q5 else (0 : Int64)))), (.int ((p2 ^^^ p3) + (if p4 = (6 : Int32) then (q5.toInt32) else (0 : Int32)))), (.int (p3 + (if p4 = (5 : Int32) then (q5.toInt32) else (0 : Int32)))), (.int (p2 + (if p4 = (4 : Int32) then (q5.toInt32) else (0 : Int32)))), (.long ((q0 - q1) + (if p4 = (3 : Int32) then q5 else (0 : Int64)))), (.long ((q0 + q1) + (if p4 = (2 : Int32) then q5 else (0 : Int64)))), (.long (q1 + (if p4 = (1 : Int32) then q5 else (0 : Int64)))), (.long (q0 + (if p4 = (0 : Int32) then q5 else (0 : Int64)))), (.ref b13), (.ref b13)])) _
    refine XS.iload X13.here hx rfl (hb hby own_d1_148) rfl  ?_
    show Steps p.tables e below (T13.setTop (mkF m 150 #[.val (.long q0), .second, .val (.long q1), .second, .val (.int p2), .val (.int p3), .val (.int p4), .val (.long q5), .second, .val (.int (q5.toInt32))] [(.int (q5.toInt32)), (.int (p2 + p3)), (.long ((q0 ^^^ (-1 : Int64)) + (if p4 = (7 : Int32) then q5 else (0 : Int64)))), (.int ((p2 ^^^ p3) + (if p4 = (6 : Int32) then (q5.toInt32) else (0 : Int32)))), (.int (p3 + (if p4 = (5 : Int32) then (q5.toInt32) else (0 : Int32)))), (.int (p2 + (if p4 = (4 : Int32) then (q5.toInt32) else (0 : Int32)))), (.long ((q0 - q1) + (if p4 = (3 : Int32) then q5 else (0 : Int64)))), (.long ((q0 + q1) + (if p4 = (2 : Int32) then q5 else (0 : Int64)))), (.long (q1 + (if p4 = (1 : Int32) then q5 else (0 : Int64)))), (.long (q0 + (if p4 = (0 : Int32) then q5 else (0 : Int64)))), (.ref b13), (.ref b13)])) _
    refine XS.goto X13.here hx rfl (pc0 := 150) (pc' := 154) rfl (hb hby own_d1_150) (by decide) (by decide) ?_
    show Steps p.tables e below (T13.setTop (mkF m 154 #[.val (.long q0), .second, .val (.long q1), .second, .val (.int p2), .val (.int p3), .val (.int p4), .val (.long q5), .second, .val (.int (q5.toInt32))] [(.int (q5.toInt32)), (.int (p2 + p3)), (.long ((q0 ^^^ (-1 : Int64)) + (if p4 = (7 : Int32) then q5 else (0 : Int64)))), (.int ((p2 ^^^ p3) + (if p4 = (6 : Int32) then (q5.toInt32) else (0 : Int32)))), (.int (p3 + (if p4 = (5 : Int32) then (q5.toInt32) else (0 : Int32)))), (.int (p2 + (if p4 = (4 : Int32) then (q5.toInt32) else (0 : Int32)))), (.long ((q0 - q1) + (if p4 = (3 : Int32) then q5 else (0 : Int64)))), (.long ((q0 + q1) + (if p4 = (2 : Int32) then q5 else (0 : Int64)))), (.long (q1 + (if p4 = (1 : Int32) then q5 else (0 : Int64)))), (.long (q0 + (if p4 = (0 : Int32) then q5 else (0 : Int64)))), (.ref b13), (.ref b13)])) _
    exact k
  · rw [if_neg hd22] at k
    refine XS.icmpYes X13.here hx rfl (pc0 := 145) (pc' := 153) rfl (hb hby own_d1_145) rfl (feq hd22).2 (by decide) (by decide) ?_
    show Steps p.tables e below (T13.setTop (mkF m 153 #[.val (.long q0), .second, .val (.long q1), .second, .val (.int p2), .val (.int p3), .val (.int p4), .val (.long q5), .second, .val (.int (q5.toInt32))] [(.int (p2 + p3)), (.long ((q0 ^^^ (-1 : Int64)) + (if p4 = (7 : Int32) then q5 else (0 : Int64)))), (.int ((p2 ^^^ p3) + (if p4 = (6 : Int32) then (q5.toInt32) else (0 : Int32)))), (.int (p3 + (if p4 = (5 : Int32) then (q5.toInt32) else (0 : Int32)))), (.int (p2 + (if p4 = (4 : Int32) then (q5.toInt32) else (0 : Int32)))), (.long ((q0 - q1) + (if p4 = (3 : Int32) then q5 else (0 : Int64)))), (.long ((q0 + q1) + (if p4 = (2 : Int32) then q5 else (0 : Int64)))), (.long (q1 + (if p4 = (1 : Int32) then q5 else (0 : Int64)))), (.long (q0 + (if p4 = (0 : Int32) then q5 else (0 : Int64)))), (.ref b13), (.ref b13)])) _
    refine XS.iconst X13.here hx rfl (hb hby own_d1_153) ?_
    show Steps p.tables e below (T13.setTop (mkF m 154 #[.val (.long q0), .second, .val (.long q1), .second, .val (.int p2), .val (.int p3), .val (.int p4), .val (.long q5), .second, .val (.int (q5.toInt32))] [(.int (0 : Int32)), (.int (p2 + p3)), (.long ((q0 ^^^ (-1 : Int64)) + (if p4 = (7 : Int32) then q5 else (0 : Int64)))), (.int ((p2 ^^^ p3) + (if p4 = (6 : Int32) then (q5.toInt32) else (0 : Int32)))), (.int (p3 + (if p4 = (5 : Int32) then (q5.toInt32) else (0 : Int32)))), (.int (p2 + (if p4 = (4 : Int32) then (q5.toInt32) else (0 : Int32)))), (.long ((q0 - q1) + (if p4 = (3 : Int32) then q5 else (0 : Int64)))), (.long ((q0 + q1) + (if p4 = (2 : Int32) then q5 else (0 : Int64)))), (.long (q1 + (if p4 = (1 : Int32) then q5 else (0 : Int64)))), (.long (q0 + (if p4 = (0 : Int32) then q5 else (0 : Int64)))), (.ref b13), (.ref b13)])) _
    exact k
  refine Go.st (V' := T13.setTop (mkF m 164 #[.val (.long q0), .second, .val (.long q1), .second, .val (.int p2), .val (.int p3), .val (.int p4), .val (.long q5), .second, .val (.int (q5.toInt32))] [(.int (9 : Int32)), (.int p4), (.int (p2 - p3)), (.int ((p2 + p3) + (if p4 = (8 : Int32) then (q5.toInt32) else (0 : Int32)))), (.long ((q0 ^^^ (-1 : Int64)) + (if p4 = (7 : Int32) then q5 else (0 : Int64)))), (.int ((p2 ^^^ p3) + (if p4 = (6 : Int32) then (q5.toInt32) else (0 : Int32)))), (.int (p3 + (if p4 = (5 : Int32) then (q5.toInt32) else (0 : Int32)))), (.int (p2 + (if p4 = (4 : Int32) then (q5.toInt32) else (0 : Int32)))), (.long ((q0 - q1) + (if p4 = (3 : Int32) then q5 else (0 : Int64)))), (.long ((q0 + q1) + (if p4 = (2 : Int32) then q5 else (0 : Int64)))), (.long (q1 + (if p4 = (1 : Int32) then q5 else (0 : Int64)))), (.long (q0 + (if p4 = (0 : Int32) then q5 else (0 : Int64)))), (.ref b13), (.ref b13)])) (fun t k => ?_) ?_
  · refine XS.iadd X13.here hx rfl (hb hby own_d1_154) rfl ?_
    show Steps p.tables e below (T13.setTop (mkF m 155 #[.val (.long q0), .second, .val (.long q1), .second, .val (.int p2), .val (.int p3), .val (.int p4), .val (.long q5), .second, .val (.int (q5.toInt32))] [(.int ((p2 + p3) + (if p4 = (8 : Int32) then (q5.toInt32) else (0 : Int32)))), (.long ((q0 ^^^ (-1 : Int64)) + (if p4 = (7 : Int32) then q5 else (0 : Int64)))), (.int ((p2 ^^^ p3) + (if p4 = (6 : Int32) then (q5.toInt32) else (0 : Int32)))), (.int (p3 + (if p4 = (5 : Int32) then (q5.toInt32) else (0 : Int32)))), (.int (p2 + (if p4 = (4 : Int32) then (q5.toInt32) else (0 : Int32)))), (.long ((q0 - q1) + (if p4 = (3 : Int32) then q5 else (0 : Int64)))), (.long ((q0 + q1) + (if p4 = (2 : Int32) then q5 else (0 : Int64)))), (.long (q1 + (if p4 = (1 : Int32) then q5 else (0 : Int64)))), (.long (q0 + (if p4 = (0 : Int32) then q5 else (0 : Int64)))), (.ref b13), (.ref b13)])) _
    refine XS.iload X13.here hx rfl (hb hby own_d1_155) rfl  ?_
    show Steps p.tables e below (T13.setTop (mkF m 157 #[.val (.long q0), .second, .val (.long q1), .second, .val (.int p2), .val (.int p3), .val (.int p4), .val (.long q5), .second, .val (.int (q5.toInt32))] [(.int p2), (.int ((p2 + p3) + (if p4 = (8 : Int32) then (q5.toInt32) else (0 : Int32)))), (.long ((q0 ^^^ (-1 : Int64)) + (if p4 = (7 : Int32) then q5 else (0 : Int64)))), (.int ((p2 ^^^ p3) + (if p4 = (6 : Int32) then (q5.toInt32) else (0 : Int32)))), (.int (p3 + (if p4 = (5 : Int32) then (q5.toInt32) else (0 : Int32)))), (.int (p2 + (if p4 = (4 : Int32) then (q5.toInt32) else (0 : Int32)))), (.long ((q0 - q1) + (if p4 = (3 : Int32) then q5 else (0 : Int64)))), (.long ((q0 + q1) + (if p4 = (2 : Int32) then q5 else (0 : Int64)))), (.long (q1 + (if p4 = (1 : Int32) then q5 else (0 : Int64)))), (.long (q0 + (if p4 = (0 : Int32) then q5 else (0 : Int64)))), (.ref b13), (.ref b13)])) _
    refine XS.iload X13.here hx rfl (hb hby own_d1_157) rfl  ?_
    show Steps p.tables e below (T13.setTop (mkF m 159 #[.val (.long q0), .second, .val (.long q1), .second, .val (.int p2), .val (.int p3), .val (.int p4), .val (.long q5), .second, .val (.int (q5.toInt32))] [(.int p3), (.int p2), (.int ((p2 + p3) + (if p4 = (8 : Int32) then (q5.toInt32) else (0 : Int32)))), (.long ((q0 ^^^ (-1 : Int64)) + (if p4 = (7 : Int32) then q5 else (0 : Int64)))), (.int ((p2 ^^^ p3) + (if p4 = (6 : Int32) then (q5.toInt32) else (0 : Int32)))), (.int (p3 + (if p4 = (5 : Int32) then (q5.toInt32) else (0 : Int32)))), (.int (p2 + (if p4 = (4 : Int32) then (q5.toInt32) else (0 : Int32)))), (.long ((q0 - q1) + (if p4 = (3 : Int32) then q5 else (0 : Int64)))), (.long ((q0 + q1) + (if p4 = (2 : Int32) then q5 else (0 : Int64)))), (.long (q1 + (if p4 = (1 : Int32) then q5 else (0 : Int64)))), (.long (q0 + (if p4 = (0 : Int32) then q5 else (0 : Int64)))), (.ref b13), (.ref b13)])) _
    refine XS.isub X13.here hx rfl (hb hby own_d1_159) rfl ?_
    show Steps p.tables e below (T13.setTop (mkF m 160 #[.val (.long q0), .second, .val (.long q1), .second, .val (.int p2), .val (.int p3), .val (.int p4), .val (.long q5), .second, .val (.int (q5.toInt32))] [(.int (p2 - p3)), (.int ((p2 + p3) + (if p4 = (8 : Int32) then (q5.toInt32) else (0 : Int32)))), (.long ((q0 ^^^ (-1 : Int64)) + (if p4 = (7 : Int32) then q5 else (0 : Int64)))), (.int ((p2 ^^^ p3) + (if p4 = (6 : Int32) then (q5.toInt32) else (0 : Int32)))), (.int (p3 + (if p4 = (5 : Int32) then (q5.toInt32) else (0 : Int32)))), (.int (p2 + (if p4 = (4 : Int32) then (q5.toInt32) else (0 : Int32)))), (.long ((q0 - q1) + (if p4 = (3 : Int32) then q5 else (0 : Int64)))), (.long ((q0 + q1) + (if p4 = (2 : Int32) then q5 else (0 : Int64)))), (.long (q1 + (if p4 = (1 : Int32) then q5 else (0 : Int64)))), (.long (q0 + (if p4 = (0 : Int32) then q5 else (0 : Int64)))), (.ref b13), (.ref b13)])) _
    refine XS.iload X13.here hx rfl (hb hby own_d1_160) rfl  ?_
    show Steps p.tables e below (T13.setTop (mkF m 162 #[.val (.long q0), .second, .val (.long q1), .second, .val (.int p2), .val (.int p3), .val (.int p4), .val (.long q5), .second, .val (.int (q5.toInt32))] [(.int p4), (.int (p2 - p3)), (.int ((p2 + p3) + (if p4 = (8 : Int32) then (q5.toInt32) else (0 : Int32)))), (.long ((q0 ^^^ (-1 : Int64)) + (if p4 = (7 : Int32) then q5 else (0 : Int64)))), (.int ((p2 ^^^ p3) + (if p4 = (6 : Int32) then (q5.toInt32) else (0 : Int32)))), (.int (p3 + (if p4 = (5 : Int32) then (q5.toInt32) else (0 : Int32)))), (.int (p2 + (if p4 = (4 : Int32) then (q5.toInt32) else (0 : Int32)))), (.long ((q0 - q1) + (if p4 = (3 : Int32) then q5 else (0 : Int64)))), (.long ((q0 + q1) + (if p4 = (2 : Int32) then q5 else (0 : Int64)))), (.long (q1 + (if p4 = (1 : Int32) then q5 else (0 : Int64)))), (.long (q0 + (if p4 = (0 : Int32) then q5 else (0 : Int64)))), (.ref b13), (.ref b13)])) _
    refine XS.bipush X13.here hx rfl (hb hby own_d1_162) ?_
    show Steps p.tables e below (T13.setTop (mkF m 164 #[.val (.long q0), .second, .val (.long q1), .second, .val (.int p2), .val (.int p3), .val (.int p4), .val (.long q5), .second, .val (.int (q5.toInt32))] [(.int (9 : Int32)), (.int p4), (.int (p2 - p3)), (.int ((p2 + p3) + (if p4 = (8 : Int32) then (q5.toInt32) else (0 : Int32)))), (.long ((q0 ^^^ (-1 : Int64)) + (if p4 = (7 : Int32) then q5 else (0 : Int64)))), (.int ((p2 ^^^ p3) + (if p4 = (6 : Int32) then (q5.toInt32) else (0 : Int32)))), (.int (p3 + (if p4 = (5 : Int32) then (q5.toInt32) else (0 : Int32)))), (.int (p2 + (if p4 = (4 : Int32) then (q5.toInt32) else (0 : Int32)))), (.long ((q0 - q1) + (if p4 = (3 : Int32) then q5 else (0 : Int64)))), (.long ((q0 + q1) + (if p4 = (2 : Int32) then q5 else (0 : Int64)))), (.long (q1 + (if p4 = (1 : Int32) then q5 else (0 : Int64)))), (.long (q0 + (if p4 = (0 : Int32) then q5 else (0 : Int64)))), (.ref b13), (.ref b13)])) _
    exact k
  refine Go.dia (c := p4 = (9 : Int32)) (VJ := T13.setTop (mkF m 173 #[.val (.long q0), .second, .val (.long q1), .second, .val (.int p2), .val (.int p3), .val (.int p4), .val (.long q5), .second, .val (.int (q5.toInt32))] [(.int (if p4 = (9 : Int32) then (q5.toInt32) else (0 : Int32))), (.int (p2 - p3)), (.int ((p2 + p3) + (if p4 = (8 : Int32) then (q5.toInt32) else (0 : Int32)))), (.long ((q0 ^^^ (-1 : Int64)) + (if p4 = (7 : Int32) then q5 else (0 : Int64)))), (.int ((p2 ^^^ p3) + (if p4 = (6 : Int32) then (q5.toInt32) else (0 : Int32)))), (.int (p3 + (if p4 = (5 : Int32) then (q5.toInt32) else (0 : Int32)))), (.int (p2 + (if p4 = (4 : Int32) then (q5.toInt32) else (0 : Int32)))), (.long ((q0 - q1) + (if p4 = (3 : Int32) then q5 else (0 : Int64)))), (.long ((q0 + q1) + (if p4 = (2 : Int32) then q5 else (0 : Int64)))), (.long (q1 + (if p4 = (1 : Int32) then q5 else (0 : Int64)))), (.long (q0 + (if p4 = (0 : Int32) then q5 else (0 : Int64)))), (.ref b13), (.ref b13)])) (fun hd23 t k => ?_) (fun hd23 t k => ?_) ?_
  · rw [if_pos hd23] at k
    refine XS.icmpNo X13.here hx rfl (hb hby own_d1_164) rfl (teq hd23).2 ?_
    show Steps p.tables e below (T13.setTop (mkF m 167 #[.val (.long q0), .second, .val (.long q1), .second, .val (.int p2), .val (.int p3), .val (.int p4), .val (.long q5), .second, .val (.int (q5.toInt32))] [(.int (p2 - p3)), (.int ((p2 + p3) + (if p4 = (8 : Int32) then (q5.toInt32) else (0 : Int32)))), (.long ((q0 ^^^ (-1 : Int64)) + (if p4 = (7 : Int32) then q5 else (0 : Int64)))), (.int ((p2 ^^^ p3) + (if p4 = (6 : Int32) then (q5.toInt32) else (0 : Int32)))), (.int (p3 + (if p4 = (5 : Int32) then (q5.toInt32) else (0 : Int32)))), (.int (p2 + (if p4 = (4 : Int32) then (q5.toInt32) else (0 : Int32)))), (.long ((q0 - q1) + (if p4 = (3 : Int32) then q5 else (0 : Int64)))), (.long ((q0 + q1) + (if p4 = (2 : Int32) then q5 else (0 : Int64)))), (.long (q1 + (if p4 = (1 : Int32) then q5 else (0 : Int64)))), (.long (q0 + (if p4 = (0 : Int32) then q5 else (0 : Int64)))), (.ref b13), (.ref b13)])) _
    refine XS.iload X13.here hx rfl (hb hby own_d1_167) rfl  ?_
    show Steps p.tables e below (T13.setTop (mkF m 169 #[.val (.long q0), .second, .val (.long q1), .second, .val (.int p2), .val (.int p3), .val (.int p4), .val (.long q5), .second, .val (.int (q5.toInt32))] [(.int (q5.toInt32)), (.int (p2 - p3)), (.int ((p2 + p3) + (if p4 = (8 : Int32) then (q5.toInt32) else (0 : Int32)))), (.long ((q0 ^^^ (-1 : Int64)) + (if p4 = (7 : Int32) then q5 else (0 : Int64)))), (.int ((p2 ^^^ p3) + (if p4 = (6 : Int32) then (q5.toInt32) else (0 : Int32)))), (.int (p3 + (if p4 = (5 : Int32) then (q5.toInt32) else (0 : Int32)))), (.int (p2 + (if p4 = (4 : Int32) then (q5.toInt32) else (0 : Int32)))), (.long ((q0 - q1) + (if p4 = (3 : Int32) then q5 else (0 : Int64)))), (.long ((q0 + q1) + (if p4 = (2 : Int32) then q5 else (0 : Int64)))), (.long (q1 + (if p4 = (1 : Int32) then q5 else (0 : Int64)))), (.long (q0 + (if p4 = (0 : Int32) then q5 else (0 : Int64)))), (.ref b13), (.ref b13)])) _
    refine XS.goto X13.here hx rfl (pc0 := 169) (pc' := 173) rfl (hb hby own_d1_169) (by decide) (by decide) ?_
    show Steps p.tables e below (T13.setTop (mkF m 173 #[.val (.long q0), .second, .val (.long q1), .second, .val (.int p2), .val (.int p3), .val (.int p4), .val (.long q5), .second, .val (.int (q5.toInt32))] [(.int (q5.toInt32)), (.int (p2 - p3)), (.int ((p2 + p3) + (if p4 = (8 : Int32) then (q5.toInt32) else (0 : Int32)))), (.long ((q0 ^^^ (-1 : Int64)) + (if p4 = (7 : Int32) then q5 else (0 : Int64)))), (.int ((p2 ^^^ p3) + (if p4 = (6 : Int32) then (q5.toInt32) else (0 : Int32)))), (.int (p3 + (if p4 = (5 : Int32) then (q5.toInt32) else (0 : Int32)))), (.int (p2 + (if p4 = (4 : Int32) then (q5.toInt32) else (0 : Int32)))), (.long ((q0 - q1) + (if p4 = (3 : Int32) then q5 else (0 : Int64)))), (.long ((q0 + q1) + (if p4 = (2 : Int32) then q5 else (0 : Int64)))), (.long (q1 + (if p4 = (1 : Int32) then q5 else (0 : Int64)))), (.long (q0 + (if p4 = (0 : Int32) then q5 else (0 : Int64)))), (.ref b13), (.ref b13)])) _
    exact k
  · rw [if_neg hd23] at k
    refine XS.icmpYes X13.here hx rfl (pc0 := 164) (pc' := 172) rfl (hb hby own_d1_164) rfl (feq hd23).2 (by decide) (by decide) ?_
    show Steps p.tables e below (T13.setTop (mkF m 172 #[.val (.long q0), .second, .val (.long q1), .second, .val (.int p2), .val (.int p3), .val (.int p4), .val (.long q5), .second, .val (.int (q5.toInt32))] [(.int (p2 - p3)), (.int ((p2 + p3) + (if p4 = (8 : Int32) then (q5.toInt32) else (0 : Int32)))), (.long ((q0 ^^^ (-1 : Int64)) + (if p4 = (7 : Int32) then q5 else (0 : Int64)))), (.int ((p2 ^^^ p3) + (if p4 = (6 : Int32) then (q5.toInt32) else (0 : Int32)))), (.int (p3 + (if p4 = (5 : Int32) then (q5.toInt32) else (0 : Int32)))), (.int (p2 + (if p4 = (4 : Int32) then (q5.toInt32) else (0 : Int32)))), (.long ((q0 - q1) + (if p4 = (3 : Int32) then q5 else (0 : Int64)))), (.long ((q0 + q1) + (if p4 = (2 : Int32) then q5 else (0 : Int64)))), (.long (q1 + (if p4 = (1 : Int32) then q5 else (0 : Int64)))), (.long (q0 + (if p4 = (0 : Int32) then q5 else (0 : Int64)))), (.ref b13), (.ref b13)])) _
    refine XS.iconst X13.here hx rfl (hb hby own_d1_172) ?_
    show Steps p.tables e below (T13.setTop (mkF m 173 #[.val (.long q0), .second, .val (.long q1), .second, .val (.int p2), .val (.int p3), .val (.int p4), .val (.long q5), .second, .val (.int (q5.toInt32))] [(.int (0 : Int32)), (.int (p2 - p3)), (.int ((p2 + p3) + (if p4 = (8 : Int32) then (q5.toInt32) else (0 : Int32)))), (.long ((q0 ^^^ (-1 : Int64)) + (if p4 = (7 : Int32) then q5 else (0 : Int64)))), (.int ((p2 ^^^ p3) + (if p4 = (6 : Int32) then (q5.toInt32) else (0 : Int32)))), (.int (p3 + (if p4 = (5 : Int32) then (q5.toInt32) else (0 : Int32)))), (.int (p2 + (if p4 = (4 : Int32) then (q5.toInt32) else (0 : Int32)))), (.long ((q0 - q1) + (if p4 = (3 : Int32) then q5 else (0 : Int64)))), (.long ((q0 + q1) + (if p4 = (2 : Int32) then q5 else (0 : Int64)))), (.long (q1 + (if p4 = (1 : Int32) then q5 else (0 : Int64)))), (.long (q0 + (if p4 = (0 : Int32) then q5 else (0 : Int64)))), (.ref b13), (.ref b13)])) _
    exact k
  refine Go.st (V' := T13.setTop (mkF m 181 #[.val (.long q0), .second, .val (.long q1), .second, .val (.int p2), .val (.int p3), .val (.int p4), .val (.long q5), .second, .val (.int (q5.toInt32))] [(.int (10 : Int32)), (.int p4), (.long (q0 ^^^ q1)), (.int ((p2 - p3) + (if p4 = (9 : Int32) then (q5.toInt32) else (0 : Int32)))), (.int ((p2 + p3) + (if p4 = (8 : Int32) then (q5.toInt32) else (0 : Int32)))), (.long ((q0 ^^^ (-1 : Int64)) + (if p4 = (7 : Int32) then q5 else (0 : Int64)))), (.int ((p2 ^^^ p3) + (if p4 = (6 : Int32) then (q5.toInt32) else (0 : Int32)))), (.int (p3 + (if p4 = (5 : Int32) then (q5.toInt32) else (0 : Int32)))), (.int (p2 + (if p4 = (4 : Int32) then (q5.toInt32) else (0 : Int32)))), (.long ((q0 - q1) + (if p4 = (3 : Int32) then q5 else (0 : Int64)))), (.long ((q0 + q1) + (if p4 = (2 : Int32) then q5 else (0 : Int64)))), (.long (q1 + (if p4 = (1 : Int32) then q5 else (0 : Int64)))), (.long (q0 + (if p4 = (0 : Int32) then q5 else (0 : Int64)))), (.ref b13), (.ref b13)])) (fun t k => ?_) ?_
  · refine XS.iadd X13.here hx rfl (hb hby own_d1_173) rfl ?_
    show Steps p.tables e below (T13.setTop (mkF m 174 #[.val (.long q0), .second, .val (.long q1), .second, .val (.int p2), .val (.int p3), .val (.int p4), .val (.long q5), .second, .val (.int (q5.toInt32))] [(.int ((p2 - p3) + (if p4 = (9 : Int32) then (q5.toInt32) else (0 : Int32)))), (.int ((p2 + p3) + (if p4 = (8 : Int32) then (q5.toInt32) else (0 : Int32)))), (.long ((q0 ^^^ (-1 : Int64)) + (if p4 = (7 : Int32) then q5 else (0 : Int64)))), (.int ((p2 ^^^ p3) + (if p4 = (6 : Int32) then (q5.toInt32) else (0 : Int32)))), (.int (p3 + (if p4 = (5 : Int32) then (q5.toInt32) else (0 : Int32)))), (.int (p2 + (if p4 = (4 : Int32) then (q5.toInt32) else (0 : Int32)))), (.long ((q0 - q1) + (if p4 = (3 : Int32) then q5 else (0 : Int64)))), (.long ((q0 + q1) + (if p4 = (2 : Int32) then q5 else (0 : Int64)))), (.long (q1 + (if p4 = (1 : Int32) then q5 else (0 : Int64)))), (.long (q0 + (if p4 = (0 : Int32) then q5 else (0 : Int64)))), (.ref b13), (.ref b13)])) _
    refine XS.lloadN X13.here hx rfl (hb hby own_d1_174) rfl  ?_
    show Steps p.tables e below (T13.setTop (mkF m 175 #[.val (.long q0), .second, .val (.long q1), .second, .val (.int p2), .val (.int p3), .val (.int p4), .val (.long q5), .second, .val (.int (q5.toInt32))] [(.long q0), (.int ((p2 - p3) + (if p4 = (9 : Int32) then (q5.toInt32) else (0 : Int32)))), (.int ((p2 + p3) + (if p4 = (8 : Int32) then (q5.toInt32) else (0 : Int32)))), (.long ((q0 ^^^ (-1 : Int64)) + (if p4 = (7 : Int32) then q5 else (0 : Int64)))), (.int ((p2 ^^^ p3) + (if p4 = (6 : Int32) then (q5.toInt32) else (0 : Int32)))), (.int (p3 + (if p4 = (5 : Int32) then (q5.toInt32) else (0 : Int32)))), (.int (p2 + (if p4 = (4 : Int32) then (q5.toInt32) else (0 : Int32)))), (.long ((q0 - q1) + (if p4 = (3 : Int32) then q5 else (0 : Int64)))), (.long ((q0 + q1) + (if p4 = (2 : Int32) then q5 else (0 : Int64)))), (.long (q1 + (if p4 = (1 : Int32) then q5 else (0 : Int64)))), (.long (q0 + (if p4 = (0 : Int32) then q5 else (0 : Int64)))), (.ref b13), (.ref b13)])) _
    refine XS.lloadN X13.here hx rfl (hb hby own_d1_175) rfl  ?_
    show Steps p.tables e below (T13.setTop (mkF m 176 #[.val (.long q0), .second, .val (.long q1), .second, .val (.int p2), .val (.int p3), .val (.int p4), .val (.long q5), .second, .val (.int (q5.toInt32))] [(.long q1), (.long q0), (.int ((p2 - p3) + (if p4 = (9 : Int32) then (q5.toInt32) else (0 : Int32)))), (.int ((p2 + p3) + (if p4 = (8 : Int32) then (q5.toInt32) else (0 : Int32)))), (.long ((q0 ^^^ (-1 : Int64)) + (if p4 = (7 : Int32) then q5 else (0 : Int64)))), (.int ((p2 ^^^ p3) + (if p4 = (6 : Int32) then (q5.toInt32) else (0 : Int32)))), (.int (p3 + (if p4 = (5 : Int32) then (q5.toInt32) else (0 : Int32)))), (.int (p2 + (if p4 = (4 : Int32) then (q5.toInt32) else (0 : Int32)))), (.long ((q0 - q1) + (if p4 = (3 : Int32) then q5 else (0 : Int64)))), (.long ((q0 + q1) + (if p4 = (2 : Int32) then q5 else (0 : Int64)))), (.long (q1 + (if p4 = (1 : Int32) then q5 else (0 : Int64)))), (.long (q0 + (if p4 = (0 : Int32) then q5 else (0 : Int64)))), (.ref b13), (.ref b13)])) _
    refine XS.lxor X13.here hx rfl (hb hby own_d1_176) rfl ?_
    show Steps p.tables e below (T13.setTop (mkF m 177 #[.val (.long q0), .second, .val (.long q1), .second, .val (.int p2), .val (.int p3), .val (.int p4), .val (.long q5), .second, .val (.int (q5.toInt32))] [(.long (q0 ^^^ q1)), (.int ((p2 - p3) + (if p4 = (9 : Int32) then (q5.toInt32) else (0 : Int32)))), (.int ((p2 + p3) + (if p4 = (8 : Int32) then (q5.toInt32) else (0 : Int32)))), (.long ((q0 ^^^ (-1 : Int64)) + (if p4 = (7 : Int32) then q5 else (0 : Int64)))), (.int ((p2 ^^^ p3) + (if p4 = (6 : Int32) then (q5.toInt32) else (0 : Int32)))), (.int (p3 + (if p4 = (5 : Int32) then (q5.toInt32) else (0 : Int32)))), (.int (p2 + (if p4 = (4 : Int32) then (q5.toInt32) else (0 : Int32)))), (.long ((q0 - q1) + (if p4 = (3 : Int32) then q5 else (0 : Int64)))), (.long ((q0 + q1) + (if p4 = (2 : Int32) then q5 else (0 : Int64)))), (.long (q1 + (if p4 = (1 : Int32) then q5 else (0 : Int64)))), (.long (q0 + (if p4 = (0 : Int32) then q5 else (0 : Int64)))), (.ref b13), (.ref b13)])) _
    refine XS.iload X13.here hx rfl (hb hby own_d1_177) rfl  ?_
    show Steps p.tables e below (T13.setTop (mkF m 179 #[.val (.long q0), .second, .val (.long q1), .second, .val (.int p2), .val (.int p3), .val (.int p4), .val (.long q5), .second, .val (.int (q5.toInt32))] [(.int p4), (.long (q0 ^^^ q1)), (.int ((p2 - p3) + (if p4 = (9 : Int32) then (q5.toInt32) else (0 : Int32)))), (.int ((p2 + p3) + (if p4 = (8 : Int32) then (q5.toInt32) else (0 : Int32)))), (.long ((q0 ^^^ (-1 : Int64)) + (if p4 = (7 : Int32) then q5 else (0 : Int64)))), (.int ((p2 ^^^ p3) + (if p4 = (6 : Int32) then (q5.toInt32) else (0 : Int32)))), (.int (p3 + (if p4 = (5 : Int32) then (q5.toInt32) else (0 : Int32)))), (.int (p2 + (if p4 = (4 : Int32) then (q5.toInt32) else (0 : Int32)))), (.long ((q0 - q1) + (if p4 = (3 : Int32) then q5 else (0 : Int64)))), (.long ((q0 + q1) + (if p4 = (2 : Int32) then q5 else (0 : Int64)))), (.long (q1 + (if p4 = (1 : Int32) then q5 else (0 : Int64)))), (.long (q0 + (if p4 = (0 : Int32) then q5 else (0 : Int64)))), (.ref b13), (.ref b13)])) _
    refine XS.bipush X13.here hx rfl (hb hby own_d1_179) ?_
    show Steps p.tables e below (T13.setTop (mkF m 181 #[.val (.long q0), .second, .val (.long q1), .second, .val (.int p2), .val (.int p3), .val (.int p4), .val (.long q5), .second, .val (.int (q5.toInt32))] [(.int (10 : Int32)), (.int p4), (.long (q0 ^^^ q1)), (.int ((p2 - p3) + (if p4 = (9 : Int32) then (q5.toInt32) else (0 : Int32)))), (.int ((p2 + p3) + (if p4 = (8 : Int32) then (q5.toInt32) else (0 : Int32)))), (.long ((q0 ^^^ (-1 : Int64)) + (if p4 = (7 : Int32) then q5 else (0 : Int64)))), (.int ((p2 ^^^ p3) + (if p4 = (6 : Int32) then (q5.toInt32) else (0 : Int32)))), (.int (p3 + (if p4 = (5 : Int32) then (q5.toInt32) else (0 : Int32)))), (.int (p2 + (if p4 = (4 : Int32) then (q5.toInt32) else (0 : Int32)))), (.long ((q0 - q1) + (if p4 = (3 : Int32) then q5 else (0 : Int64)))), (.long ((q0 + q1) + (if p4 = (2 : Int32) then q5 else (0 : Int64)))), (.long (q1 + (if p4 = (1 : Int32) then q5 else (0 : Int64)))), (.long (q0 + (if p4 = (0 : Int32) then q5 else (0 : Int64)))), (.ref b13), (.ref b13)])) _
    exact k
  refine Go.dia (c := p4 = (10 : Int32)) (VJ := T13.setTop (mkF m 190 #[.val (.long q0), .second, .val (.long q1), .second, .val (.int p2), .val (.int p3), .val (.int p4), .val (.long q5), .second, .val (.int (q5.toInt32))] [(.long (if p4 = (10 : Int32) then q5 else (0 : Int64))), (.long (q0 ^^^ q1)), (.int ((p2 - p3) + (if p4 = (9 : Int32) then (q5.toInt32) else (0 : Int32)))), (.int ((p2 + p3) + (if p4 = (8 : Int32) then (q5.toInt32) else (0 : Int32)))), (.long ((q0 ^^^ (-1 : Int64)) + (if p4 = (7 : Int32) then q5 else (0 : Int64)))), (.int ((p2 ^^^ p3) + (if p4 = (6 : Int32) then (q5.toInt32) else (0 : Int32)))), (.int (p3 + (if p4 = (5 : Int32) then (q5.toInt32) else (0 : Int32)))), (.int (p2 + (if p4 = (4 : Int32) then (q5.toInt32) else (0 : Int32)))), (.long ((q0 - q1) + (if p4 = (3 : Int32) then q5 else (0 : Int64)))), (.long ((q0 + q1) + (if p4 = (2 : Int32) then q5 else (0 : Int64)))), (.long (q1 + (if p4 = (1 : Int32) then q5 else (0 : Int64)))), (.long (q0 + (if p4 = (0 : Int32) then q5 else (0 : Int64)))), (.ref b13), (.ref b13)])) (fun hd24 t k => ?_) (fun hd24 t k => ?_) ?_
  · rw [if_pos hd24] at k
    refine XS.icmpNo X13.here hx rfl (hb hby own_d1_181) rfl (teq hd24).2 ?_
    show Steps p.tables e below (T13.setTop (mkF m 184 #[.val (.long q0), .second, .val (.long q1), .second, .val (.int p2), .val (.int p3), .val (.int p4), .val (.long q5), .second, .val (.int (q5.toInt32))] [(.long (q0 ^^^ q1)), (.int ((p2 - p3) + (if p4 = (9 : Int32) then (q5.toInt32) else (0 : Int32)))), (.int ((p2 + p3) + (if p4 = (8 : Int32) then (q5.toInt32) else (0 : Int32)))), (.long ((q0 ^^^ (-1 : Int64)) + (if p4 = (7 : Int32) then q5 else (0 : Int64)))), (.int ((p2 ^^^ p3) + (if p4 = (6 : Int32) then (q5.toInt32) else (0 : Int32)))), (.int (p3 + (if p4 = (5 : Int32) then (q5.toInt32) else (0 : Int32)))), (.int (p2 + (if p4 = (4 : Int32) then (q5.toInt32) else (0 : Int32)))), (.long ((q0 - q1) + (if p4 = (3 : Int32) then q5 else (0 : Int64)))), (.long ((q0 + q1) + (if p4 = (2 : Int32) then q5 else (0 : Int64)))), (.long (q1 + (if p4 = (1 : Int32) then q5 else (0 : Int64)))), (.long (q0 + (if p4 = (0 : Int32) then q5 else (0 : Int64)))), (.ref b13), (.ref b13)])) _
    refine XS.lload X13.here hx rfl (hb hby own_d1_184) rfl  ?_
    show Steps p.tables e below (T13.setTop (mkF m 186 #[.val (.long q0), .second, .val (.long q1), .second, .val (.int p2), .val (.int p3), .val (.int p4), .val (.long q5), .second, .val (.int (q5.toInt32))] [(.long q5), (.long (q0 ^^^ q1)), (.int ((p2 - p3) + (if p4 = (9 : Int32) then (q5.toInt32) else (0 : Int32)))), (.int ((p2 + p3) + (if p4 = (8 : Int32) then (q5.toInt32) else (0 : Int32)))), (.long ((q0 ^^^ (-1 : Int64)) + (if p4 = (7 : Int32) then q5 else (0 : Int64)))), (.int ((p2 ^^^ p3) + (if p4 = (6 : Int32) then (q5.toInt32) else (0 : Int32)))), (.int (p3 + (if p4 = (5 : Int32) then (q5.toInt32) else (0 : Int32)))), (.int (p2 + (if p4 = (4 : Int32) then (q5.toInt32) else (0 : Int32)))), (.long ((q0 - q1) + (if p4 = (3 : Int32) then q5 else (0 : Int64)))), (.long ((q0 + q1) + (if p4 = (2 : Int32) then q5 else (0 : Int64)))), (.long (q1 + (if p4 = (1 : Int32) then q5 else (0 : Int64)))), (.long (q0 + (if p4 = (0 : Int32) then q5 else (0 : Int64)))), (.ref b13), (.ref b13)])) _
    refine XS.goto X13.here hx rfl (pc0 := 186) (pc' := 190) rfl (hb hby own_d1_186) (by decide) (by decide) ?_
    show Steps p.tables e below (T13.setTop (mkF m 190 #[.val (.long q0), .second, .val (.long q1), .second, .val (.int p2), .val (.int p3), .val (.int p4), .val (.long q5), .second, .val (.int (q5.toInt32))] [(.long q5), (.long (q0 ^^^ q1)), (.int ((p2 - p3) + (if p4 = (9 : Int32) then (q5.toInt32) else (0 : Int32)))), (.int ((p2 + p3) + (if p4 = (8 : Int32) then (q5.toInt32) else (0 : Int32)))), (.long ((q0 ^^^ (-1 : Int64)) + (if p4 = (7 : Int32) then q5 else (0 : Int64)))), (.int ((p2 ^^^ p3) + (if p4 = (6 : Int32) then (q5.toInt32) else (0 : Int32)))), (.int (p3 + (if p4 = (5 : Int32) then (q5.toInt32) else (0 : Int32)))), (.int (p2 + (if p4 = (4 : Int32) then (q5.toInt32) else (0 : Int32)))), (.long ((q0 - q1) + (if p4 = (3 : Int32) then q5 else (0 : Int64)))), (.long ((q0 + q1) + (if p4 = (2 : Int32) then q5 else (0 : Int64)))), (.long (q1 + (if p4 = (1 : Int32) then q5 else (0 : Int64)))), (.long (q0 + (if p4 = (0 : Int32) then q5 else (0 : Int64)))), (.ref b13), (.ref b13)])) _
    exact k
  · rw [if_neg hd24] at k
    refine XS.icmpYes X13.here hx rfl (pc0 := 181) (pc' := 189) rfl (hb hby own_d1_181) rfl (feq hd24).2 (by decide) (by decide) ?_
    show Steps p.tables e below (T13.setTop (mkF m 189 #[.val (.long q0), .second, .val (.long q1), .second, .val (.int p2), .val (.int p3), .val (.int p4), .val (.long q5), .second, .val (.int (q5.toInt32))] [(.long (q0 ^^^ q1)), (.int ((p2 - p3) + (if p4 = (9 : Int32) then (q5.toInt32) else (0 : Int32)))), (.int ((p2 + p3) + (if p4 = (8 : Int32) then (q5.toInt32) else (0 : Int32)))), (.long ((q0 ^^^ (-1 : Int64)) + (if p4 = (7 : Int32) then q5 else (0 : Int64)))), (.int ((p2 ^^^ p3) + (if p4 = (6 : Int32) then (q5.toInt32) else (0 : Int32)))), (.int (p3 + (if p4 = (5 : Int32) then (q5.toInt32) else (0 : Int32)))), (.int (p2 + (if p4 = (4 : Int32) then (q5.toInt32) else (0 : Int32)))), (.long ((q0 - q1) + (if p4 = (3 : Int32) then q5 else (0 : Int64)))), (.long ((q0 + q1) + (if p4 = (2 : Int32) then q5 else (0 : Int64)))), (.long (q1 + (if p4 = (1 : Int32) then q5 else (0 : Int64)))), (.long (q0 + (if p4 = (0 : Int32) then q5 else (0 : Int64)))), (.ref b13), (.ref b13)])) _
    refine XS.lconst X13.here hx rfl (hb hby own_d1_189) ?_
    show Steps p.tables e below (T13.setTop (mkF m 190 #[.val (.long q0), .second, .val (.long q1), .second, .val (.int p2), .val (.int p3), .val (.int p4), .val (.long q5), .second, .val (.int (q5.toInt32))] [(.long (0 : Int64)), (.long (q0 ^^^ q1)), (.int ((p2 - p3) + (if p4 = (9 : Int32) then (q5.toInt32) else (0 : Int32)))), (.int ((p2 + p3) + (if p4 = (8 : Int32) then (q5.toInt32) else (0 : Int32)))), (.long ((q0 ^^^ (-1 : Int64)) + (if p4 = (7 : Int32) then q5 else (0 : Int64)))), (.int ((p2 ^^^ p3) + (if p4 = (6 : Int32) then (q5.toInt32) else (0 : Int32)))), (.int (p3 + (if p4 = (5 : Int32) then (q5.toInt32) else (0 : Int32)))), (.int (p2 + (if p4 = (4 : Int32) then (q5.toInt32) else (0 : Int32)))), (.long ((q0 - q1) + (if p4 = (3 : Int32) then q5 else (0 : Int64)))), (.long ((q0 + q1) + (if p4 = (2 : Int32) then q5 else (0 : Int64)))), (.long (q1 + (if p4 = (1 : Int32) then q5 else (0 : Int64)))), (.long (q0 + (if p4 = (0 : Int32) then q5 else (0 : Int64)))), (.ref b13), (.ref b13)])) _
    exact k
  refine Go.st (V' := T13.setTop (mkF m 191 #[.val (.long q0), .second, .val (.long q1), .second, .val (.int p2), .val (.int p3), .val (.int p4), .val (.long q5), .second, .val (.int (q5.toInt32))] [(.long ((q0 ^^^ q1) + (if p4 = (10 : Int32) then q5 else (0 : Int64)))), (.int ((p2 - p3) + (if p4 = (9 : Int32) then (q5.toInt32) else (0 : Int32)))), (.int ((p2 + p3) + (if p4 = (8 : Int32) then (q5.toInt32) else (0 : Int32)))), (.long ((q0 ^^^ (-1 : Int64)) + (if p4 = (7 : Int32) then q5 else (0 : Int64)))), (.int ((p2 ^^^ p3) + (if p4 = (6 : Int32) then (q5.toInt32) else (0 : Int32)))), (.int (p3 + (if p4 = (5 : Int32) then (q5.toInt32) else (0 : Int32)))), (.int (p2 + (if p4 = (4 : Int32) then (q5.toInt32) else (0 : Int32)))), (.long ((q0 - q1) + (if p4 = (3 : Int32) then q5 else (0 : Int64)))), (.long ((q0 + q1) + (if p4 = (2 : Int32) then q5 else (0 : Int64)))), (.long (q1 + (if p4 = (1 : Int32) then q5 else (0 : Int64)))), (.long (q0 + (if p4 = (0 : Int32) then q5 else (0 : Int64)))), (.ref b13), (.ref b13)])) (fun t k => ?_) ?_
  · refine XS.ladd X13.here hx rfl (hb hby own_d1_190) rfl ?_
    show Steps p.tables e below (T13.setTop (mkF m 191 #[.val (.long q0), .second, .val (.long q1), .second, .val (.int p2), .val (.int p3), .val (.int p4), .val (.long q5), .second, .val (.int (q5.toInt32))] [(.long ((q0 ^^^ q1) + (if p4 = (10 : Int32) then q5 else (0 : Int64)))), (.int ((p2 - p3) + (if p4 = (9 : Int32) then (q5.toInt32) else (0 : Int32)))), (.int ((p2 + p3) + (if p4 = (8 : Int32) then (q5.toInt32) else (0 : Int32)))), (.long ((q0 ^^^ (-1 : Int64)) + (if p4 = (7 : Int32) then q5 else (0 : Int64)))), (.int ((p2 ^^^ p3) + (if p4 = (6 : Int32) then (q5.toInt32) else (0 : Int32)))), (.int (p3 + (if p4 = (5 : Int32) then (q5.toInt32) else (0 : Int32)))), (.int (p2 + (if p4 = (4 : Int32) then (q5.toInt32) else (0 : Int32)))), (.long ((q0 - q1) + (if p4 = (3 : Int32) then q5 else (0 : Int64)))), (.long ((q0 + q1) + (if p4 = (2 : Int32) then q5 else (0 : Int64)))), (.long (q1 + (if p4 = (1 : Int32) then q5 else (0 : Int64)))), (.long (q0 + (if p4 = (0 : Int32) then q5 else (0 : Int64)))), (.ref b13), (.ref b13)])) _
    exact k
  obtain ⟨_, _, ⟨T25, L25, k25, n25⟩, -, X25, ⟨Lc25, hQ25, l25, y25, z25⟩, st25⟩ := X13.specialBack hx (y := (⟨"com/example/numtick/numtick/protocol/Stat", "<init>", "(JJJJIIIJIIJ)V"⟩ : MethodName)) rfl hown (mvT hZ (hw _ (List.mem_of_getElem? (i := 9) rfl))) (mvT hZ (hw _ (List.mem_of_getElem? (i := 10) rfl))) (mvT hZ (hw _ (List.mem_of_getElem? (i := 11) rfl))) (by decide) (backOf (W := 1) (rm2 l Z a0 hw [] s_icache cl_icache HW b13 (q0 + (if p4 = (0 : Int32) then q5 else (0 : Int64))) (q1 + (if p4 = (1 : Int32) then q5 else (0 : Int64))) ((q0 + q1) + (if p4 = (2 : Int32) then q5 else (0 : Int64))) ((q0 - q1) + (if p4 = (3 : Int32) then q5 else (0 : Int64))) (p2 + (if p4 = (4 : Int32) then (q5.toInt32) else (0 : Int32))) (p3 + (if p4 = (5 : Int32) then (q5.toInt32) else (0 : Int32))) ((p2 ^^^ p3) + (if p4 = (6 : Int32) then (q5.toInt32) else (0 : Int32))) ((q0 ^^^ (-1 : Int64)) + (if p4 = (7 : Int32) then q5 else (0 : Int64))) ((p2 + p3) + (if p4 = (8 : Int32) then (q5.toInt32) else (0 : Int32))) ((p2 - p3) + (if p4 = (9 : Int32) then (q5.toInt32) else (0 : Int32))) ((q0 ^^^ q1) + (if p4 = (10 : Int32) then q5 else (0 : Int64))) (.long (0 : Int64)) (.long (0 : Int64)) (.long (0 : Int64)) (.long (0 : Int64)) (.int (0 : Int32)) (.int (0 : Int32)) (.int (0 : Int32)) (.long (0 : Int64)) (.int (0 : Int32)) (.int (0 : Int32)) (.long (0 : Int64)) h13 n0 O13 A13 F_czxid_b13 g_b13 F_mzxid_b13 F_ctime_b13 F_mtime_b13 F_version_b13 F_cversion_b13 F_aversion_b13 F_ephemeralOwner_b13 F_dataLength_b13 F_numChildren_b13 F_pzxid_b13) hZ (hw _ (List.mem_of_getElem? (i := 11) rfl)) (hw _ (List.mem_of_getElem? (i := 7) rfl)) (by decide) (by decide)) (g := (mkF m 191 #[.val (.long q0), .second, .val (.long q1), .second, .val (.int p2), .val (.int p3), .val (.int p4), .val (.long q5), .second, .val (.int (q5.toInt32))] [(.long ((q0 ^^^ q1) + (if p4 = (10 : Int32) then q5 else (0 : Int64)))), (.int ((p2 - p3) + (if p4 = (9 : Int32) then (q5.toInt32) else (0 : Int32)))), (.int ((p2 + p3) + (if p4 = (8 : Int32) then (q5.toInt32) else (0 : Int32)))), (.long ((q0 ^^^ (-1 : Int64)) + (if p4 = (7 : Int32) then q5 else (0 : Int64)))), (.int ((p2 ^^^ p3) + (if p4 = (6 : Int32) then (q5.toInt32) else (0 : Int32)))), (.int (p3 + (if p4 = (5 : Int32) then (q5.toInt32) else (0 : Int32)))), (.int (p2 + (if p4 = (4 : Int32) then (q5.toInt32) else (0 : Int32)))), (.long ((q0 - q1) + (if p4 = (3 : Int32) then q5 else (0 : Int64)))), (.long ((q0 + q1) + (if p4 = (2 : Int32) then q5 else (0 : Int64)))), (.long (q1 + (if p4 = (1 : Int32) then q5 else (0 : Int64)))), (.long (q0 + (if p4 = (0 : Int32) then q5 else (0 : Int64)))), (.ref b13), (.ref b13)])) rfl (by rw [hml]; rfl) (Steps.refl _) (a := b13) (argsL := [(.long (q0 + (if p4 = (0 : Int32) then q5 else (0 : Int64)))), (.long (q1 + (if p4 = (1 : Int32) then q5 else (0 : Int64)))), (.long ((q0 + q1) + (if p4 = (2 : Int32) then q5 else (0 : Int64)))), (.long ((q0 - q1) + (if p4 = (3 : Int32) then q5 else (0 : Int64)))), (.int (p2 + (if p4 = (4 : Int32) then (q5.toInt32) else (0 : Int32)))), (.int (p3 + (if p4 = (5 : Int32) then (q5.toInt32) else (0 : Int32)))), (.int ((p2 ^^^ p3) + (if p4 = (6 : Int32) then (q5.toInt32) else (0 : Int32)))), (.long ((q0 ^^^ (-1 : Int64)) + (if p4 = (7 : Int32) then q5 else (0 : Int64)))), (.int ((p2 + p3) + (if p4 = (8 : Int32) then (q5.toInt32) else (0 : Int32)))), (.int ((p2 - p3) + (if p4 = (9 : Int32) then (q5.toInt32) else (0 : Int32)))), (.long ((q0 ^^^ q1) + (if p4 = (10 : Int32) then q5 else (0 : Int64))))]) (rest := [(.ref b13)]) (lenOf own_pd143 rfl) rfl (by show 2 * 0 + _ ≤ _; exact Nat.le_of_eq rfl) (hb hby own_d1_191) (fun _ _ => ⟨rfl, e13, (by decide : 1 + 0 ≤ _), (by decide : 11 + 0 ≤ _)⟩)
  dsimp only [Pt.U, Pt.locs, Pt.cells, Pt.slots] at X25 l25 y25 z25 st25 hQ25
  subst l25 y25 z25
  obtain ⟨rfl, N25q, K25, f25_0, f25_1, f25_2, f25_3, f25_4, f25_5, f25_6, f25_7, f25_8, f25_9, f25_10, f25_11⟩ := hQ25
  have N25 := Fr.app N0 N25q
  have O25 := O13.keep K25 (allS g_b13 all0)
  have KA25 := K13.trans K25 (allS (Or.inr sz_b13) all0)
  refine Go.st (V' := T25.setTop (mkF m 194 #[.val (.long q0), .second, .val (.long q1), .second, .val (.int p2), .val (.int p3), .val (.int p4), .val (.long q5), .second, .val (.int (q5.toInt32))] [(.ref b13)])) (fun t k => st25.trans k) ?_
  obtain ⟨fs, hr, hrun, hended, hW, hsame⟩ := X25.leave (v := some (.ref b13)) (fun h => by rw [Bd.returns] at h; cases h)
  refine Go.mk' ⟨_, _, retOut X25 hx Bd.returns rfl (Or.inr (Or.inr (Or.inr (Or.inr ⟨rfl, rfl, rfl⟩)))) (hb hby own_d1_194) hr, hrun, hended, _, _, rfl, ?_, ⟨_, rfl⟩, hW, hsame.mono (by decide) (by decide)⟩
  show Q1 Z s_icache cl_icache q0 q1 p2 p3 p4 q5 h0 n0 _ T25.heap _
  exact ⟨b13, rfl, N25, KA25, sz_b13, f25_11, f25_0, f25_1, f25_2, f25_3, f25_4, f25_5, f25_6, f25_7, f25_8, f25_9, f25_10⟩
theorem own_d4_0 : decode prog_57_method_14_code 0 = .ok (.aload_n 1, 1) := by decide +kernel
theorem own_d4_1 : decode prog_57_method_14_code 1 = .ok (.instanceof 8, 3) := by decide +kernel
theorem own_d4_4 : decode prog_57_method_14_code 4 = .ok (.ifCond .ne 5, 3) := by decide +kernel
theorem own_d4_9 : decode prog_57_method_14_code 9 = .ok (.aload_n 1, 1) := by decide +kernel
theorem own_d4_10 : decode prog_57_method_14_code 10 = .ok (.checkcast 8, 3) := by decide +kernel
theorem own_d4_13 : decode prog_57_method_14_code 13 = .ok (.astore_n 2, 1) := by decide +kernel
theorem own_d4_14 : decode prog_57_method_14_code 14 = .ok (.aload_n 0, 1) := by decide +kernel
theorem own_d4_15 : decode prog_57_method_14_code 15 = .ok (.getfield 7, 3) := by decide +kernel
theorem own_d4_18 : decode prog_57_method_14_code 18 = .ok (.aload_n 2, 1) := by decide +kernel
theorem own_d4_19 : decode prog_57_method_14_code 19 = .ok (.getfield 7, 3) := by decide +kernel
theorem own_d4_22 : decode prog_57_method_14_code 22 = .ok (.lcmp, 1) := by decide +kernel
theorem own_d4_23 : decode prog_57_method_14_code 23 = .ok (.ifCond .ne 122, 3) := by decide +kernel
theorem own_d4_26 : decode prog_57_method_14_code 26 = .ok (.aload_n 0, 1) := by decide +kernel
theorem own_d4_27 : decode prog_57_method_14_code 27 = .ok (.getfield 13, 3) := by decide +kernel
theorem own_d4_30 : decode prog_57_method_14_code 30 = .ok (.aload_n 2, 1) := by decide +kernel
theorem own_d4_31 : decode prog_57_method_14_code 31 = .ok (.getfield 13, 3) := by decide +kernel
theorem own_d4_34 : decode prog_57_method_14_code 34 = .ok (.lcmp, 1) := by decide +kernel
theorem own_d4_35 : decode prog_57_method_14_code 35 = .ok (.ifCond .ne 110, 3) := by decide +kernel
theorem own_d4_38 : decode prog_57_method_14_code 38 = .ok (.aload_n 0, 1) := by decide +kernel
theorem own_d4_39 : decode prog_57_method_14_code 39 = .ok (.getfield 16, 3) := by decide +kernel
theorem own_d4_42 : decode prog_57_method_14_code 42 = .ok (.aload_n 2, 1) := by decide +kernel
theorem own_d4_43 : decode prog_57_method_14_code 43 = .ok (.getfield 16, 3) := by decide +kernel
theorem own_d4_46 : decode prog_57_method_14_code 46 = .ok (.lcmp, 1) := by decide +kernel
theorem own_d4_47 : decode prog_57_method_14_code 47 = .ok (.ifCond .ne 98, 3) := by decide +kernel
theorem own_d4_50 : decode prog_57_method_14_code 50 = .ok (.aload_n 0, 1) := by decide +kernel
theorem own_d4_51 : decode prog_57_method_14_code 51 = .ok (.getfield 19, 3) := by decide +kernel
theorem own_d4_54 : decode prog_57_method_14_code 54 = .ok (.aload_n 2, 1) := by decide +kernel
theorem own_d4_55 : decode prog_57_method_14_code 55 = .ok (.getfield 19, 3) := by decide +kernel
theorem own_d4_58 : decode prog_57_method_14_code 58 = .ok (.lcmp, 1) := by decide +kernel
theorem own_d4_59 : decode prog_57_method_14_code 59 = .ok (.ifCond .ne 86, 3) := by decide +kernel
theorem own_d4_62 : decode prog_57_method_14_code 62 = .ok (.aload_n 0, 1) := by decide +kernel
theorem own_d4_63 : decode prog_57_method_14_code 63 = .ok (.getfield 22, 3) := by decide +kernel
theorem own_d4_66 : decode prog_57_method_14_code 66 = .ok (.aload_n 2, 1) := by decide +kernel
theorem own_d4_67 : decode prog_57_method_14_code 67 = .ok (.getfield 22, 3) := by decide +kernel
theorem own_d4_70 : decode prog_57_method_14_code 70 = .ok (.if_icmp .ne 75, 3) := by decide +kernel
theorem own_d4_73 : decode prog_57_method_14_code 73 = .ok (.aload_n 0, 1) := by decide +kernel
theorem own_d4_74 : decode prog_57_method_14_code 74 = .ok (.getfield 26, 3) := by decide +kernel
theorem own_d4_77 : decode prog_57_method_14_code 77 = .ok (.aload_n 2, 1) := by decide +kernel
theorem own_d4_78 : decode prog_57_method_14_code 78 = .ok (.getfield 26, 3) := by decide +kernel
theorem own_d4_81 : decode prog_57_method_14_code 81 = .ok (.if_icmp .ne 64, 3) := by decide +kernel
theorem own_d4_84 : decode prog_57_method_14_code 84 = .ok (.aload_n 0, 1) := by decide +kernel
theorem own_d4_85 : decode prog_57_method_14_code 85 = .ok (.getfield 29, 3) := by decide +kernel
theorem own_d4_88 : decode prog_57_method_14_code 88 = .ok (.aload_n 2, 1) := by decide +kernel
theorem own_d4_89 : decode prog_57_method_14_code 89 = .ok (.getfield 29, 3) := by decide +kernel
theorem own_d4_92 : decode prog_57_method_14_code 92 = .ok (.if_icmp .ne 53, 3) := by decide +kernel
theorem own_d4_95 : decode prog_57_method_14_code 95 = .ok (.aload_n 0, 1) := by decide +kernel
theorem own_d4_96 : decode prog_57_method_14_code 96 = .ok (.getfield 32, 3) := by decide +kernel
theorem own_d4_99 : decode prog_57_method_14_code 99 = .ok (.aload_n 2, 1) := by decide +kernel
theorem own_d4_100 : decode prog_57_method_14_code 100 = .ok (.getfield 32, 3) := by decide +kernel
theorem own_d4_103 : decode prog_57_method_14_code 103 = .ok (.lcmp, 1) := by decide +kernel
theorem own_d4_104 : decode prog_57_method_14_code 104 = .ok (.ifCond .ne 41, 3) := by decide +kernel
theorem own_d4_107 : decode prog_57_method_14_code 107 = .ok (.aload_n 0, 1) := by decide +kernel
theorem own_d4_108 : decode prog_57_method_14_code 108 = .ok (.getfield 35, 3) := by decide +kernel
theorem own_d4_111 : decode prog_57_method_14_code 111 = .ok (.aload_n 2, 1) := by decide +kernel
theorem own_d4_112 : decode prog_57_method_14_code 112 = .ok (.getfield 35, 3) := by decide +kernel
theorem own_d4_115 : decode prog_57_method_14_code 115 = .ok (.if_icmp .ne 30, 3) := by decide +kernel
theorem own_d4_118 : decode prog_57_method_14_code 118 = .ok (.aload_n 0, 1) := by decide +kernel
theorem own_d4_119 : decode prog_57_method_14_code 119 = .ok (.getfield 38, 3) := by decide +kernel
theorem own_d4_122 : decode prog_57_method_14_code 122 = .ok (.aload_n 2, 1) := by decide +kernel
theorem own_d4_123 : decode prog_57_method_14_code 123 = .ok (.getfield 38, 3) := by decide +kernel
theorem own_d4_126 : decode prog_57_method_14_code 126 = .ok (.if_icmp .ne 19, 3) := by decide +kernel
theorem own_d4_129 : decode prog_57_method_14_code 129 = .ok (.aload_n 0, 1) := by decide +kernel
theorem own_d4_130 : decode prog_57_method_14_code 130 = .ok (.getfield 41, 3) := by decide +kernel
theorem own_d4_133 : decode prog_57_method_14_code 133 = .ok (.aload_n 2, 1) := by decide +kernel
theorem own_d4_134 : decode prog_57_method_14_code 134 = .ok (.getfield 41, 3) := by decide +kernel
theorem own_d4_137 : decode prog_57_method_14_code 137 = .ok (.lcmp, 1) := by decide +kernel
theorem own_d4_138 : decode prog_57_method_14_code 138 = .ok (.ifCond .ne 7, 3) := by decide +kernel
theorem own_d4_141 : decode prog_57_method_14_code 141 = .ok (.iconst 1, 1) := by decide +kernel
theorem own_d4_142 : decode prog_57_method_14_code 142 = .ok (.goto 4, 3) := by decide +kernel
theorem own_d4_146 : decode prog_57_method_14_code 146 = .ok (.ireturn, 1) := by decide +kernel
theorem own_d4_145 : decode prog_57_method_14_code 145 = .ok (.iconst 0, 1) := by decide +kernel
theorem ef4 (m : MethodId) (r0 : Addr) (r1 : Addr) : entryFrame m #[(.ref r0), (.ref r1)] 3 = mkF m 0 #[.val (.ref r0), .val (.ref r1), .unset] [] := by first | (simp [entryFrame, mkF, argsToLocals, Value.category]; done) | rfl
def f4 (w_czxid_r0 : Int64) (w_czxid_r1 : Int64) (w_mzxid_r0 : Int64) (w_mzxid_r1 : Int64) (w_ctime_r0 : Int64) (w_ctime_r1 : Int64) (w_mtime_r0 : Int64) (w_mtime_r1 : Int64) (w_version_r0 : Int32) (w_version_r1 : Int32) (w_cversion_r0 : Int32) (w_cversion_r1 : Int32) (w_aversion_r0 : Int32) (w_aversion_r1 : Int32) (w_ephemeralOwner_r0 : Int64) (w_ephemeralOwner_r1 : Int64) (w_dataLength_r0 : Int32) (w_dataLength_r1 : Int32) (w_numChildren_r0 : Int32) (w_numChildren_r1 : Int32) (w_pzxid_r0 : Int64) (w_pzxid_r1 : Int64) : Int32 := (if w_czxid_r0 = w_czxid_r1 then (if w_mzxid_r0 = w_mzxid_r1 then (if w_ctime_r0 = w_ctime_r1 then (if w_mtime_r0 = w_mtime_r1 then (if w_version_r0 = w_version_r1 then (if w_cversion_r0 = w_cversion_r1 then (if w_aversion_r0 = w_aversion_r1 then (if w_ephemeralOwner_r0 = w_ephemeralOwner_r1 then (if w_dataLength_r0 = w_dataLength_r1 then (if w_numChildren_r0 = w_numChildren_r1 then (if w_pzxid_r0 = w_pzxid_r1 then (1 : Int32) else (0 : Int32)) else (0 : Int32)) else (0 : Int32)) else (0 : Int32)) else (0 : Int32)) else (0 : Int32)) else (0 : Int32)) else (0 : Int32)) else (0 : Int32)) else (0 : Int32)) else (0 : Int32))
def Q4 (Z : State) (w_czxid_r0 : Int64) (w_czxid_r1 : Int64) (w_mzxid_r0 : Int64) (w_mzxid_r1 : Int64) (w_ctime_r0 : Int64) (w_ctime_r1 : Int64) (w_mtime_r0 : Int64) (w_mtime_r1 : Int64) (w_version_r0 : Int32) (w_version_r1 : Int32) (w_cversion_r0 : Int32) (w_cversion_r1 : Int32) (w_aversion_r0 : Int32) (w_aversion_r1 : Int32) (w_ephemeralOwner_r0 : Int64) (w_ephemeralOwner_r1 : Int64) (w_dataLength_r0 : Int32) (w_dataLength_r1 : Int32) (w_numChildren_r0 : Int32) (w_numChildren_r1 : Int32) (w_pzxid_r0 : Int64) (w_pzxid_r1 : Int64) (h0 : Heap) (n0 : Nat) (v : Option Value) (h : Heap) (L : List Loc) : Prop := v = some (.int (f4 w_czxid_r0 w_czxid_r1 w_mzxid_r0 w_mzxid_r1 w_ctime_r0 w_ctime_r1 w_mtime_r0 w_mtime_r1 w_version_r0 w_version_r1 w_cversion_r0 w_cversion_r1 w_aversion_r0 w_aversion_r1 w_ephemeralOwner_r0 w_ephemeralOwner_r1 w_dataLength_r0 w_dataLength_r1 w_numChildren_r0 w_numChildren_r1 w_pzxid_r0 w_pzxid_r1)) ∧ Fr n0 L ∧ h = h0
set_option maxRecDepth 65536 in
set_option maxHeartbeats 40000000 in
theorem rm4 (l : Launch) (Z : State) (a0 : Array Value) (hw : ∀ d ∈ tables_1, d.before a0 Z = true) (ws : List Jvm.Cond) (s_icache : Addr) (cl_icache : Cell) (HW : W0 Z s_icache cl_icache) (r0 : Addr) (r1 : Addr) (w_czxid_r0 : Int64) (w_czxid_r1 : Int64) (w_mzxid_r0 : Int64) (w_mzxid_r1 : Int64) (w_ctime_r0 : Int64) (w_ctime_r1 : Int64) (w_mtime_r0 : Int64) (w_mtime_r1 : Int64) (w_version_r0 : Int32) (w_version_r1 : Int32) (w_cversion_r0 : Int32) (w_cversion_r1 : Int32) (w_aversion_r0 : Int32) (w_aversion_r1 : Int32) (w_ephemeralOwner_r0 : Int64) (w_ephemeralOwner_r1 : Int64) (w_dataLength_r0 : Int32) (w_dataLength_r1 : Int32) (w_numChildren_r0 : Int32) (w_numChildren_r1 : Int32) (w_pzxid_r0 : Int64) (w_pzxid_r1 : Int64) (h0 : Heap) (n0 : Nat) (O0 : Old Z n0 h0) (E_r1 : Exa Z h0 r1 "com/example/numtick/numtick/protocol/Stat") (F_czxid_r0 : Fld Z h0 r0 "com/example/numtick/numtick/protocol/Stat" "czxid" "J" (.long w_czxid_r0)) (F_czxid_r1 : Fld Z h0 r1 "com/example/numtick/numtick/protocol/Stat" "czxid" "J" (.long w_czxid_r1)) (F_mzxid_r0 : Fld Z h0 r0 "com/example/numtick/numtick/protocol/Stat" "mzxid" "J" (.long w_mzxid_r0)) (F_mzxid_r1 : Fld Z h0 r1 "com/example/numtick/numtick/protocol/Stat" "mzxid" "J" (.long w_mzxid_r1)) (F_ctime_r0 : Fld Z h0 r0 "com/example/numtick/numtick/protocol/Stat" "ctime" "J" (.long w_ctime_r0)) (F_ctime_r1 : Fld Z h0 r1 "com/example/numtick/numtick/protocol/Stat" "ctime" "J" (.long w_ctime_r1)) (F_mtime_r0 : Fld Z h0 r0 "com/example/numtick/numtick/protocol/Stat" "mtime" "J" (.long w_mtime_r0)) (F_mtime_r1 : Fld Z h0 r1 "com/example/numtick/numtick/protocol/Stat" "mtime" "J" (.long w_mtime_r1)) (F_version_r0 : Fld Z h0 r0 "com/example/numtick/numtick/protocol/Stat" "version" "I" (.int w_version_r0)) (F_version_r1 : Fld Z h0 r1 "com/example/numtick/numtick/protocol/Stat" "version" "I" (.int w_version_r1)) (F_cversion_r0 : Fld Z h0 r0 "com/example/numtick/numtick/protocol/Stat" "cversion" "I" (.int w_cversion_r0)) (F_cversion_r1 : Fld Z h0 r1 "com/example/numtick/numtick/protocol/Stat" "cversion" "I" (.int w_cversion_r1)) (F_aversion_r0 : Fld Z h0 r0 "com/example/numtick/numtick/protocol/Stat" "aversion" "I" (.int w_aversion_r0)) (F_aversion_r1 : Fld Z h0 r1 "com/example/numtick/numtick/protocol/Stat" "aversion" "I" (.int w_aversion_r1)) (F_ephemeralOwner_r0 : Fld Z h0 r0 "com/example/numtick/numtick/protocol/Stat" "ephemeralOwner" "J" (.long w_ephemeralOwner_r0)) (F_ephemeralOwner_r1 : Fld Z h0 r1 "com/example/numtick/numtick/protocol/Stat" "ephemeralOwner" "J" (.long w_ephemeralOwner_r1)) (F_dataLength_r0 : Fld Z h0 r0 "com/example/numtick/numtick/protocol/Stat" "dataLength" "I" (.int w_dataLength_r0)) (F_dataLength_r1 : Fld Z h0 r1 "com/example/numtick/numtick/protocol/Stat" "dataLength" "I" (.int w_dataLength_r1)) (F_numChildren_r0 : Fld Z h0 r0 "com/example/numtick/numtick/protocol/Stat" "numChildren" "I" (.int w_numChildren_r0)) (F_numChildren_r1 : Fld Z h0 r1 "com/example/numtick/numtick/protocol/Stat" "numChildren" "I" (.int w_numChildren_r1)) (F_pzxid_r0 : Fld Z h0 r0 "com/example/numtick/numtick/protocol/Stat" "pzxid" "J" (.long w_pzxid_r0)) (F_pzxid_r1 : Fld Z h0 r1 "com/example/numtick/numtick/protocol/Stat" "pzxid" "J" (.long w_pzxid_r1)) :
    MetFree l (⟨"com/example/numtick/numtick/protocol/Stat", "equals", "(Ljava/lang/Object;)Z"⟩ : MethodName) (head1 (Jvm.Cond.code (⟨"com/example/numtick/numtick/protocol/Stat", "equals", "(Ljava/lang/Object;)Z"⟩ : MethodName) prog_57_method_14_code 3 (some .boolean) :: ws) ({ frames := 0, cells := 0, slots := 0, locals := 0 } : Room)) (fun a U => a = #[(.ref r0), (.ref r1)] ∧ Z.Warmed39 U.vm ∧ U.heap = h0) (fun _ _ _ _ _ => True) (fun _ U o U' => ∃ v L, o = .returned v ∧ Q4 Z w_czxid_r0 w_czxid_r1 w_mzxid_r0 w_mzxid_r1 w_ctime_r0 w_ctime_r1 w_mtime_r0 w_mtime_r1 w_version_r0 w_version_r1 w_cversion_r0 w_cversion_r1 w_aversion_r0 w_aversion_r1 w_ephemeralOwner_r0 w_ephemeralOwner_r1 w_dataLength_r0 w_dataLength_r1 w_numChildren_r0 w_numChildren_r1 w_pzxid_r0 w_pzxid_r1 h0 n0 v U'.heap L ∧ FrameEnd U o U' L ({ frames := 0, cells := 0, slots := 0, locals := 0 } : Room).cells ({ frames := 0, cells := 0, slots := 0, locals := 0 } : Room).slots) := by
  refine MetFree.of_bodySF (plainFor_of_name own_pn0) hisR ?_
  intro p e s m args below meth c s₁ Bd hml0 hP hK
  obtain ⟨rfl, hZ, hh⟩ := hP
  obtain ⟨S_ihigh, B_icache, S_icache⟩ := id HW
  have hx := Bd.exec
  have hby := Bd.bytes
  have hml : c.maxLocals = 3 := hml0
  have hown : s.vm.findClass "com/example/numtick/numtick/protocol/Stat" = some m.cls := findClass_of_methodNamed Bd.named
  have hnm := (name_of_methodNamed Bd.named Bd.method).1
  have X0 : Stand p l e ({ frames := 0, cells := 0, slots := 0, locals := 0 } : Room) s m #[(.ref r0), (.ref r1)] below meth c s₁ [] 0 0 := Stand.of_body Bd
  have e0 : s₁.heap = h0 := by rw [← hh, Bd.state]; rfl
  have N0 := Fr.nil n0
  have K0 := Keep.refl h0 []
  refine Go.out ?_
  refine Go.st (V' := s₁.setTop (mkF m 0 #[.val (.ref r0), .val (.ref r1), .unset] [])) (fun t k => castTop (ef4 m r0 r1) k) ?_
  refine Go.st (V' := s₁.setTop (mkF m 1 #[.val (.ref r0), .val (.ref r1), .unset] [(.ref r1)])) (fun t k => ?_) ?_
  · refine XS.aloadN X0.here hx rfl (hb hby own_d4_0) rfl rfl ?_
    show Steps p.tables e below (s₁.setTop (mkF m 1 #[.val (.ref r0), .val (.ref r1), .unset] [(.ref r1)])) _
    exact k
  obtain ⟨T26, X26, e26, st26⟩ := instY X0 hx hZ hown (hw _ (List.mem_of_getElem? (i := 42) rfl)) e0 (Ins.self E_r1) (g := (mkF m 1 #[.val (.ref r0), .val (.ref r1), .unset] [(.ref r1)])) rfl rfl (hb hby own_d4_1)
  refine Go.st (V' := T26.setTop (mkF m 4 #[.val (.ref r0), .val (.ref r1), .unset] [(.int (1 : Int32))])) (fun t k => st26 t k) ?_
  refine Go.st (V' := T26.setTop (mkF m 10 #[.val (.ref r0), .val (.ref r1), .unset] [(.ref r1)])) (fun t k => ?_) ?_
  · refine XS.ifYes X26.here hx rfl (pc0 := 4) (pc' := 9) rfl (hb hby own_d4_4) rfl ((if0 _ _).trans (feq (by decide : ¬ ((1 : Int32) = (0 : Int32)))).2) (by decide) (by decide) ?_
    show Steps p.tables e below (T26.setTop (mkF m 9 #[.val (.ref r0), .val (.ref r1), .unset] [])) _
    refine XS.aloadN X26.here hx rfl (hb hby own_d4_9) rfl rfl ?_
    show Steps p.tables e below (T26.setTop (mkF m 10 #[.val (.ref r0), .val (.ref r1), .unset] [(.ref r1)])) _
    exact k
  obtain ⟨T27, X27, e27, st27⟩ := castY X26 hx hZ hown (hw _ (List.mem_of_getElem? (i := 42) rfl)) e26 (Ins.self E_r1) (g := (mkF m 10 #[.val (.ref r0), .val (.ref r1), .unset] [(.ref r1)])) rfl rfl (hb hby own_d4_10)
  refine Go.st (V' := T27.setTop (mkF m 13 #[.val (.ref r0), .val (.ref r1), .unset] [(.ref r1)])) (fun t k => st27 t k) ?_
  refine Go.st (V' := T27.setTop (mkF m 15 #[.val (.ref r0), .val (.ref r1), .val (.ref r1)] [(.ref r0)])) (fun t k => ?_) ?_
  · refine XS.astoreN X27.here hx rfl (hb hby own_d4_13) rfl rfl (l' := #[.val (.ref r0), .val (.ref r1), .val (.ref r1)]) rfl ?_
    show Steps p.tables e below (T27.setTop (mkF m 14 #[.val (.ref r0), .val (.ref r1), .val (.ref r1)] [])) _
    refine XS.aloadN X27.here hx rfl (hb hby own_d4_14) rfl rfl ?_
    show Steps p.tables e below (T27.setTop (mkF m 15 #[.val (.ref r0), .val (.ref r1), .val (.ref r1)] [(.ref r0)])) _
    exact k
  obtain ⟨T28, X28, e28, st28⟩ := getF X27 hx hZ hown (host := "") (Or.inl (hw _ (List.mem_of_getElem? (i := 15) rfl))) Via.refl e27 F_czxid_r0 (g := (mkF m 15 #[.val (.ref r0), .val (.ref r1), .val (.ref r1)] [(.ref r0)])) rfl rfl (hb hby own_d4_15)
  refine Go.st (V' := T28.setTop (mkF m 18 #[.val (.ref r0), .val (.ref r1), .val (.ref r1)] [(.long w_czxid_r0)])) (fun t k => st28 t k) ?_
  refine Go.st (V' := T28.setTop (mkF m 19 #[.val (.ref r0), .val (.ref r1), .val (.ref r1)] [(.ref r1), (.long w_czxid_r0)])) (fun t k => ?_) ?_
  · refine XS.aloadN X28.here hx rfl (hb hby own_d4_18) rfl rfl ?_
    show Steps p.tables e below (T28.setTop (mkF m 19 #[.val (.ref r0), .val (.ref r1), .val (.ref r1)] [(.ref r1), (.long w_czxid_r0)])) _
    exact k
  obtain ⟨T29, X29, e29, st29⟩ := getF X28 hx hZ hown (host := "") (Or.inl (hw _ (List.mem_of_getElem? (i := 15) rfl))) Via.refl e28 F_czxid_r1 (g := (mkF m 19 #[.val (.ref r0), .val (.ref r1), .val (.ref r1)] [(.ref r1), (.long w_czxid_r0)])) rfl rfl (hb hby own_d4_19)
  refine Go.st (V' := T29.setTop (mkF m 22 #[.val (.ref r0), .val (.ref r1), .val (.ref r1)] [(.long w_czxid_r1), (.long w_czxid_r0)])) (fun t k => st29 t k) ?_
  refine Go.st (V' := T29.setTop (mkF m 23 #[.val (.ref r0), .val (.ref r1), .val (.ref r1)] [(.int (lcmpW w_czxid_r0 w_czxid_r1))])) (fun t k => ?_) ?_
  · refine XS.lcmp X29.here hx rfl (hb hby own_d4_22) rfl ?_
    show Steps p.tables e below (T29.setTop (mkF m 23 #[.val (.ref r0), .val (.ref r1), .val (.ref r1)] [(.int (lcmpW w_czxid_r0 w_czxid_r1))])) _
    exact k
  by_cases hc30 : w_czxid_r0 = w_czxid_r1
  · refine Go.st (V' := T29.setTop (mkF m 27 #[.val (.ref r0), .val (.ref r1), .val (.ref r1)] [(.ref r0)])) (fun t k => ?_) ?_
    · refine XS.ifNo X29.here hx rfl (hb hby own_d4_23) rfl ((if0 _ _).trans (teq ((lw_eq _ _).mpr hc30)).2) ?_
      show Steps p.tables e below (T29.setTop (mkF m 26 #[.val (.ref r0), .val (.ref r1), .val (.ref r1)] [])) _
      refine XS.aloadN X29.here hx rfl (hb hby own_d4_26) rfl rfl ?_
      show Steps p.tables e below (T29.setTop (mkF m 27 #[.val (.ref r0), .val (.ref r1), .val (.ref r1)] [(.ref r0)])) _
      exact k
    obtain ⟨T31, X31, e31, st31⟩ := getF X29 hx hZ hown (host := "") (Or.inl (hw _ (List.mem_of_getElem? (i := 17) rfl))) Via.refl e29 F_mzxid_r0 (g := (mkF m 27 #[.val (.ref r0), .val (.ref r1), .val (.ref r1)] [(.ref r0)])) rfl rfl (hb hby own_d4_27)
    refine Go.st (V' := T31.setTop (mkF m 30 #[.val (.ref r0), .val (.ref r1), .val (.ref r1)] [(.long w_mzxid_r0)])) (fun t k => st31 t k) ?_
    refine Go.st (V' := T31.setTop (mkF m 31 #[.val (.ref r0), .val (.ref r1), .val (.ref r1)] [(.ref r1), (.long w_mzxid_r0)])) (fun t k => ?_) ?_
    · refine XS.aloadN X31.here hx rfl (hb hby own_d4_30) rfl rfl ?_
      show Steps p.tables e below (T31.setTop (mkF m 31 #[.val (.ref r0), .val (.ref r1), .val (.ref r1)] [(.ref r1), (.long w_mzxid_r0)])) _
      exact k
    obtain ⟨T32, X32, e32, st32⟩ := getF X31 hx hZ hown (host := "") (Or.inl (hw _ (List.mem_of_getElem? (i := 17) rfl))) Via.refl e31 F_mzxid_r1 (g := (mkF m 31 #[.val (.ref r0), .val (.ref r1), .val (.ref r1)] [(.ref r1), (.long w_mzxid_r0)])) rfl rfl (hb hby own_d4_31)
    refine Go.st (V' := T32.setTop (mkF m 34 #[.val (.ref r0), .val (.ref r1), .val (.ref r1)] [(.long w_mzxid_r1), (.long w_mzxid_r0)])) (fun t k => st32 t k) ?_
    refine Go.st (V' := T32.setTop (mkF m 35 #[.val (.ref r0), .val (.ref r1), .val (.ref r1)] [(.int (lcmpW w_mzxid_r0 w_mzxid_r1))])) (fun t k => ?_) ?_
    · refine XS.lcmp X32.here hx rfl (hb hby own_d4_34) rfl ?_
      show Steps p.tables e below (T32.setTop (mkF m 35 #[.val (.ref r0), .val (.ref r1), .val (.ref r1)] [(.int (lcmpW w_mzxid_r0 w_mzxid_r1))])) _
      exact k
    by_cases hc33 : w_mzxid_r0 = w_mzxid_r1
    · refine Go.st (V' := T32.setTop (mkF m 39 #[.val (.ref r0), .val (.ref r1), .val (.ref r1)] [(.ref r0)])) (fun t k => ?_) ?_
      · refine XS.ifNo X32.here hx rfl (hb hby own_d4_35) rfl ((if0 _ _).trans (teq ((lw_eq _ _).mpr hc33)).2) ?_
        show Steps p.tables e below (T32.setTop (mkF m 38 #[.val (.ref r0), .val (.ref r1), .val (.ref r1)] [])) _
        refine XS.aloadN X32.here hx rfl (hb hby own_d4_38) rfl rfl ?_
        show Steps p.tables e below (T32.setTop (mkF m 39 #[.val (.ref r0), .val (.ref r1), .val (.ref r1)] [(.ref r0)])) _
        exact k
      obtain ⟨T34, X34, e34, st34⟩ := getF X32 hx hZ hown (host := "") (Or.inl (hw _ (List.mem_of_getElem? (i := 19) rfl))) Via.refl e32 F_ctime_r0 (g := (mkF m 39 #[.val (.ref r0), .val (.ref r1), .val (.ref r1)] [(.ref r0)])) rfl rfl (hb hby own_d4_39)
      refine Go.st (V' := T34.setTop (mkF m 42 #[.val (.ref r0), .val (.ref r1), .val (.ref r1)] [(.long w_ctime_r0)])) (fun t k => st34 t k) ?_
      refine Go.st (V' := T34.setTop (mkF m 43 #[.val (.ref r0), .val (.ref r1), .val (.ref r1)] [(.ref r1), (.long w_ctime_r0)])) (fun t k => ?_) ?_
      · refine XS.aloadN X34.here hx rfl (hb hby own_d4_42) rfl rfl ?_
        show Steps p.tables e below (T34.setTop (mkF m 43 #[.val (.ref r0), .val (.ref r1), .val (.ref r1)] [(.ref r1), (.long w_ctime_r0)])) _
        exact k
      obtain ⟨T35, X35, e35, st35⟩ := getF X34 hx hZ hown (host := "") (Or.inl (hw _ (List.mem_of_getElem? (i := 19) rfl))) Via.refl e34 F_ctime_r1 (g := (mkF m 43 #[.val (.ref r0), .val (.ref r1), .val (.ref r1)] [(.ref r1), (.long w_ctime_r0)])) rfl rfl (hb hby own_d4_43)
      refine Go.st (V' := T35.setTop (mkF m 46 #[.val (.ref r0), .val (.ref r1), .val (.ref r1)] [(.long w_ctime_r1), (.long w_ctime_r0)])) (fun t k => st35 t k) ?_
      refine Go.st (V' := T35.setTop (mkF m 47 #[.val (.ref r0), .val (.ref r1), .val (.ref r1)] [(.int (lcmpW w_ctime_r0 w_ctime_r1))])) (fun t k => ?_) ?_
      · refine XS.lcmp X35.here hx rfl (hb hby own_d4_46) rfl ?_
        show Steps p.tables e below (T35.setTop (mkF m 47 #[.val (.ref r0), .val (.ref r1), .val (.ref r1)] [(.int (lcmpW w_ctime_r0 w_ctime_r1))])) _
        exact k
      by_cases hc36 : w_ctime_r0 = w_ctime_r1
      · refine Go.st (V' := T35.setTop (mkF m 51 #[.val (.ref r0), .val (.ref r1), .val (.ref r1)] [(.ref r0)])) (fun t k => ?_) ?_
        · refine XS.ifNo X35.here hx rfl (hb hby own_d4_47) rfl ((if0 _ _).trans (teq ((lw_eq _ _).mpr hc36)).2) ?_
          show Steps p.tables e below (T35.setTop (mkF m 50 #[.val (.ref r0), .val (.ref r1), .val (.ref r1)] [])) _
          refine XS.aloadN X35.here hx rfl (hb hby own_d4_50) rfl rfl ?_
          show Steps p.tables e below (T35.setTop (mkF m 51 #[.val (.ref r0), .val (.ref r1), .val (.ref r1)] [(.ref r0)])) _
          exact k
        obtain ⟨T37, X37, e37, st37⟩ := getF X35 hx hZ hown (host := "") (Or.inl (hw _ (List.mem_of_getElem? (i := 21) rfl))) Via.refl e35 F_mtime_r0 (g := (mkF m 51 #[.val (.ref r0), .val (.ref r1), .val (.ref r1)] [(.ref r0)])) rfl rfl (hb hby own_d4_51)
        refine Go.st (V' := T37.setTop (mkF m 54 #[.val (.ref r0), .val (.ref r1), .val (.ref r1)] [(.long w_mtime_r0)])) (fun t k => st37 t k) ?_
        refine Go.st (V' := T37.setTop (mkF m 55 #[.val (.ref r0), .val (.ref r1), .val (.ref r1)] [(.ref r1), (.long w_mtime_r0)])) (fun t k => ?_) ?_
        · refine XS.aloadN X37.here hx rfl (hb hby own_d4_54) rfl rfl ?_
          show Steps p.tables e below (T37.setTop (mkF m 55 #[.val (.ref r0), .val (.ref r1), .val (.ref r1)] [(.ref r1), (.long w_mtime_r0)])) _
          exact k
        obtain ⟨T38, X38, e38, st38⟩ := getF X37 hx hZ hown (host := "") (Or.inl (hw _ (List.mem_of_getElem? (i := 21) rfl))) Via.refl e37 F_mtime_r1 (g := (mkF m 55 #[.val (.ref r0), .val (.ref r1), .val (.ref r1)] [(.ref r1), (.long w_mtime_r0)])) rfl rfl (hb hby own_d4_55)
        refine Go.st (V' := T38.setTop (mkF m 58 #[.val (.ref r0), .val (.ref r1), .val (.ref r1)] [(.long w_mtime_r1), (.long w_mtime_r0)])) (fun t k => st38 t k) ?_
        refine Go.st (V' := T38.setTop (mkF m 59 #[.val (.ref r0), .val (.ref r1), .val (.ref r1)] [(.int (lcmpW w_mtime_r0 w_mtime_r1))])) (fun t k => ?_) ?_
        · refine XS.lcmp X38.here hx rfl (hb hby own_d4_58) rfl ?_
          show Steps p.tables e below (T38.setTop (mkF m 59 #[.val (.ref r0), .val (.ref r1), .val (.ref r1)] [(.int (lcmpW w_mtime_r0 w_mtime_r1))])) _
          exact k
        by_cases hc39 : w_mtime_r0 = w_mtime_r1
        · refine Go.st (V' := T38.setTop (mkF m 63 #[.val (.ref r0), .val (.ref r1), .val (.ref r1)] [(.ref r0)])) (fun t k => ?_) ?_
          · refine XS.ifNo X38.here hx rfl (hb hby own_d4_59) rfl ((if0 _ _).trans (teq ((lw_eq _ _).mpr hc39)).2) ?_
            show Steps p.tables e below (T38.setTop (mkF m 62 #[.val (.ref r0), .val (.ref r1), .val (.ref r1)] [])) _
            refine XS.aloadN X38.here hx rfl (hb hby own_d4_62) rfl rfl ?_
            show Steps p.tables e below (T38.setTop (mkF m 63 #[.val (.ref r0), .val (.ref r1), .val (.ref r1)] [(.ref r0)])) _
            exact k
          obtain ⟨T40, X40, e40, st40⟩ := getF X38 hx hZ hown (host := "") (Or.inl (hw _ (List.mem_of_getElem? (i := 23) rfl))) Via.refl e38 F_version_r0 (g := (mkF m 63 #[.val (.ref r0), .val (.ref r1), .val (.ref r1)] [(.ref r0)])) rfl rfl (hb hby own_d4_63)
          refine Go.st (V' := T40.setTop (mkF m 66 #[.val (.ref r0), .val (.ref r1), .val (.ref r1)] [(.int w_version_r0)])) (fun t k => st40 t k) ?_
          refine Go.st (V' := T40.setTop (mkF m 67 #[.val (.ref r0), .val (.ref r1), .val (.ref r1)] [(.ref r1), (.int w_version_r0)])) (fun t k => ?_) ?_
          · refine XS.aloadN X40.here hx rfl (hb hby own_d4_66) rfl rfl ?_
            show Steps p.tables e below (T40.setTop (mkF m 67 #[.val (.ref r0), .val (.ref r1), .val (.ref r1)] [(.ref r1), (.int w_version_r0)])) _
            exact k
          obtain ⟨T41, X41, e41, st41⟩ := getF X40 hx hZ hown (host := "") (Or.inl (hw _ (List.mem_of_getElem? (i := 23) rfl))) Via.refl e40 F_version_r1 (g := (mkF m 67 #[.val (.ref r0), .val (.ref r1), .val (.ref r1)] [(.ref r1), (.int w_version_r0)])) rfl rfl (hb hby own_d4_67)
          refine Go.st (V' := T41.setTop (mkF m 70 #[.val (.ref r0), .val (.ref r1), .val (.ref r1)] [(.int w_version_r1), (.int w_version_r0)])) (fun t k => st41 t k) ?_
          by_cases hc42 : w_version_r0 = w_version_r1
          · refine Go.st (V' := T41.setTop (mkF m 74 #[.val (.ref r0), .val (.ref r1), .val (.ref r1)] [(.ref r0)])) (fun t k => ?_) ?_
            · refine XS.icmpNo X41.here hx rfl (hb hby own_d4_70) rfl (teq hc42).2 ?_
              show Steps p.tables e below (T41.setTop (mkF m 73 #[.val (.ref r0), .val (.ref r1), .val (.ref r1)] [])) _
              refine XS.aloadN X41.here hx rfl (hb hby own_d4_73) rfl rfl ?_
              show Steps p.tables e below (T41.setTop (mkF m 74 #[.val (.ref r0), .val (.ref r1), .val (.ref r1)] [(.ref r0)])) _
              exact k
            obtain ⟨T43, X43, e43, st43⟩ := getF X41 hx hZ hown (host := "") (Or.inl (hw _ (List.mem_of_getElem? (i := 25) rfl))) Via.refl e41 F_cversion_r0 (g := (mkF m 74 #[.val (.ref r0), .val (.ref r1), .val (.ref r1)] [(.ref r0)])) rfl rfl (hb hby own_d4_74)
            refine Go.st (V' := T43.setTop (mkF m 77 #[.val (.ref r0), .val (.ref r1), .val (.ref r1)] [(.int w_cversion_r0)])) (fun t k => st43 t k) ?_
            refine Go.st (V' := T43.setTop (mkF m 78 #[.val (.ref r0), .val (.ref r1), .val (.ref r1)] [(.ref r1), (.int w_cversion_r0)])) (fun t k => ?_) ?_
            · refine XS.aloadN X43.here hx rfl (hb hby own_d4_77) rfl rfl ?_
              show Steps p.tables e below (T43.setTop (mkF m 78 #[.val (.ref r0), .val (.ref r1), .val (.ref r1)] [(.ref r1), (.int w_cversion_r0)])) _
              exact k
            obtain ⟨T44, X44, e44, st44⟩ := getF X43 hx hZ hown (host := "") (Or.inl (hw _ (List.mem_of_getElem? (i := 25) rfl))) Via.refl e43 F_cversion_r1 (g := (mkF m 78 #[.val (.ref r0), .val (.ref r1), .val (.ref r1)] [(.ref r1), (.int w_cversion_r0)])) rfl rfl (hb hby own_d4_78)
            refine Go.st (V' := T44.setTop (mkF m 81 #[.val (.ref r0), .val (.ref r1), .val (.ref r1)] [(.int w_cversion_r1), (.int w_cversion_r0)])) (fun t k => st44 t k) ?_
            by_cases hc45 : w_cversion_r0 = w_cversion_r1
            · refine Go.st (V' := T44.setTop (mkF m 85 #[.val (.ref r0), .val (.ref r1), .val (.ref r1)] [(.ref r0)])) (fun t k => ?_) ?_
              · refine XS.icmpNo X44.here hx rfl (hb hby own_d4_81) rfl (teq hc45).2 ?_
                show Steps p.tables e below (T44.setTop (mkF m 84 #[.val (.ref r0), .val (.ref r1), .val (.ref r1)] [])) _
                refine XS.aloadN X44.here hx rfl (hb hby own_d4_84) rfl rfl ?_
                show Steps p.tables e below (T44.setTop (mkF m 85 #[.val (.ref r0), .val (.ref r1), .val (.ref r1)] [(.ref r0)])) _
                exact k
              obtain ⟨T46, X46, e46, st46⟩ := getF X44 hx hZ hown (host := "") (Or.inl (hw _ (List.mem_of_getElem? (i := 27) rfl))) Via.refl e44 F_aversion_r0 (g := (mkF m 85 #[.val (.ref r0), .val (.ref r1), .val (.ref r1)] [(.ref r0)])) rfl rfl (hb hby own_d4_85)
              refine Go.st (V' := T46.setTop (mkF m 88 #[.val (.ref r0), .val (.ref r1), .val (.ref r1)] [(.int w_aversion_r0)])) (fun t k => st46 t k) ?_
              refine Go.st (V' := T46.setTop (mkF m 89 #[.val (.ref r0), .val (.ref r1), .val (.ref r1)] [(.ref r1), (.int w_aversion_r0)])) (fun t k => ?_) ?_
              · refine XS.aloadN X46.here hx rfl (hb hby own_d4_88) rfl rfl ?_
                show Steps p.tables e below (T46.setTop (mkF m 89 #[.val (.ref r0), .val (.ref r1), .val (.ref r1)] [(.ref r1), (.int w_aversion_r0)])) _
                exact k
              obtain ⟨T47, X47, e47, st47⟩ := getF X46 hx hZ hown (host := "") (Or.inl (hw _ (List.mem_of_getElem? (i := 27) rfl))) Via.refl e46 F_aversion_r1 (g := (mkF m 89 #[.val (.ref r0), .val (.ref r1), .val (.ref r1)] [(.ref r1), (.int w_aversion_r0)])) rfl rfl (hb hby own_d4_89)
              refine Go.st (V' := T47.setTop (mkF m 92 #[.val (.ref r0), .val (.ref r1), .val (.ref r1)] [(.int w_aversion_r1), (.int w_aversion_r0)])) (fun t k => st47 t k) ?_
              by_cases hc48 : w_aversion_r0 = w_aversion_r1
              · refine Go.st (V' := T47.setTop (mkF m 96 #[.val (.ref r0), .val (.ref r1), .val (.ref r1)] [(.ref r0)])) (fun t k => ?_) ?_
                · refine XS.icmpNo X47.here hx rfl (hb hby own_d4_92) rfl (teq hc48).2 ?_
                  show Steps p.tables e below (T47.setTop (mkF m 95 #[.val (.ref r0), .val (.ref r1), .val (.ref r1)] [])) _
                  refine XS.aloadN X47.here hx rfl (hb hby own_d4_95) rfl rfl ?_
                  show Steps p.tables e below (T47.setTop (mkF m 96 #[.val (.ref r0), .val (.ref r1), .val (.ref r1)] [(.ref r0)])) _
                  exact k
                obtain ⟨T49, X49, e49, st49⟩ := getF X47 hx hZ hown (host := "") (Or.inl (hw _ (List.mem_of_getElem? (i := 29) rfl))) Via.refl e47 F_ephemeralOwner_r0 (g := (mkF m 96 #[.val (.ref r0), .val (.ref r1), .val (.ref r1)] [(.ref r0)])) rfl rfl (hb hby own_d4_96)
                refine Go.st (V' := T49.setTop (mkF m 99 #[.val (.ref r0), .val (.ref r1), .val (.ref r1)] [(.long w_ephemeralOwner_r0)])) (fun t k => st49 t k) ?_
                refine Go.st (V' := T49.setTop (mkF m 100 #[.val (.ref r0), .val (.ref r1), .val (.ref r1)] [(.ref r1), (.long w_ephemeralOwner_r0)])) (fun t k => ?_) ?_
                · refine XS.aloadN X49.here hx rfl (hb hby own_d4_99) rfl rfl ?_
                  show Steps p.tables e below (T49.setTop (mkF m 100 #[.val (.ref r0), .val (.ref r1), .val (.ref r1)] [(.ref r1), (.long w_ephemeralOwner_r0)])) _
                  exact k
                obtain ⟨T50, X50, e50, st50⟩ := getF X49 hx hZ hown (host := "") (Or.inl (hw _ (List.mem_of_getElem? (i := 29) rfl))) Via.refl e49 F_ephemeralOwner_r1 (g := (mkF m 100 #[.val (.ref r0), .val (.ref r1), .val (.ref r1)] [(.ref r1), (.long w_ephemeralOwner_r0)])) rfl rfl (hb hby own_d4_100)
                refine Go.st (V' := T50.setTop (mkF m 103 #[.val (.ref r0), .val (.ref r1), .val (.ref r1)] [(.long w_ephemeralOwner_r1), (.long w_ephemeralOwner_r0)])) (fun t k => st50 t k) ?_
                refine Go.st (V' := T50.setTop (mkF m 104 #[.val (.ref r0), .val (.ref r1), .val (.ref r1)] [(.int (lcmpW w_ephemeralOwner_r0 w_ephemeralOwner_r1))])) (fun t k => ?_) ?_
                · refine XS.lcmp X50.here hx rfl (hb hby own_d4_103) rfl ?_
                  show Steps p.tables e below (T50.setTop (mkF m 104 #[.val (.ref r0), .val (.ref r1), .val (.ref r1)] [(.int (lcmpW w_ephemeralOwner_r0 w_ephemeralOwner_r1))])) _
                  exact k
                by_cases hc51 : w_ephemeralOwner_r0 = w_ephemeralOwner_r1
                · refine Go.st (V' := T50.setTop (mkF m 108 #[.val (.ref r0), .val (.ref r1), .val (.ref r1)] [(.ref r0)])) (fun t k => ?_) ?_
                  · refine XS.ifNo X50.here hx rfl (hb hby own_d4_104) rfl ((if0 _ _).trans (teq ((lw_eq _ _).mpr hc51)).2) ?_
                    show Steps p.tables e below (T50.setTop (mkF m 107 #[.val (.ref r0), .val (.ref r1), .val (.ref r1)] [])) _
                    refine XS.aloadN X50.here hx rfl (hb hby own_d4_107) rfl rfl ?_
                    show Steps p.tables e below (T50.setTop (mkF m 108 #[.val (.ref r0), .val (.ref r1), .val (.ref r1)] [(.ref r0)])) _
                    exact k
                  obtain ⟨T52, X52, e52, st52⟩ := getF X50 hx hZ hown (host := "") (Or.inl (hw _ (List.mem_of_getElem? (i := 31) rfl))) Via.refl e50 F_dataLength_r0 (g := (mkF m 108 #[.val (.ref r0), .val (.ref r1), .val (.ref r1)] [(.ref r0)])) rfl rfl (hb hby own_d4_108)
                  refine Go.st (V' := T52.setTop (mkF m 111 #[.val (.ref r0), .val (.ref r1), .val (.ref r1)] [(.int w_dataLength_r0)])) (fun t k => st52 t k) ?_
                  refine Go.st (V' := T52.setTop (mkF m 112 #[.val (.ref r0), .val (.ref r1), .val (.ref r1)] [(.ref r1), (.int w_dataLength_r0)])) (fun t k => ?_) ?_
                  · refine XS.aloadN X52.here hx rfl (hb hby own_d4_111) rfl rfl ?_
                    show Steps p.tables e below (T52.setTop (mkF m 112 #[.val (.ref r0), .val (.ref r1), .val (.ref r1)] [(.ref r1), (.int w_dataLength_r0)])) _
                    exact k
                  obtain ⟨T53, X53, e53, st53⟩ := getF X52 hx hZ hown (host := "") (Or.inl (hw _ (List.mem_of_getElem? (i := 31) rfl))) Via.refl e52 F_dataLength_r1 (g := (mkF m 112 #[.val (.ref r0), .val (.ref r1), .val (.ref r1)] [(.ref r1), (.int w_dataLength_r0)])) rfl rfl (hb hby own_d4_112)
                  refine Go.st (V' := T53.setTop (mkF m 115 #[.val (.ref r0), .val (.ref r1), .val (.ref r1)] [(.int w_dataLength_r1), (.int w_dataLength_r0)])) (fun t k => st53 t k) ?_
                  by_cases hc54 : w_dataLength_r0 = w_dataLength_r1
                  · refine Go.st (V' := T53.setTop (mkF m 119 #[.val (.ref r0), .val (.ref r1), .val (.ref r1)] [(.ref r0)])) (fun t k => ?_) ?_
                    · refine XS.icmpNo X53.here hx rfl (hb hby own_d4_115) rfl (teq hc54).2 ?_
                      show Steps p.tables e below (T53.setTop (mkF m 118 #[.val (.ref r0), .val (.ref r1), .val (.ref r1)] [])) _
                      refine XS.aloadN X53.here hx rfl (hb hby own_d4_118) rfl rfl ?_
                      show Steps p.tables e below (T53.setTop (mkF m 119 #[.val (.ref r0), .val (.ref r1), .val (.ref r1)] [(.ref r0)])) _
                      exact k
                    obtain ⟨T55, X55, e55, st55⟩ := getF X53 hx hZ hown (host := "") (Or.inl (hw _ (List.mem_of_getElem? (i := 33) rfl))) Via.refl e53 F_numChildren_r0 (g := (mkF m 119 #[.val (.ref r0), .val (.ref r1), .val (.ref r1)] [(.ref r0)])) rfl rfl (hb hby own_d4_119)
                    refine Go.st (V' := T55.setTop (mkF m 122 #[.val (.ref r0), .val (.ref r1), .val (.ref r1)] [(.int w_numChildren_r0)])) (fun t k => st55 t k) ?_
                    refine Go.st (V' := T55.setTop (mkF m 123 #[.val (.ref r0), .val (.ref r1), .val (.ref r1)] [(.ref r1), (.int w_numChildren_r0)])) (fun t k => ?_) ?_
                    · refine XS.aloadN X55.here hx rfl (hb hby own_d4_122) rfl rfl ?_
                      show Steps p.tables e below (T55.setTop (mkF m 123 #[.val (.ref r0), .val (.ref r1), .val (.ref r1)] [(.ref r1), (.int w_numChildren_r0)])) _
                      exact k
                    obtain ⟨T56, X56, e56, st56⟩ := getF X55 hx hZ hown (host := "") (Or.inl (hw _ (List.mem_of_getElem? (i := 33) rfl))) Via.refl e55 F_numChildren_r1 (g := (mkF m 123 #[.val (.ref r0), .val (.ref r1), .val (.ref r1)] [(.ref r1), (.int w_numChildren_r0)])) rfl rfl (hb hby own_d4_123)
                    refine Go.st (V' := T56.setTop (mkF m 126 #[.val (.ref r0), .val (.ref r1), .val (.ref r1)] [(.int w_numChildren_r1), (.int w_numChildren_r0)])) (fun t k => st56 t k) ?_
                    by_cases hc57 : w_numChildren_r0 = w_numChildren_r1
                    · refine Go.st (V' := T56.setTop (mkF m 130 #[.val (.ref r0), .val (.ref r1), .val (.ref r1)] [(.ref r0)])) (fun t k => ?_) ?_
                      · refine XS.icmpNo X56.here hx rfl (hb hby own_d4_126) rfl (teq hc57).2 ?_
                        show Steps p.tables e below (T56.setTop (mkF m 129 #[.val (.ref r0), .val (.ref r1), .val (.ref r1)] [])) _
                        refine XS.aloadN X56.here hx rfl (hb hby own_d4_129) rfl rfl ?_
                        show Steps p.tables e below (T56.setTop (mkF m 130 #[.val (.ref r0), .val (.ref r1), .val (.ref r1)] [(.ref r0)])) _
                        exact k
                      obtain ⟨T58, X58, e58, st58⟩ := getF X56 hx hZ hown (host := "") (Or.inl (hw _ (List.mem_of_getElem? (i := 35) rfl))) Via.refl e56 F_pzxid_r0 (g := (mkF m 130 #[.val (.ref r0), .val (.ref r1), .val (.ref r1)] [(.ref r0)])) rfl rfl (hb hby own_d4_130)
                      refine Go.st (V' := T58.setTop (mkF m 133 #[.val (.ref r0), .val (.ref r1), .val (.ref r1)] [(.long w_pzxid_r0)])) (fun t k => st58 t k) ?_
                      refine Go.st (V' := T58.setTop (mkF m 134 #[.val (.ref r0), .val (.ref r1), .val (.ref r1)] [(.ref r1), (.long w_pzxid_r0)])) (fun t k => ?_) ?_
                      · refine XS.aloadN X58.here hx rfl (hb hby own_d4_133) rfl rfl ?_
                        show Steps p.tables e below (T58.setTop (mkF m 134 #[.val (.ref r0), .val (.ref r1), .val (.ref r1)] [(.ref r1), (.long w_pzxid_r0)])) _
                        exact k
                      obtain ⟨T59, X59, e59, st59⟩ := getF X58 hx hZ hown (host := "") (Or.inl (hw _ (List.mem_of_getElem? (i := 35) rfl))) Via.refl e58 F_pzxid_r1 (g := (mkF m 134 #[.val (.ref r0), .val (.ref r1), .val (.ref r1)] [(.ref r1), (.long w_pzxid_r0)])) rfl rfl (hb hby own_d4_134)
                      refine Go.st (V' := T59.setTop (mkF m 137 #[.val (.ref r0), .val (.ref r1), .val (.ref r1)] [(.long w_pzxid_r1), (.long w_pzxid_r0)])) (fun t k => st59 t k) ?_
                      refine Go.st (V' := T59.setTop (mkF m 138 #[.val (.ref r0), .val (.ref r1), .val (.ref r1)] [(.int (lcmpW w_pzxid_r0 w_pzxid_r1))])) (fun t k => ?_) ?_
                      · refine XS.lcmp X59.here hx rfl (hb hby own_d4_137) rfl ?_
                        show Steps p.tables e below (T59.setTop (mkF m 138 #[.val (.ref r0), .val (.ref r1), .val (.ref r1)] [(.int (lcmpW w_pzxid_r0 w_pzxid_r1))])) _
                        exact k
                      by_cases hc60 : w_pzxid_r0 = w_pzxid_r1
                      · refine Go.st (V' := T59.setTop (mkF m 146 #[.val (.ref r0), .val (.ref r1), .val (.ref r1)] [(.int (1 : Int32))])) (fun t k => ?_) ?_
                        · refine XS.ifNo X59.here hx rfl (hb hby own_d4_138) rfl ((if0 _ _).trans (teq ((lw_eq _ _).mpr hc60)).2) ?_
                          show Steps p.tables e below (T59.setTop (mkF m 141 #[.val (.ref r0), .val (.ref r1), .val (.ref r1)] [])) _
                          refine XS.iconst X59.here hx rfl (hb hby own_d4_141) ?_
                          show Steps p.tables e below (T59.setTop (mkF m 142 #[.val (.ref r0), .val (.ref r1), .val (.ref r1)] [(.int (1 : Int32))])) _
                          refine XS.goto X59.here hx rfl (pc0 := 142) (pc' := 146) rfl (hb hby own_d4_142) (by decide) (by decide) ?_
                          show Steps p.tables e below (T59.setTop (mkF m 146 #[.val (.ref r0), .val (.ref r1), .val (.ref r1)] [(.int (1 : Int32))])) _
                          exact k
                        obtain ⟨fs, hr, hrun, hended, hW, hsame⟩ := X59.leave (v := some (.int (1 : Int32))) (fun h => by rw [Bd.returns] at h; cases h)
                        refine Go.mk' ⟨_, _, retN X59 hx (t := .boolean) Bd.returns (by simp) (hb hby own_d4_146) hr, hrun, hended, _, _, rfl, ?_, ⟨_, rfl⟩, hW, hsame.mono (by decide) (by decide)⟩
                        show Q4 Z w_czxid_r0 w_czxid_r1 w_mzxid_r0 w_mzxid_r1 w_ctime_r0 w_ctime_r1 w_mtime_r0 w_mtime_r1 w_version_r0 w_version_r1 w_cversion_r0 w_cversion_r1 w_aversion_r0 w_aversion_r1 w_ephemeralOwner_r0 w_ephemeralOwner_r1 w_dataLength_r0 w_dataLength_r1 w_numChildren_r0 w_numChildren_r1 w_pzxid_r0 w_pzxid_r1 h0 n0 _ T59.heap _
                        rw [e59]
                        exact ⟨(by rw [f4, if_pos hc30, if_pos hc33, if_pos hc36, if_pos hc39, if_pos hc42, if_pos hc45, if_pos hc48, if_pos hc51, if_pos hc54, if_pos hc57, if_pos hc60]), N0, rfl⟩
                      · refine Go.st (V' := T59.setTop (mkF m 146 #[.val (.ref r0), .val (.ref r1), .val (.ref r1)] [(.int (0 : Int32))])) (fun t k => ?_) ?_
                        · refine XS.ifYes X59.here hx rfl (pc0 := 138) (pc' := 145) rfl (hb hby own_d4_138) rfl ((if0 _ _).trans (feq (fun q => hc60 ((lw_eq _ _).mp q))).2) (by decide) (by decide) ?_
                          show Steps p.tables e below (T59.setTop (mkF m 145 #[.val (.ref r0), .val (.ref r1), .val (.ref r1)] [])) _
                          refine XS.iconst X59.here hx rfl (hb hby own_d4_145) ?_
                          show Steps p.tables e below (T59.setTop (mkF m 146 #[.val (.ref r0), .val (.ref r1), .val (.ref r1)] [(.int (0 : Int32))])) _
                          exact k
                        obtain ⟨fs, hr, hrun, hended, hW, hsame⟩ := X59.leave (v := some (.int (0 : Int32))) (fun h => by rw [Bd.returns] at h; cases h)
                        refine Go.mk' ⟨_, _, retN X59 hx (t := .boolean) Bd.returns (by simp) (hb hby own_d4_146) hr, hrun, hended, _, _, rfl, ?_, ⟨_, rfl⟩, hW, hsame.mono (by decide) (by decide)⟩
                        show Q4 Z w_czxid_r0 w_czxid_r1 w_mzxid_r0 w_mzxid_r1 w_ctime_r0 w_ctime_r1 w_mtime_r0 w_mtime_r1 w_version_r0 w_version_r1 w_cversion_r0 w_cversion_r1 w_aversion_r0 w_aversion_r1 w_ephemeralOwner_r0 w_ephemeralOwner_r1 w_dataLength_r0 w_dataLength_r1 w_numChildren_r0 w_numChildren_r1 w_pzxid_r0 w_pzxid_r1 h0 n0 _ T59.heap _
                        rw [e59]
                        exact ⟨(by rw [f4, if_pos hc30, if_pos hc33, if_pos hc36, if_pos hc39, if_pos hc42, if_pos hc45, if_pos hc48, if_pos hc51, if_pos hc54, if_pos hc57, if_neg hc60]), N0, rfl⟩
                    · refine Go.st (V' := T56.setTop (mkF m 146 #[.val (.ref r0), .val (.ref r1), .val (.ref r1)] [(.int (0 : Int32))])) (fun t k => ?_) ?_
                      · refine XS.icmpYes X56.here hx rfl (pc0 := 126) (pc' := 145) rfl (hb hby own_d4_126) rfl (feq hc57).2 (by decide) (by decide) ?_
                        show Steps p.tables e below (T56.setTop (mkF m 145 #[.val (.ref r0), .val (.ref r1), .val (.ref r1)] [])) _
                        refine XS.iconst X56.here hx rfl (hb hby own_d4_145) ?_
                        show Steps p.tables e below (T56.setTop (mkF m 146 #[.val (.ref r0), .val (.ref r1), .val (.ref r1)] [(.int (0 : Int32))])) _
                        exact k
                      obtain ⟨fs, hr, hrun, hended, hW, hsame⟩ := X56.leave (v := some (.int (0 : Int32))) (fun h => by rw [Bd.returns] at h; cases h)
                      refine Go.mk' ⟨_, _, retN X56 hx (t := .boolean) Bd.returns (by simp) (hb hby own_d4_146) hr, hrun, hended, _, _, rfl, ?_, ⟨_, rfl⟩, hW, hsame.mono (by decide) (by decide)⟩
                      show Q4 Z w_czxid_r0 w_czxid_r1 w_mzxid_r0 w_mzxid_r1 w_ctime_r0 w_ctime_r1 w_mtime_r0 w_mtime_r1 w_version_r0 w_version_r1 w_cversion_r0 w_cversion_r1 w_aversion_r0 w_aversion_r1 w_ephemeralOwner_r0 w_ephemeralOwner_r1 w_dataLength_r0 w_dataLength_r1 w_numChildren_r0 w_numChildren_r1 w_pzxid_r0 w_pzxid_r1 h0 n0 _ T56.heap _
                      rw [e56]
                      exact ⟨(by rw [f4, if_pos hc30, if_pos hc33, if_pos hc36, if_pos hc39, if_pos hc42, if_pos hc45, if_pos hc48, if_pos hc51, if_pos hc54, if_neg hc57]), N0, rfl⟩
                  · refine Go.st (V' := T53.setTop (mkF m 146 #[.val (.ref r0), .val (.ref r1), .val (.ref r1)] [(.int (0 : Int32))])) (fun t k => ?_) ?_
                    · refine XS.icmpYes X53.here hx rfl (pc0 := 115) (pc' := 145) rfl (hb hby own_d4_115) rfl (feq hc54).2 (by decide) (by decide) ?_
                      show Steps p.tables e below (T53.setTop (mkF m 145 #[.val (.ref r0), .val (.ref r1), .val (.ref r1)] [])) _
                      refine XS.iconst X53.here hx rfl (hb hby own_d4_145) ?_
                      show Steps p.tables e below (T53.setTop (mkF m 146 #[.val (.ref r0), .val (.ref r1), .val (.ref r1)] [(.int (0 : Int32))])) _
                      exact k
                    obtain ⟨fs, hr, hrun, hended, hW, hsame⟩ := X53.leave (v := some (.int (0 : Int32))) (fun h => by rw [Bd.returns] at h; cases h)
                    refine Go.mk' ⟨_, _, retN X53 hx (t := .boolean) Bd.returns (by simp) (hb hby own_d4_146) hr, hrun, hended, _, _, rfl, ?_, ⟨_, rfl⟩, hW, hsame.mono (by decide) (by decide)⟩
                    show Q4 Z w_czxid_r0 w_czxid_r1 w_mzxid_r0 w_mzxid_r1 w_ctime_r0 w_ctime_r1 w_mtime_r0 w_mtime_r1 w_version_r0 w_version_r1 w_cversion_r0 w_cversion_r1 w_aversion_r0 w_aversion_r1 w_ephemeralOwner_r0 w_ephemeralOwner_r1 w_dataLength_r0 w_dataLength_r1 w_numChildren_r0 w_numChildren_r1 w_pzxid_r0 w_pzxid_r1 h0 n0 _ T53.heap _
                    rw [e53]
                    exact ⟨(by rw [f4, if_pos hc30, if_pos hc33, if_pos hc36, if_pos hc39, if_pos hc42, if_pos hc45, if_pos hc48, if_pos hc51, if_neg hc54]), N0, rfl⟩
                · refine Go.st (V' := T50.setTop (mkF m 146 #[.val (.ref r0), .val (.ref r1), .val (.ref r1)] [(.int (0 : Int32))])) (fun t k => ?_) ?_
                  · refine XS.ifYes X50.here hx rfl (pc0 := 104) (pc' := 145) rfl (hb hby own_d4_104) rfl ((if0 _ _).trans (feq (fun q => hc51 ((lw_eq _ _).mp q))).2) (by decide) (by decide) ?_
                    show Steps p.tables e below (T50.setTop (mkF m 145 #[.val (.ref r0), .val (.ref r1), .val (.ref r1)] [])) _
                    refine XS.iconst X50.here hx rfl (hb hby own_d4_145) ?_
                    show Steps p.tables e below (T50.setTop (mkF m 146 #[.val (.ref r0), .val (.ref r1), .val (.ref r1)] [(.int (0 : Int32))])) _
                    exact k
                  obtain ⟨fs, hr, hrun, hended, hW, hsame⟩ := X50.leave (v := some (.int (0 : Int32))) (fun h => by rw [Bd.returns] at h; cases h)
                  refine Go.mk' ⟨_, _, retN X50 hx (t := .boolean) Bd.returns (by simp) (hb hby own_d4_146) hr, hrun, hended, _, _, rfl, ?_, ⟨_, rfl⟩, hW, hsame.mono (by decide) (by decide)⟩
                  show Q4 Z w_czxid_r0 w_czxid_r1 w_mzxid_r0 w_mzxid_r1 w_ctime_r0 w_ctime_r1 w_mtime_r0 w_mtime_r1 w_version_r0 w_version_r1 w_cversion_r0 w_cversion_r1 w_aversion_r0 w_aversion_r1 w_ephemeralOwner_r0 w_ephemeralOwner_r1 w_dataLength_r0 w_dataLength_r1 w_numChildren_r0 w_numChildren_r1 w_pzxid_r0 w_pzxid_r1 h0 n0 _ T50.heap _
                  rw [e50]
                  exact ⟨(by rw [f4, if_pos hc30, if_pos hc33, if_pos hc36, if_pos hc39, if_pos hc42, if_pos hc45, if_pos hc48, if_neg hc51]), N0, rfl⟩
              · refine Go.st (V' := T47.setTop (mkF m 146 #[.val (.ref r0), .val (.ref r1), .val (.ref r1)] [(.int (0 : Int32))])) (fun t k => ?_) ?_
                · refine XS.icmpYes X47.here hx rfl (pc0 := 92) (pc' := 145) rfl (hb hby own_d4_92) rfl (feq hc48).2 (by decide) (by decide) ?_
                  show Steps p.tables e below (T47.setTop (mkF m 145 #[.val (.ref r0), .val (.ref r1), .val (.ref r1)] [])) _
                  refine XS.iconst X47.here hx rfl (hb hby own_d4_145) ?_
                  show Steps p.tables e below (T47.setTop (mkF m 146 #[.val (.ref r0), .val (.ref r1), .val (.ref r1)] [(.int (0 : Int32))])) _
                  exact k
                obtain ⟨fs, hr, hrun, hended, hW, hsame⟩ := X47.leave (v := some (.int (0 : Int32))) (fun h => by rw [Bd.returns] at h; cases h)
                refine Go.mk' ⟨_, _, retN X47 hx (t := .boolean) Bd.returns (by simp) (hb hby own_d4_146) hr, hrun, hended, _, _, rfl, ?_, ⟨_, rfl⟩, hW, hsame.mono (by decide) (by decide)⟩
                show Q4 Z w_czxid_r0 w_czxid_r1 w_mzxid_r0 w_mzxid_r1 w_ctime_r0 w_ctime_r1 w_mtime_r0 w_mtime_r1 w_version_r0 w_version_r1 w_cversion_r0 w_cversion_r1 w_aversion_r0 w_aversion_r1 w_ephemeralOwner_r0 w_ephemeralOwner_r1 w_dataLength_r0 w_dataLength_r1 w_numChildren_r0 w_numChildren_r1 w_pzxid_r0 w_pzxid_r1 h0 n0 _ T47.heap _
                rw [e47]
                exact ⟨(by rw [f4, if_pos hc30, if_pos hc33, if_pos hc36, if_pos hc39, if_pos hc42, if_pos hc45, if_neg hc48]), N0, rfl⟩
            · refine Go.st (V' := T44.setTop (mkF m 146 #[.val (.ref r0), .val (.ref r1), .val (.ref r1)] [(.int (0 : Int32))])) (fun t k => ?_) ?_
              · refine XS.icmpYes X44.here hx rfl (pc0 := 81) (pc' := 145) rfl (hb hby own_d4_81) rfl (feq hc45).2 (by decide) (by decide) ?_
                show Steps p.tables e below (T44.setTop (mkF m 145 #[.val (.ref r0), .val (.ref r1), .val (.ref r1)] [])) _
                refine XS.iconst X44.here hx rfl (hb hby own_d4_145) ?_
                show Steps p.tables e below (T44.setTop (mkF m 146 #[.val (.ref r0), .val (.ref r1), .val (.ref r1)] [(.int (0 : Int32))])) _
                exact k
              obtain ⟨fs, hr, hrun, hended, hW, hsame⟩ := X44.leave (v := some (.int (0 : Int32))) (fun h => by rw [Bd.returns] at h; cases h)
              refine Go.mk' ⟨_, _, retN X44 hx (t := .boolean) Bd.returns (by simp) (hb hby own_d4_146) hr, hrun, hended, _, _, rfl, ?_, ⟨_, rfl⟩, hW, hsame.mono (by decide) (by decide)⟩
              show Q4 Z w_czxid_r0 w_czxid_r1 w_mzxid_r0 w_mzxid_r1 w_ctime_r0 w_ctime_r1 w_mtime_r0 w_mtime_r1 w_version_r0 w_version_r1 w_cversion_r0 w_cversion_r1 w_aversion_r0 w_aversion_r1 w_ephemeralOwner_r0 w_ephemeralOwner_r1 w_dataLength_r0 w_dataLength_r1 w_numChildren_r0 w_numChildren_r1 w_pzxid_r0 w_pzxid_r1 h0 n0 _ T44.heap _
              rw [e44]
              exact ⟨(by rw [f4, if_pos hc30, if_pos hc33, if_pos hc36, if_pos hc39, if_pos hc42, if_neg hc45]), N0, rfl⟩
          · refine Go.st (V' := T41.setTop (mkF m 146 #[.val (.ref r0), .val (.ref r1), .val (.ref r1)] [(.int (0 : Int32))])) (fun t k => ?_) ?_
            · refine XS.icmpYes X41.here hx rfl (pc0 := 70) (pc' := 145) rfl (hb hby own_d4_70) rfl (feq hc42).2 (by decide) (by decide) ?_
              show Steps p.tables e below (T41.setTop (mkF m 145 #[.val (.ref r0), .val (.ref r1), .val (.ref r1)] [])) _
              refine XS.iconst X41.here hx rfl (hb hby own_d4_145) ?_
              show Steps p.tables e below (T41.setTop (mkF m 146 #[.val (.ref r0), .val (.ref r1), .val (.ref r1)] [(.int (0 : Int32))])) _
              exact k
            obtain ⟨fs, hr, hrun, hended, hW, hsame⟩ := X41.leave (v := some (.int (0 : Int32))) (fun h => by rw [Bd.returns] at h; cases h)
            refine Go.mk' ⟨_, _, retN X41 hx (t := .boolean) Bd.returns (by simp) (hb hby own_d4_146) hr, hrun, hended, _, _, rfl, ?_, ⟨_, rfl⟩, hW, hsame.mono (by decide) (by decide)⟩
            show Q4 Z w_czxid_r0 w_czxid_r1 w_mzxid_r0 w_mzxid_r1 w_ctime_r0 w_ctime_r1 w_mtime_r0 w_mtime_r1 w_version_r0 w_version_r1 w_cversion_r0 w_cversion_r1 w_aversion_r0 w_aversion_r1 w_ephemeralOwner_r0 w_ephemeralOwner_r1 w_dataLength_r0 w_dataLength_r1 w_numChildren_r0 w_numChildren_r1 w_pzxid_r0 w_pzxid_r1 h0 n0 _ T41.heap _
            rw [e41]
            exact ⟨(by rw [f4, if_pos hc30, if_pos hc33, if_pos hc36, if_pos hc39, if_neg hc42]), N0, rfl⟩
        · refine Go.st (V' := T38.setTop (mkF m 146 #[.val (.ref r0), .val (.ref r1), .val (.ref r1)] [(.int (0 : Int32))])) (fun t k => ?_) ?_
          · refine XS.ifYes X38.here hx rfl (pc0 := 59) (pc' := 145) rfl (hb hby own_d4_59) rfl ((if0 _ _).trans (feq (fun q => hc39 ((lw_eq _ _).mp q))).2) (by decide) (by decide) ?_
            show Steps p.tables e below (T38.setTop (mkF m 145 #[.val (.ref r0), .val (.ref r1), .val (.ref r1)] [])) _
            refine XS.iconst X38.here hx rfl (hb hby own_d4_145) ?_
            show Steps p.tables e below (T38.setTop (mkF m 146 #[.val (.ref r0), .val (.ref r1), .val (.ref r1)] [(.int (0 : Int32))])) _
            exact k
          obtain ⟨fs, hr, hrun, hended, hW, hsame⟩ := X38.leave (v := some (.int (0 : Int32))) (fun h => by rw [Bd.returns] at h; cases h)
          refine Go.mk' ⟨_, _, retN X38 hx (t := .boolean) Bd.returns (by simp) (hb hby own_d4_146) hr, hrun, hended, _, _, rfl, ?_, ⟨_, rfl⟩, hW, hsame.mono (by decide) (by decide)⟩
          show Q4 Z w_czxid_r0 w_czxid_r1 w_mzxid_r0 w_mzxid_r1 w_ctime_r0 w_ctime_r1 w_mtime_r0 w_mtime_r1 w_version_r0 w_version_r1 w_cversion_r0 w_cversion_r1 w_aversion_r0 w_aversion_r1 w_ephemeralOwner_r0 w_ephemeralOwner_r1 w_dataLength_r0 w_dataLength_r1 w_numChildren_r0 w_numChildren_r1 w_pzxid_r0 w_pzxid_r1 h0 n0 _ T38.heap _
          rw [e38]
          exact ⟨(by rw [f4, if_pos hc30, if_pos hc33, if_pos hc36, if_neg hc39]), N0, rfl⟩
      · refine Go.st (V' := T35.setTop (mkF m 146 #[.val (.ref r0), .val (.ref r1), .val (.ref r1)] [(.int (0 : Int32))])) (fun t k => ?_) ?_
        · refine XS.ifYes X35.here hx rfl (pc0 := 47) (pc' := 145) rfl (hb hby own_d4_47) rfl ((if0 _ _).trans (feq (fun q => hc36 ((lw_eq _ _).mp q))).2) (by decide) (by decide) ?_
          show Steps p.tables e below (T35.setTop (mkF m 145 #[.val (.ref r0), .val (.ref r1), .val (.ref r1)] [])) _
          refine XS.iconst X35.here hx rfl (hb hby own_d4_145) ?_
          show Steps p.tables e below (T35.setTop (mkF m 146 #[.val (.ref r0), .val (.ref r1), .val (.ref r1)] [(.int (0 : Int32))])) _
          exact k
        obtain ⟨fs, hr, hrun, hended, hW, hsame⟩ := X35.leave (v := some (.int (0 : Int32))) (fun h => by rw [Bd.returns] at h; cases h)
        refine Go.mk' ⟨_, _, retN X35 hx (t := .boolean) Bd.returns (by simp) (hb hby own_d4_146) hr, hrun, hended, _, _, rfl, ?_, ⟨_, rfl⟩, hW, hsame.mono (by decide) (by decide)⟩
        show Q4 Z w_czxid_r0 w_czxid_r1 w_mzxid_r0 w_mzxid_r1 w_ctime_r0 w_ctime_r1 w_mtime_r0 w_mtime_r1 w_version_r0 w_version_r1 w_cversion_r0 w_cversion_r1 w_aversion_r0 w_aversion_r1 w_ephemeralOwner_r0 w_ephemeralOwner_r1 w_dataLength_r0 w_dataLength_r1 w_numChildren_r0 w_numChildren_r1 w_pzxid_r0 w_pzxid_r1 h0 n0 _ T35.heap _
        rw [e35]
        exact ⟨(by rw [f4, if_pos hc30, if_pos hc33, if_neg hc36]), N0, rfl⟩
    · refine Go.st (V' := T32.setTop (mkF m 146 #[.val (.ref r0), .val (.ref r1), .val (.ref r1)] [(.int (0 : Int32))])) (fun t k => ?_) ?_
      · refine XS.ifYes X32.here hx rfl (pc0 := 35) (pc' := 145) rfl (hb hby own_d4_35) rfl ((if0 _ _).trans (feq (fun q => hc33 ((lw_eq _ _).mp q))).2) (by decide) (by decide) ?_
        show Steps p.tables e below (T32.setTop (mkF m 145 #[.val (.ref r0), .val (.ref r1), .val (.ref r1)] [])) _
        refine XS.iconst X32.here hx rfl (hb hby own_d4_145) ?_
        show Steps p.tables e below (T32.setTop (mkF m 146 #[.val (.ref r0), .val (.ref r1), .val (.ref r1)] [(.int (0 : Int32))])) _
        exact k
      obtain ⟨fs, hr, hrun, hended, hW, hsame⟩ := X32.leave (v := some (.int (0 : Int32))) (fun h => by rw [Bd.returns] at h; cases h)
      refine Go.mk' ⟨_, _, retN X32 hx (t := .boolean) Bd.returns (by simp) (hb hby own_d4_146) hr, hrun, hended, _, _, rfl, ?_, ⟨_, rfl⟩, hW, hsame.mono (by decide) (by decide)⟩
      show Q4 Z w_czxid_r0 w_czxid_r1 w_mzxid_r0 w_mzxid_r1 w_ctime_r0 w_ctime_r1 w_mtime_r0 w_mtime_r1 w_version_r0 w_version_r1 w_cversion_r0 w_cversion_r1 w_aversion_r0 w_aversion_r1 w_ephemeralOwner_r0 w_ephemeralOwner_r1 w_dataLength_r0 w_dataLength_r1 w_numChildren_r0 w_numChildren_r1 w_pzxid_r0 w_pzxid_r1 h0 n0 _ T32.heap _
      rw [e32]
      exact ⟨(by rw [f4, if_pos hc30, if_neg hc33]), N0, rfl⟩
  · refine Go.st (V' := T29.setTop (mkF m 146 #[.val (.ref r0), .val (.ref r1), .val (.ref r1)] [(.int (0 : Int32))])) (fun t k => ?_) ?_
    · refine XS.ifYes X29.here hx rfl (pc0 := 23) (pc' := 145) rfl (hb hby own_d4_23) rfl ((if0 _ _).trans (feq (fun q => hc30 ((lw_eq _ _).mp q))).2) (by decide) (by decide) ?_
      show Steps p.tables e below (T29.setTop (mkF m 145 #[.val (.ref r0), .val (.ref r1), .val (.ref r1)] [])) _
      refine XS.iconst X29.here hx rfl (hb hby own_d4_145) ?_
      show Steps p.tables e below (T29.setTop (mkF m 146 #[.val (.ref r0), .val (.ref r1), .val (.ref r1)] [(.int (0 : Int32))])) _
      exact k
    obtain ⟨fs, hr, hrun, hended, hW, hsame⟩ := X29.leave (v := some (.int (0 : Int32))) (fun h => by rw [Bd.returns] at h; cases h)
    refine Go.mk' ⟨_, _, retN X29 hx (t := .boolean) Bd.returns (by simp) (hb hby own_d4_146) hr, hrun, hended, _, _, rfl, ?_, ⟨_, rfl⟩, hW, hsame.mono (by decide) (by decide)⟩
    show Q4 Z w_czxid_r0 w_czxid_r1 w_mzxid_r0 w_mzxid_r1 w_ctime_r0 w_ctime_r1 w_mtime_r0 w_mtime_r1 w_version_r0 w_version_r1 w_cversion_r0 w_cversion_r1 w_aversion_r0 w_aversion_r1 w_ephemeralOwner_r0 w_ephemeralOwner_r1 w_dataLength_r0 w_dataLength_r1 w_numChildren_r0 w_numChildren_r1 w_pzxid_r0 w_pzxid_r1 h0 n0 _ T29.heap _
    rw [e29]
    exact ⟨(by rw [f4, if_neg hc30]), N0, rfl⟩
theorem own_d4_7 : decode prog_57_method_14_code 7 = .ok (.iconst 0, 1) := by decide +kernel
theorem own_d4_8 : decode prog_57_method_14_code 8 = .ok (.ireturn, 1) := by decide +kernel
theorem ef4n (m : MethodId) (r0 : Addr) : entryFrame m #[(.ref r0), .null] 3 = mkF m 0 #[.val (.ref r0), .val .null, .unset] [] := by first | (simp [entryFrame, mkF, argsToLocals, Value.category]; done) | rfl
def Q4n (Z : State) (h0 : Heap) (n0 : Nat) (v : Option Value) (h : Heap) (L : List Loc) : Prop := v = some (.int (0 : Int32)) ∧ Fr n0 L ∧ h = h0
set_option maxRecDepth 65536 in
set_option maxHeartbeats 40000000 in
theorem rm4n (l : Launch) (Z : State) (a0 : Array Value) (hw : ∀ d ∈ tables_1, d.before a0 Z = true) (ws : List Jvm.Cond) (s_icache : Addr) (cl_icache : Cell) (HW : W0 Z s_icache cl_icache) (r0 : Addr) (h0 : Heap) (n0 : Nat) (O0 : Old Z n0 h0) :
    MetFree l (⟨"com/example/numtick/numtick/protocol/Stat", "equals", "(Ljava/lang/Object;)Z"⟩ : MethodName) (head1 (Jvm.Cond.code (⟨"com/example/numtick/numtick/protocol/Stat", "equals", "(Ljava/lang/Object;)Z"⟩ : MethodName) prog_57_method_14_code 3 (some .boolean) :: ws) ({ frames := 0, cells := 0, slots := 0, locals := 0 } : Room)) (fun a U => a = #[(.ref r0), .null] ∧ Z.Warmed39 U.vm ∧ U.heap = h0) (fun _ _ _ _ _ => True) (fun _ U o U' => ∃ v L, o = .returned v ∧ Q4n Z h0 n0 v U'.heap L ∧ FrameEnd U o U' L ({ frames := 0, cells := 0, slots := 0, locals := 0 } : Room).cells ({ frames := 0, cells := 0, slots := 0, locals := 0 } : Room).slots) := by
  refine MetFree.of_bodySF (plainFor_of_name own_pn0) hisR ?_
  intro p e s m args below meth c s₁ Bd hml0 hP hK
  obtain ⟨rfl, hZ, hh⟩ := hP
  obtain ⟨S_ihigh, B_icache, S_icache⟩ := id HW
  have hx := Bd.exec
  have hby := Bd.bytes
  have hml : c.maxLocals = 3 := hml0
  have hown : s.vm.findClass "com/example/numtick/numtick/protocol/Stat" = some m.cls := findClass_of_methodNamed Bd.named
  have hnm := (name_of_methodNamed Bd.named Bd.method).1
  have X0 : Stand p l e ({ frames := 0, cells := 0, slots := 0, locals := 0 } : Room) s m #[(.ref r0), .null] below meth c s₁ [] 0 0 := Stand.of_body Bd
  have e0 : s₁.heap = h0 := by rw [← hh, Bd.state]; rfl
  have N0 := Fr.nil n0
  have K0 := Keep.refl h0 []
  refine Go.out ?_
  refine Go.st (V' := s₁.setTop (mkF m 0 #[.val (.ref r0), .val .null, .unset] [])) (fun t k => castTop (ef4n m r0) k) ?_
  refine Go.st (V' := s₁.setTop (mkF m 8 #[.val (.ref r0), .val .null, .unset] [(.int (0 : Int32))])) (fun t k => ?_) ?_
  · refine XS.aloadN X0.here hx rfl (hb hby own_d4_0) rfl rfl ?_
    show Steps p.tables e below (s₁.setTop (mkF m 1 #[.val (.ref r0), .val .null, .unset] [.null])) _
    refine X0.instanceofNull hx (g := (mkF m 1 #[.val (.ref r0), .val .null, .unset] [.null])) rfl rfl (hb hby own_d4_1) _ ?_
    show Steps p.tables e below (s₁.setTop (mkF m 4 #[.val (.ref r0), .val .null, .unset] [(.int (0 : Int32))])) _
    refine XS.ifNo X0.here hx rfl (hb hby own_d4_4) rfl ((if0 _ _).trans (teq (by decide : ((0 : Int32) = (0 : Int32)))).2) ?_
    show Steps p.tables e below (s₁.setTop (mkF m 7 #[.val (.ref r0), .val .null, .unset] [])) _
    refine XS.iconst X0.here hx rfl (hb hby own_d4_7) ?_
    show Steps p.tables e below (s₁.setTop (mkF m 8 #[.val (.ref r0), .val .null, .unset] [(.int (0 : Int32))])) _
    exact k
  obtain ⟨fs, hr, hrun, hended, hW, hsame⟩ := X0.leave (v := some (.int (0 : Int32))) (fun h => by rw [Bd.returns] at h; cases h)
  refine Go.mk' ⟨_, _, retN X0 hx (t := .boolean) Bd.returns (by simp) (hb hby own_d4_8) hr, hrun, hended, _, _, rfl, ?_, ⟨_, rfl⟩, hW, hsame.mono (by decide) (by decide)⟩
  show Q4n Z h0 n0 _ s₁.heap _
  rw [e0]
  exact ⟨rfl, N0, rfl⟩
theorem ef4o (m : MethodId) (r0 : Addr) (r1 : Addr) : entryFrame m #[(.ref r0), (.ref r1)] 3 = mkF m 0 #[.val (.ref r0), .val (.ref r1), .unset] [] := by first | (simp [entryFrame, mkF, argsToLocals, Value.category]; done) | rfl
def Q4o (Z : State) (h0 : Heap) (n0 : Nat) (v : Option Value) (h : Heap) (L : List Loc) : Prop := v = some (.int (0 : Int32)) ∧ Fr n0 L ∧ h = h0
set_option maxRecDepth 65536 in
set_option maxHeartbeats 40000000 in
theorem rm4o (l : Launch) (Z : State) (a0 : Array Value) (hw : ∀ d ∈ tables_1, d.before a0 Z = true) (ws : List Jvm.Cond) (s_icache : Addr) (cl_icache : Cell) (HW : W0 Z s_icache cl_icache) (r0 : Addr) (r1 : Addr) (h0 : Heap) (n0 : Nat) (O0 : Old Z n0 h0) (E_r1 : Exa Z h0 r1 "java/lang/Integer") :
    MetFree l (⟨"com/example/numtick/numtick/protocol/Stat", "equals", "(Ljava/lang/Object;)Z"⟩ : MethodName) (head1 (Jvm.Cond.code (⟨"com/example/numtick/numtick/protocol/Stat", "equals", "(Ljava/lang/Object;)Z"⟩ : MethodName) prog_57_method_14_code 3 (some .boolean) :: ws) ({ frames := 0, cells := 0, slots := 0, locals := 0 } : Room)) (fun a U => a = #[(.ref r0), (.ref r1)] ∧ Z.Warmed39 U.vm ∧ U.heap = h0) (fun _ _ _ _ _ => True) (fun _ U o U' => ∃ v L, o = .returned v ∧ Q4o Z h0 n0 v U'.heap L ∧ FrameEnd U o U' L ({ frames := 0, cells := 0, slots := 0, locals := 0 } : Room).cells ({ frames := 0, cells := 0, slots := 0, locals := 0 } : Room).slots) := by
  refine MetFree.of_bodySF (plainFor_of_name own_pn0) hisR ?_
  intro p e s m args below meth c s₁ Bd hml0 hP hK
  obtain ⟨rfl, hZ, hh⟩ := hP
  obtain ⟨S_ihigh, B_icache, S_icache⟩ := id HW
  have hx := Bd.exec
  have hby := Bd.bytes
  have hml : c.maxLocals = 3 := hml0
  have hown : s.vm.findClass "com/example/numtick/numtick/protocol/Stat" = some m.cls := findClass_of_methodNamed Bd.named
  have hnm := (name_of_methodNamed Bd.named Bd.method).1
  have X0 : Stand p l e ({ frames := 0, cells := 0, slots := 0, locals := 0 } : Room) s m #[(.ref r0), (.ref r1)] below meth c s₁ [] 0 0 := Stand.of_body Bd
  have e0 : s₁.heap = h0 := by rw [← hh, Bd.state]; rfl
  have N0 := Fr.nil n0
  have K0 := Keep.refl h0 []
  refine Go.out ?_
  refine Go.st (V' := s₁.setTop (mkF m 0 #[.val (.ref r0), .val (.ref r1), .unset] [])) (fun t k => castTop (ef4o m r0 r1) k) ?_
  refine Go.st (V' := s₁.setTop (mkF m 1 #[.val (.ref r0), .val (.ref r1), .unset] [(.ref r1)])) (fun t k => ?_) ?_
  · refine XS.aloadN X0.here hx rfl (hb hby own_d4_0) rfl rfl ?_
    show Steps p.tables e below (s₁.setTop (mkF m 1 #[.val (.ref r0), .val (.ref r1), .unset] [(.ref r1)])) _
    exact k
  obtain ⟨T61, X61, e61, st61⟩ := instNo X0 hx hZ hown (hw _ (List.mem_of_getElem? (i := 42) rfl)) e0 E_r1 (own_ns_no (hw _ (List.mem_of_getElem? (i := 51) rfl)) (hw _ (List.mem_of_getElem? (i := 6) rfl)) (NS.step (hw _ (List.mem_of_getElem? (i := 51) rfl)) (NS.step (hw _ (List.mem_of_getElem? (i := 52) rfl)) (own_ns_root (hw _ (List.mem_of_getElem? (i := 53) rfl)) (hw _ (List.mem_of_getElem? (i := 6) rfl)) (by decide)) (by decide)) (by decide)) (by decide)) (g := (mkF m 1 #[.val (.ref r0), .val (.ref r1), .unset] [(.ref r1)])) rfl rfl (hb hby own_d4_1)
  refine Go.st (V' := T61.setTop (mkF m 4 #[.val (.ref r0), .val (.ref r1), .unset] [(.int (0 : Int32))])) (fun t k => st61 t k) ?_
  refine Go.st (V' := T61.setTop (mkF m 8 #[.val (.ref r0), .val (.ref r1), .unset] [(.int (0 : Int32))])) (fun t k => ?_) ?_
  · refine XS.ifNo X61.here hx rfl (hb hby own_d4_4) rfl ((if0 _ _).trans (teq (by decide : ((0 : Int32) = (0 : Int32)))).2) ?_
    show Steps p.tables e below (T61.setTop (mkF m 7 #[.val (.ref r0), .val (.ref r1), .unset] [])) _
    refine XS.iconst X61.here hx rfl (hb hby own_d4_7) ?_
    show Steps p.tables e below (T61.setTop (mkF m 8 #[.val (.ref r0), .val (.ref r1), .unset] [(.int (0 : Int32))])) _
    exact k
  obtain ⟨fs, hr, hrun, hended, hW, hsame⟩ := X61.leave (v := some (.int (0 : Int32))) (fun h => by rw [Bd.returns] at h; cases h)
  refine Go.mk' ⟨_, _, retN X61 hx (t := .boolean) Bd.returns (by simp) (hb hby own_d4_8) hr, hrun, hended, _, _, rfl, ?_, ⟨_, rfl⟩, hW, hsame.mono (by decide) (by decide)⟩
  show Q4o Z h0 n0 _ T61.heap _
  rw [e61]
  exact ⟨rfl, N0, rfl⟩
theorem own_d7_0 : decode jdk_18_method_1_code 0 = .ok (.aload_n 0, 1) := by decide +kernel
theorem own_d7_1 : decode jdk_18_method_1_code 1 = .ok (.invokespecial 1, 3) := by decide +kernel
theorem own_d7_4 : decode jdk_18_method_1_code 4 = .ok (.return_, 1) := by decide +kernel
theorem own_pn2 : plainName "java/lang/Number" = true := by first | (simp [plainName, overriddenIn]; done) | decide +kernel
theorem ef7 (m : MethodId) (r0 : Addr) : entryFrame m #[(.ref r0)] 1 = mkF m 0 #[.val (.ref r0)] [] := by first | (simp [entryFrame, mkF, argsToLocals, Value.category]; done) | rfl
def Q7 (Z : State) (s_icache : Addr) (cl_icache : Cell) (r0 : Addr) (h0 : Heap) (n0 : Nat) (v : Option Value) (h : Heap) (L : List Loc) : Prop := v = none ∧ Fr n0 L ∧ Keep h0 h []
set_option maxRecDepth 65536 in
set_option maxHeartbeats 40000000 in
theorem rm7 (l : Launch) (Z : State) (a0 : Array Value) (hw : ∀ d ∈ tables_1, d.before a0 Z = true) (ws : List Jvm.Cond) (s_icache : Addr) (cl_icache : Cell) (HW : W0 Z s_icache cl_icache) (r0 : Addr) (h0 : Heap) (n0 : Nat) (O0 : Old Z n0 h0) :
    MetFree l (⟨"java/lang/Number", "<init>", "()V"⟩ : MethodName) (head1 (Jvm.Cond.code (⟨"java/lang/Number", "<init>", "()V"⟩ : MethodName) jdk_18_method_1_code 1 none :: ws) ({ frames := 1, cells := 0, slots := 0, locals := 12 } : Room)) (fun a U => a = #[(.ref r0)] ∧ Z.Warmed39 U.vm ∧ U.heap = h0) (fun _ _ _ _ _ => True) (fun _ U o U' => ∃ v L, o = .returned v ∧ Q7 Z s_icache cl_icache r0 h0 n0 v U'.heap L ∧ FrameEnd U o U' L ({ frames := 1, cells := 0, slots := 0, locals := 12 } : Room).cells ({ frames := 1, cells := 0, slots := 0, locals := 12 } : Room).slots) := by
  refine MetFree.of_bodySF (plainFor_of_name own_pn2) hisR ?_
  intro p e s m args below meth c s₁ Bd hml0 hP hK
  obtain ⟨rfl, hZ, hh⟩ := hP
  obtain ⟨S_ihigh, B_icache, S_icache⟩ := id HW
  have hx := Bd.exec
  have hby := Bd.bytes
  have hml : c.maxLocals = 1 := hml0
  have hown : s.vm.findClass "java/lang/Number" = some m.cls := findClass_of_methodNamed Bd.named
  have hnm := (name_of_methodNamed Bd.named Bd.method).1
  have X0 : Stand p l e ({ frames := 1, cells := 0, slots := 0, locals := 12 } : Room) s m #[(.ref r0)] below meth c s₁ [] 0 0 := Stand.of_body Bd
  have e0 : s₁.heap = h0 := by rw [← hh, Bd.state]; rfl
  have N0 := Fr.nil n0
  have K0 := Keep.refl h0 []
  refine Go.out ?_
  refine Go.st (V' := s₁.setTop (mkF m 0 #[.val (.ref r0)] [])) (fun t k => castTop (ef7 m r0) k) ?_
  refine Go.st (V' := s₁.setTop (mkF m 1 #[.val (.ref r0)] [(.ref r0)])) (fun t k => ?_) ?_
  · refine XS.aloadN X0.here hx rfl (hb hby own_d7_0) rfl rfl ?_
    show Steps p.tables e below (s₁.setTop (mkF m 1 #[.val (.ref r0)] [(.ref r0)])) _
    exact k
  obtain ⟨T62, X62, e62, st62⟩ := initO X0 hx hZ hown (hw _ (List.mem_of_getElem? (i := 66) rfl)) (hw _ (List.mem_of_getElem? (i := 13) rfl)) (hw _ (List.mem_of_getElem? (i := 14) rfl)) e0 (g := (mkF m 1 #[.val (.ref r0)] [(.ref r0)])) rfl (by rw [hml]; rfl) rfl (hb hby own_d7_1) (by decide) (W := 0) (by show 2 * 0 + _ ≤ _; exact Nat.le_of_eq rfl) (by decide)
  refine Go.st (V' := T62.setTop (mkF m 4 #[.val (.ref r0)] [])) (fun t k => st62 t k) ?_
  obtain ⟨fs, hr, hrun, hended, hW, hsame⟩ := X62.leave (v := none) (fun _ => rfl)
  refine Go.mk' ⟨_, _, X62.returnOut hx Bd.returns (hb hby own_d7_4) hr, hrun, hended, _, _, rfl, ?_, ⟨_, rfl⟩, hW, hsame.mono (by decide) (by decide)⟩
  show Q7 Z s_icache cl_icache r0 h0 n0 _ T62.heap _
  rw [e62]
  exact ⟨rfl, N0, K0⟩
theorem own_d6_0 : decode jdk_33_method_23_code 0 = .ok (.aload_n 0, 1) := by decide +kernel
theorem own_d6_1 : decode jdk_33_method_23_code 1 = .ok (.invokespecial 202, 3) := by decide +kernel
theorem own_pd223 : parseMethodDescriptor "()V" = some ⟨[], none⟩ := by decide +kernel
theorem own_d6_4 : decode jdk_33_method_23_code 4 = .ok (.aload_n 0, 1) := by decide +kernel
theorem own_d6_5 : decode jdk_33_method_23_code 5 = .ok (.iload_n 1, 1) := by decide +kernel
theorem own_d6_6 : decode jdk_33_method_23_code 6 = .ok (.putfield 205, 3) := by decide +kernel
theorem own_d6_9 : decode jdk_33_method_23_code 9 = .ok (.return_, 1) := by decide +kernel
theorem own_pn3 : plainName "java/lang/Integer" = true := by first | (simp [plainName, overriddenIn]; done) | decide +kernel
theorem ef6 (m : MethodId) (r0 : Addr) (p1 : Int32) : entryFrame m #[(.ref r0), (.int p1)] 2 = mkF m 0 #[.val (.ref r0), .val (.int p1)] [] := by first | (simp [entryFrame, mkF, argsToLocals, Value.category]; done) | rfl
def Q6 (Z : State) (s_icache : Addr) (cl_icache : Cell) (r0 : Addr) (p1 : Int32) (u_value_r0 : Value) (h0 : Heap) (n0 : Nat) (v : Option Value) (h : Heap) (L : List Loc) : Prop := v = none ∧ Fr n0 L ∧ Keep h0 h [r0] ∧ Fld Z h r0 "java/lang/Integer" "value" "I" (.int p1) ∧ Exa Z h r0 "java/lang/Integer"
set_option maxRecDepth 65536 in
set_option maxHeartbeats 40000000 in
theorem rm6 (l : Launch) (Z : State) (a0 : Array Value) (hw : ∀ d ∈ tables_1, d.before a0 Z = true) (ws : List Jvm.Cond) (s_icache : Addr) (cl_icache : Cell) (HW : W0 Z s_icache cl_icache) (r0 : Addr) (p1 : Int32) (u_value_r0 : Value) (h0 : Heap) (n0 : Nat) (O0 : Old Z n0 h0) (E_r0 : Exa Z h0 r0 "java/lang/Integer") (F_value_r0 : Fld Z h0 r0 "java/lang/Integer" "value" "I" u_value_r0) (g_r0 : n0 ≤ r0) :
    MetFree l (⟨"java/lang/Integer", "<init>", "(I)V"⟩ : MethodName) (head1 (Jvm.Cond.code (⟨"java/lang/Integer", "<init>", "(I)V"⟩ : MethodName) jdk_33_method_23_code 2 none :: ws) ({ frames := 2, cells := 0, slots := 0, locals := 24 } : Room)) (fun a U => a = #[(.ref r0), (.int p1)] ∧ Z.Warmed39 U.vm ∧ U.heap = h0) (fun _ _ _ _ _ => True) (fun _ U o U' => ∃ v L, o = .returned v ∧ Q6 Z s_icache cl_icache r0 p1 u_value_r0 h0 n0 v U'.heap L ∧ FrameEnd U o U' L ({ frames := 2, cells := 0, slots := 0, locals := 24 } : Room).cells ({ frames := 2, cells := 0, slots := 0, locals := 24 } : Room).slots) := by
  refine MetFree.of_bodySF (plainFor_of_name own_pn3) hisR ?_
  intro p e s m args below meth c s₁ Bd hml0 hP hK
  obtain ⟨rfl, hZ, hh⟩ := hP
  obtain ⟨S_ihigh, B_icache, S_icache⟩ := id HW
  have hx := Bd.exec
  have hby := Bd.bytes
  have hml : c.maxLocals = 2 := hml0
  have hown : s.vm.findClass "java/lang/Integer" = some m.cls := findClass_of_methodNamed Bd.named
  have hnm := (name_of_methodNamed Bd.named Bd.method).1
  have X0 : Stand p l e ({ frames := 2, cells := 0, slots := 0, locals := 24 } : Room) s m #[(.ref r0), (.int p1)] below meth c s₁ [] 0 0 := Stand.of_body Bd
  have e0 : s₁.heap = h0 := by rw [← hh, Bd.state]; rfl
  have N0 := Fr.nil n0
  have K0 := Keep.refl h0 [r0]
  refine Go.out ?_
  refine Go.st (V' := s₁.setTop (mkF m 0 #[.val (.ref r0), .val (.int p1)] [])) (fun t k => castTop (ef6 m r0 p1) k) ?_
  refine Go.st (V' := s₁.setTop (mkF m 1 #[.val (.ref r0), .val (.int p1)] [(.ref r0)])) (fun t k => ?_) ?_
  · refine XS.aloadN X0.here hx rfl (hb hby own_d6_0) rfl rfl ?_
    show Steps p.tables e below (s₁.setTop (mkF m 1 #[.val (.ref r0), .val (.int p1)] [(.ref r0)])) _
    exact k
  obtain ⟨_, _, ⟨T63, L63, k63, n63⟩, -, X63, ⟨Lc63, hQ63, l63, y63, z63⟩, st63⟩ := X0.specialBack hx (y := (⟨"java/lang/Number", "<init>", "()V"⟩ : MethodName)) rfl hown (mvT hZ (hw _ (List.mem_of_getElem? (i := 60) rfl))) (mvT hZ (hw _ (List.mem_of_getElem? (i := 61) rfl))) (mvT hZ (hw _ (List.mem_of_getElem? (i := 65) rfl))) (by decide) (backOf (W := 0) (rm7 l Z a0 hw [] s_icache cl_icache HW r0 h0 n0 O0) hZ (hw _ (List.mem_of_getElem? (i := 65) rfl)) (hw _ (List.mem_of_getElem? (i := 64) rfl)) (by decide) (by decide)) (g := (mkF m 1 #[.val (.ref r0), .val (.int p1)] [(.ref r0)])) rfl (by rw [hml]; rfl) (Steps.refl _) (a := r0) (argsL := []) (rest := []) (lenOf own_pd223 rfl) rfl (by show 2 * 0 + _ ≤ _; exact Nat.le_of_eq rfl) (hb hby own_d6_1) (fun _ _ => ⟨rfl, e0, (by decide : 0 + 0 ≤ _), (by decide : 0 + 0 ≤ _)⟩)
  dsimp only [Pt.U, Pt.locs, Pt.cells, Pt.slots] at X63 l63 y63 z63 st63 hQ63
  subst l63 y63 z63
  obtain ⟨rfl, N63q, K63⟩ := hQ63
  have N63 := Fr.app N0 N63q
  have O63 := O0.keep K63 all0
  have KA63 := K0.trans K63 all0
  refine Go.st (V' := T63.setTop (mkF m 4 #[.val (.ref r0), .val (.int p1)] [])) (fun t k => st63.trans k) ?_
  refine Go.st (V' := T63.setTop (mkF m 6 #[.val (.ref r0), .val (.int p1)] [(.int p1), (.ref r0)])) (fun t k => ?_) ?_
  · refine XS.aloadN X63.here hx rfl (hb hby own_d6_4) rfl rfl ?_
    show Steps p.tables e below (T63.setTop (mkF m 5 #[.val (.ref r0), .val (.int p1)] [(.ref r0)])) _
    refine XS.iloadN X63.here hx rfl (hb hby own_d6_5) rfl  ?_
    show Steps p.tables e below (T63.setTop (mkF m 6 #[.val (.ref r0), .val (.int p1)] [(.int p1), (.ref r0)])) _
    exact k
  obtain ⟨T64, h64, X64, e64, W64, st64⟩ := putF X63 hx hZ hown (host := "") (Or.inl (hw _ (List.mem_of_getElem? (i := 67) rfl))) Via.refl rfl (F_value_r0.keep K63 nin0) (E_r0.keep K63) (Or.inr ⟨(hw _ (List.mem_of_getElem? (i := 68) rfl)), rfl, hnm⟩) (hw _ (List.mem_of_getElem? (i := 55) rfl)) (ty := .int) (by decide) rfl rfl (g := (mkF m 6 #[.val (.ref r0), .val (.int p1)] [(.int p1), (.ref r0)])) rfl rfl (hb hby own_d6_6)
  have O64 := O63.wr W64 g_r0
  have F64 := (F_value_r0.keep K63 nin0).same W64
  have N64 := Fr.snoc X64 N63 g_r0
  have K64 := KA63.wr W64 (Or.inl (List.mem_of_getElem? (i := 0) rfl))
  refine Go.st (V' := T64.setTop (mkF m 9 #[.val (.ref r0), .val (.int p1)] [])) (fun t k => st64 t k) ?_
  obtain ⟨fs, hr, hrun, hended, hW, hsame⟩ := X64.leave (v := none) (fun _ => rfl)
  refine Go.mk' ⟨_, _, X64.returnOut hx Bd.returns (hb hby own_d6_9) hr, hrun, hended, _, _, rfl, ?_, ⟨_, rfl⟩, hW, hsame.mono (by decide) (by decide)⟩
  show Q6 Z s_icache cl_icache r0 p1 u_value_r0 h0 n0 _ T64.heap _
  rw [e64]
  exact ⟨rfl, N64, K64, F64, ((E_r0.keep K63).wr W64)⟩
theorem own_d5_0 : decode jdk_33_method_22_code 0 = .ok (.iload_n 0, 1) := by decide +kernel
theorem own_d5_1 : decode jdk_33_method_22_code 1 = .ok (.bipush (-128), 2) := by decide +kernel
theorem own_d5_3 : decode jdk_33_method_22_code 3 = .ok (.if_icmp .lt 20, 3) := by decide +kernel
theorem own_d5_23 : decode jdk_33_method_22_code 23 = .ok (.new 1, 3) := by decide +kernel
theorem own_d5_26 : decode jdk_33_method_22_code 26 = .ok (.dup, 1) := by decide +kernel
theorem own_d5_27 : decode jdk_33_method_22_code 27 = .ok (.iload_n 0, 1) := by decide +kernel
theorem own_d5_28 : decode jdk_33_method_22_code 28 = .ok (.invokespecial 199, 3) := by decide +kernel
theorem own_pd235 : parseMethodDescriptor "(I)V" = some ⟨[.int], none⟩ := by decide +kernel
theorem own_d5_31 : decode jdk_33_method_22_code 31 = .ok (.areturn, 1) := by decide +kernel
theorem own_d5_6 : decode jdk_33_method_22_code 6 = .ok (.iload_n 0, 1) := by decide +kernel
theorem own_d5_7 : decode jdk_33_method_22_code 7 = .ok (.getstatic 191, 3) := by decide +kernel
theorem own_d5_10 : decode jdk_33_method_22_code 10 = .ok (.if_icmp .gt 13, 3) := by decide +kernel
theorem own_d5_13 : decode jdk_33_method_22_code 13 = .ok (.getstatic 195, 3) := by decide +kernel
theorem own_d5_16 : decode jdk_33_method_22_code 16 = .ok (.iload_n 0, 1) := by decide +kernel
theorem own_d5_17 : decode jdk_33_method_22_code 17 = .ok (.sipush 128, 3) := by decide +kernel
theorem own_d5_20 : decode jdk_33_method_22_code 20 = .ok (.iadd, 1) := by decide +kernel
theorem own_d5_21 : decode jdk_33_method_22_code 21 = .ok (.aaload, 1) := by decide +kernel
theorem own_d5_22 : decode jdk_33_method_22_code 22 = .ok (.areturn, 1) := by decide +kernel
theorem ef5 (m : MethodId) (p0 : Int32) : entryFrame m #[(.int p0)] 1 = mkF m 0 #[.val (.int p0)] [] := by first | (simp [entryFrame, mkF, argsToLocals, Value.category]; done) | rfl
def Q5 (Z : State) (s_icache : Addr) (cl_icache : Cell) (p0 : Int32) (h0 : Heap) (n0 : Nat) (v : Option Value) (h : Heap) (L : List Loc) : Prop := ∃ y0 : Addr, v = some (.ref y0) ∧ Fr n0 L ∧ Keep h0 h [] ∧ Exa Z h y0 "java/lang/Integer"
set_option maxRecDepth 65536 in
set_option maxHeartbeats 40000000 in
theorem rm5 (l : Launch) (Z : State) (a0 : Array Value) (hw : ∀ d ∈ tables_1, d.before a0 Z = true) (ws : List Jvm.Cond) (s_icache : Addr) (cl_icache : Cell) (HW : W0 Z s_icache cl_icache) (p0 : Int32) (h0 : Heap) (n0 : Nat) (O0 : Old Z n0 h0) :
    MetFree l (⟨"java/lang/Integer", "valueOf", "(I)Ljava/lang/Integer;"⟩ : MethodName) (head1 (Jvm.Cond.code (⟨"java/lang/Integer", "valueOf", "(I)Ljava/lang/Integer;"⟩ : MethodName) jdk_33_method_22_code 1 (some (.object "java/lang/Integer")) :: ws) ({ frames := 3, cells := 1, slots := 1, locals := 38 } : Room)) (fun a U => a = #[(.int p0)] ∧ Z.Warmed39 U.vm ∧ U.heap = h0) (fun _ _ _ _ _ => True) (fun _ U o U' => ∃ v L, o = .returned v ∧ Q5 Z s_icache cl_icache p0 h0 n0 v U'.heap L ∧ FrameEnd U o U' L ({ frames := 3, cells := 1, slots := 1, locals := 38 } : Room).cells ({ frames := 3, cells := 1, slots := 1, locals := 38 } : Room).slots) := by
  refine MetFree.of_bodySF (plainFor_of_name own_pn3) hisR ?_
  intro p e s m args below meth c s₁ Bd hml0 hP hK
  obtain ⟨rfl, hZ, hh⟩ := hP
  obtain ⟨S_ihigh, B_icache, S_icache⟩ := id HW
  have hx := Bd.exec
  have hby := Bd.bytes
  have hml : c.maxLocals = 1 := hml0
  have hown : s.vm.findClass "java/lang/Integer" = some m.cls := findClass_of_methodNamed Bd.named
  have hnm := (name_of_methodNamed Bd.named Bd.method).1
  have X0 : Stand p l e ({ frames := 3, cells := 1, slots := 1, locals := 38 } : Room) s m #[(.int p0)] below meth c s₁ [] 0 0 := Stand.of_body Bd
  have e0 : s₁.heap = h0 := by rw [← hh, Bd.state]; rfl
  have N0 := Fr.nil n0
  have K0 := Keep.refl h0 []
  refine Go.out ?_
  refine Go.st (V' := s₁.setTop (mkF m 0 #[.val (.int p0)] [])) (fun t k => castTop (ef5 m p0) k) ?_
  refine Go.st (V' := s₁.setTop (mkF m 3 #[.val (.int p0)] [(.int (-128 : Int32)), (.int p0)])) (fun t k => ?_) ?_
  · refine XS.iloadN X0.here hx rfl (hb hby own_d5_0) rfl  ?_
    show Steps p.tables e below (s₁.setTop (mkF m 1 #[.val (.int p0)] [(.int p0)])) _
    refine XS.bipush X0.here hx rfl (hb hby own_d5_1) ?_
    show Steps p.tables e below (s₁.setTop (mkF m 3 #[.val (.int p0)] [(.int (-128 : Int32)), (.int p0)])) _
    exact k
  by_cases hc65 : p0 < (-128 : Int32)
  · refine Go.st (V' := s₁.setTop (mkF m 23 #[.val (.int p0)] [])) (fun t k => ?_) ?_
    · refine XS.icmpYes X0.here hx rfl (pc0 := 3) (pc' := 23) rfl (hb hby own_d5_3) rfl (tlt hc65).1 (by decide) (by decide) ?_
      show Steps p.tables e below (s₁.setTop (mkF m 23 #[.val (.int p0)] [])) _
      exact k
    obtain ⟨T66, h66, X66, e66, E66, A66, D66, U66, st66⟩ := newO X0 hx hZ hown (hw _ (List.mem_of_getElem? (i := 54) rfl)) (hw _ (List.mem_of_getElem? (i := 55) rfl)) (hw _ (List.mem_of_getElem? (i := 46) rfl)) e0 (g := (mkF m 23 #[.val (.int p0)] [])) rfl (hb hby own_d5_23) (by decide) (by decide)
    obtain ⟨b66, g66⟩ : ∃ z, z = h0.size := ⟨_, rfl⟩
    rw [← g66] at A66 D66 U66 st66
    have g_b66 : n0 ≤ b66 := Nat.le_trans (Nat.le_trans (Nat.le_of_eq O0.1.symm) O0.2.1) (Nat.le_of_eq g66.symm)
    have sz_b66 : h0.size ≤ b66 := Nat.le_trans K0.1 (Nat.le_of_eq g66.symm)
    have K66 := K0.ext E66
    have O66 := O0.ext E66
    have F_value_b66 : Fld Z h66 b66 "java/lang/Integer" "value" "I" (.int (0 : Int32)) := D66 (Or.inr (hw _ (List.mem_of_getElem? (i := 68) rfl))) (ty := .int) (by decide)
    refine Go.st (V' := T66.setTop (mkF m 26 #[.val (.int p0)] [(.ref b66)])) (fun t k => st66 t k) ?_
    refine Go.st (V' := T66.setTop (mkF m 28 #[.val (.int p0)] [(.int p0), (.ref b66), (.ref b66)])) (fun t k => ?_) ?_
    · refine XS.dup X66.here hx rfl (hb hby own_d5_26) rfl rfl ?_
      show Steps p.tables e below (T66.setTop (mkF m 27 #[.val (.int p0)] [(.ref b66), (.ref b66)])) _
      refine XS.iloadN X66.here hx rfl (hb hby own_d5_27) rfl  ?_
      show Steps p.tables e below (T66.setTop (mkF m 28 #[.val (.int p0)] [(.int p0), (.ref b66), (.ref b66)])) _
      exact k
    obtain ⟨_, _, ⟨T67, L67, k67, n67⟩, -, X67, ⟨Lc67, hQ67, l67, y67, z67⟩, st67⟩ := X66.specialBack hx (y := (⟨"java/lang/Integer", "<init>", "(I)V"⟩ : MethodName)) rfl hown (mvT hZ (hw _ (List.mem_of_getElem? (i := 56) rfl))) (mvT hZ (hw _ (List.mem_of_getElem? (i := 57) rfl))) (mvT hZ (hw _ (List.mem_of_getElem? (i := 59) rfl))) (by decide) (backOf (W := 1) (rm6 l Z a0 hw [] s_icache cl_icache HW b66 p0 (.int (0 : Int32)) h66 n0 O66 A66 F_value_b66 g_b66) hZ (hw _ (List.mem_of_getElem? (i := 59) rfl)) (hw _ (List.mem_of_getElem? (i := 46) rfl)) (by decide) (by decide)) (g := (mkF m 28 #[.val (.int p0)] [(.int p0), (.ref b66), (.ref b66)])) rfl (by rw [hml]; rfl) (Steps.refl _) (a := b66) (argsL := [(.int p0)]) (rest := [(.ref b66)]) (lenOf own_pd235 rfl) rfl (by show 2 * 0 + _ ≤ _; exact Nat.le_of_eq rfl) (hb hby own_d5_28) (fun _ _ => ⟨rfl, e66, (by decide : 1 + 0 ≤ _), (by decide : 1 + 0 ≤ _)⟩)
    dsimp only [Pt.U, Pt.locs, Pt.cells, Pt.slots] at X67 l67 y67 z67 st67 hQ67
    subst l67 y67 z67
    obtain ⟨rfl, N67q, K67, f67_0, f67_1⟩ := hQ67
    have N67 := Fr.app N0 N67q
    have O67 := O66.keep K67 (allS g_b66 all0)
    have KA67 := K66.trans K67 (allS (Or.inr sz_b66) all0)
    refine Go.st (V' := T67.setTop (mkF m 31 #[.val (.int p0)] [(.ref b66)])) (fun t k => st67.trans k) ?_
    obtain ⟨fs, hr, hrun, hended, hW, hsame⟩ := X67.leave (v := some (.ref b66)) (fun h => by rw [Bd.returns] at h; cases h)
    refine Go.mk' ⟨_, _, retOut X67 hx Bd.returns rfl (Or.inr (Or.inr (Or.inr (Or.inr ⟨rfl, rfl, rfl⟩)))) (hb hby own_d5_31) hr, hrun, hended, _, _, rfl, ?_, ⟨_, rfl⟩, hW, hsame.mono (by decide) (by decide)⟩
    show Q5 Z s_icache cl_icache p0 h0 n0 _ T67.heap _
    exact ⟨b66, rfl, N67, KA67, f67_1⟩
  · refine Go.st (V' := s₁.setTop (mkF m 7 #[.val (.int p0)] [(.int p0)])) (fun t k => ?_) ?_
    · refine XS.icmpNo X0.here hx rfl (hb hby own_d5_3) rfl (flt hc65).1 ?_
      show Steps p.tables e below (s₁.setTop (mkF m 6 #[.val (.int p0)] [])) _
      refine XS.iloadN X0.here hx rfl (hb hby own_d5_6) rfl  ?_
      show Steps p.tables e below (s₁.setTop (mkF m 7 #[.val (.int p0)] [(.int p0)])) _
      exact k
    obtain ⟨T68, X68, e68, st68⟩ := getS2 X0 hx hZ hown (host := "") (Or.inl (hw _ (List.mem_of_getElem? (i := 48) rfl))) Via.refl e0 (S_ihigh.ext O0.2) (g := (mkF m 7 #[.val (.int p0)] [(.int p0)])) rfl (hb hby own_d5_7)
    refine Go.st (V' := T68.setTop (mkF m 10 #[.val (.int p0)] [(.int (127 : Int32)), (.int p0)])) (fun t k => st68 t k) ?_
    by_cases hc69 : (127 : Int32) < p0
    · refine Go.st (V' := T68.setTop (mkF m 23 #[.val (.int p0)] [])) (fun t k => ?_) ?_
      · refine XS.icmpYes X68.here hx rfl (pc0 := 10) (pc' := 23) rfl (hb hby own_d5_10) rfl (tlt hc69).2.2.1 (by decide) (by decide) ?_
        show Steps p.tables e below (T68.setTop (mkF m 23 #[.val (.int p0)] [])) _
        exact k
      obtain ⟨T70, h70, X70, e70, E70, A70, D70, U70, st70⟩ := newO X68 hx hZ hown (hw _ (List.mem_of_getElem? (i := 54) rfl)) (hw _ (List.mem_of_getElem? (i := 55) rfl)) (hw _ (List.mem_of_getElem? (i := 46) rfl)) e68 (g := (mkF m 23 #[.val (.int p0)] [])) rfl (hb hby own_d5_23) (by decide) (by decide)
      obtain ⟨b70, g70⟩ : ∃ z, z = h0.size := ⟨_, rfl⟩
      rw [← g70] at A70 D70 U70 st70
      have g_b70 : n0 ≤ b70 := Nat.le_trans (Nat.le_trans (Nat.le_of_eq O0.1.symm) O0.2.1) (Nat.le_of_eq g70.symm)
      have sz_b70 : h0.size ≤ b70 := Nat.le_trans K0.1 (Nat.le_of_eq g70.symm)
      have K70 := K0.ext E70
      have O70 := O0.ext E70
      have F_value_b70 : Fld Z h70 b70 "java/lang/Integer" "value" "I" (.int (0 : Int32)) := D70 (Or.inr (hw _ (List.mem_of_getElem? (i := 68) rfl))) (ty := .int) (by decide)
      refine Go.st (V' := T70.setTop (mkF m 26 #[.val (.int p0)] [(.ref b70)])) (fun t k => st70 t k) ?_
      refine Go.st (V' := T70.setTop (mkF m 28 #[.val (.int p0)] [(.int p0), (.ref b70), (.ref b70)])) (fun t k => ?_) ?_
      · refine XS.dup X70.here hx rfl (hb hby own_d5_26) rfl rfl ?_
        show Steps p.tables e below (T70.setTop (mkF m 27 #[.val (.int p0)] [(.ref b70), (.ref b70)])) _
        refine XS.iloadN X70.here hx rfl (hb hby own_d5_27) rfl  ?_
        show Steps p.tables e below (T70.setTop (mkF m 28 #[.val (.int p0)] [(.int p0), (.ref b70), (.ref b70)])) _
        exact k
      obtain ⟨_, _, ⟨T71, L71, k71, n71⟩, -, X71, ⟨Lc71, hQ71, l71, y71, z71⟩, st71⟩ := X70.specialBack hx (y := (⟨"java/lang/Integer", "<init>", "(I)V"⟩ : MethodName)) rfl hown (mvT hZ (hw _ (List.mem_of_getElem? (i := 56) rfl))) (mvT hZ (hw _ (List.mem_of_getElem? (i := 57) rfl))) (mvT hZ (hw _ (List.mem_of_getElem? (i := 59) rfl))) (by decide) (backOf (W := 1) (rm6 l Z a0 hw [] s_icache cl_icache HW b70 p0 (.int (0 : Int32)) h70 n0 O70 A70 F_value_b70 g_b70) hZ (hw _ (List.mem_of_getElem? (i := 59) rfl)) (hw _ (List.mem_of_getElem? (i := 46) rfl)) (by decide) (by decide)) (g := (mkF m 28 #[.val (.int p0)] [(.int p0), (.ref b70), (.ref b70)])) rfl (by rw [hml]; rfl) (Steps.refl _) (a := b70) (argsL := [(.int p0)]) (rest := [(.ref b70)]) (lenOf own_pd235 rfl) rfl (by show 2 * 0 + _ ≤ _; exact Nat.le_of_eq rfl) (hb hby own_d5_28) (fun _ _ => ⟨rfl, e70, (by decide : 1 + 0 ≤ _), (by decide : 1 + 0 ≤ _)⟩)
      dsimp only [Pt.U, Pt.locs, Pt.cells, Pt.slots] at X71 l71 y71 z71 st71 hQ71
      subst l71 y71 z71
      obtain ⟨rfl, N71q, K71, f71_0, f71_1⟩ := hQ71
      have N71 := Fr.app N0 N71q
      have O71 := O70.keep K71 (allS g_b70 all0)
      have KA71 := K70.trans K71 (allS (Or.inr sz_b70) all0)
      refine Go.st (V' := T71.setTop (mkF m 31 #[.val (.int p0)] [(.ref b70)])) (fun t k => st71.trans k) ?_
      obtain ⟨fs, hr, hrun, hended, hW, hsame⟩ := X71.leave (v := some (.ref b70)) (fun h => by rw [Bd.returns] at h; cases h)
      refine Go.mk' ⟨_, _, retOut X71 hx Bd.returns rfl (Or.inr (Or.inr (Or.inr (Or.inr ⟨rfl, rfl, rfl⟩)))) (hb hby own_d5_31) hr, hrun, hended, _, _, rfl, ?_, ⟨_, rfl⟩, hW, hsame.mono (by decide) (by decide)⟩
      show Q5 Z s_icache cl_icache p0 h0 n0 _ T71.heap _
      exact ⟨b70, rfl, N71, KA71, f71_1⟩
    · refine Go.st (V' := T68.setTop (mkF m 13 #[.val (.int p0)] [])) (fun t k => ?_) ?_
      · refine XS.icmpNo X68.here hx rfl (hb hby own_d5_10) rfl (flt hc69).2.2.1 ?_
        show Steps p.tables e below (T68.setTop (mkF m 13 #[.val (.int p0)] [])) _
        exact k
      obtain ⟨T72, X72, e72, st72⟩ := getS2 X68 hx hZ hown (host := "") (Or.inl (hw _ (List.mem_of_getElem? (i := 50) rfl))) Via.refl e68 (S_icache.ext O0.2) (g := (mkF m 13 #[.val (.int p0)] [])) rfl (hb hby own_d5_13)
      refine Go.st (V' := T72.setTop (mkF m 16 #[.val (.int p0)] [(.ref s_icache)])) (fun t k => st72 t k) ?_
      refine Go.st (V' := T72.setTop (mkF m 21 #[.val (.int p0)] [(.int (p0 + (128 : Int32))), (.ref s_icache)])) (fun t k => ?_) ?_
      · refine XS.iloadN X72.here hx rfl (hb hby own_d5_16) rfl  ?_
        show Steps p.tables e below (T72.setTop (mkF m 17 #[.val (.int p0)] [(.int p0), (.ref s_icache)])) _
        refine XS.sipush X72.here hx rfl (hb hby own_d5_17) ?_
        show Steps p.tables e below (T72.setTop (mkF m 20 #[.val (.int p0)] [(.int (128 : Int32)), (.int p0), (.ref s_icache)])) _
        refine XS.iadd X72.here hx rfl (hb hby own_d5_20) rfl ?_
        show Steps p.tables e below (T72.setTop (mkF m 21 #[.val (.int p0)] [(.int (p0 + (128 : Int32))), (.ref s_icache)])) _
        exact k
      have hin73 : ¬ ((p0 + (128 : Int32)) < 0 ∨ cl_icache.slots.size ≤ ((p0 + (128 : Int32))).toNatClampNeg) := inb_of B_icache.2.1 (own_in hc65 hc69)
      obtain ⟨bx73, hat73, Eb73, -⟩ := B_icache.2.2.2 _ hin73
      have Ar73 := B_icache.1.ext O0.2
      refine Go.st (V' := T72.setTop (mkF m 22 #[.val (.int p0)] [(.ref bx73)])) (fun t k => ?_) ?_
      · show Steps p.tables e below (T72.setTop (mkF m 21 #[.val (.int p0)] [(.int (p0 + (128 : Int32))), (.ref s_icache)])) _
        refine X72.aaload hx (j := (p0 + (128 : Int32))) (v := (.ref bx73)) (own_eT e72 Ar73) (State.isArrayOf_alike hZ.alike Ar73.2.1) rfl Ar73.2.2 hin73 hat73 (g := (mkF m 21 #[.val (.int p0)] [(.int (p0 + (128 : Int32))), (.ref s_icache)])) rfl rfl (hb hby own_d5_21) _ ?_
        show Steps p.tables e below (T72.setTop (mkF m 22 #[.val (.int p0)] [(.ref bx73)])) _
        exact k
      obtain ⟨fs, hr, hrun, hended, hW, hsame⟩ := X72.leave (v := some (.ref bx73)) (fun h => by rw [Bd.returns] at h; cases h)
      refine Go.mk' ⟨_, _, retOut X72 hx Bd.returns rfl (Or.inr (Or.inr (Or.inr (Or.inr ⟨rfl, rfl, rfl⟩)))) (hb hby own_d5_22) hr, hrun, hended, _, _, rfl, ?_, ⟨_, rfl⟩, hW, hsame.mono (by decide) (by decide)⟩
      show Q5 Z s_icache cl_icache p0 h0 n0 _ T72.heap _
      rw [e72]
      exact ⟨bx73, rfl, N0, K0, (Eb73.ext O0.2)⟩
theorem own_pd246 : parseMethodDescriptor "(JJIIIJ)Lcom/example/numtick/numtick/protocol/Stat;" = some ⟨[.long, .long, .int, .int, .int, .long], some (.object "com/example/numtick/numtick/protocol/Stat")⟩ := by decide +kernel
theorem own_pd247 : parseMethodDescriptor "(Ljava/lang/Object;)Z" = some ⟨[(.object "java/lang/Object")], some .boolean⟩ := by decide +kernel
theorem own_pd248 : parseMethodDescriptor "(I)Ljava/lang/Integer;" = some ⟨[.int], some (.object "java/lang/Integer")⟩ := by decide +kernel
set_option maxHeartbeats 8000000 in
theorem own_ab (s_icache : Addr) (cl_icache : Cell) {p2 : Int32} {p3 : Int32} {q0 : Int64} {q1 : Int64} {q5 : Int64} {kk : Int32} (hk : 0 ≤ kk.toInt ∧ kk.toInt < 12) : (f4 (q0 + (if (11 : Int32) = (0 : Int32) then (0 : Int64) else (0 : Int64))) (q0 + (if kk = (0 : Int32) then q5 else (0 : Int64))) (q1 + (if (11 : Int32) = (1 : Int32) then (0 : Int64) else (0 : Int64))) (q1 + (if kk = (1 : Int32) then q5 else (0 : Int64))) ((q0 + q1) + (if (11 : Int32) = (2 : Int32) then (0 : Int64) else (0 : Int64))) ((q0 + q1) + (if kk = (2 : Int32) then q5 else (0 : Int64))) ((q0 - q1) + (if (11 : Int32) = (3 : Int32) then (0 : Int64) else (0 : Int64))) ((q0 - q1) + (if kk = (3 : Int32) then q5 else (0 : Int64))) (p2 + (if (11 : Int32) = (4 : Int32) then ((0 : Int64).toInt32) else (0 : Int32))) (p2 + (if kk = (4 : Int32) then (q5.toInt32) else (0 : Int32))) (p3 + (if (11 : Int32) = (5 : Int32) then ((0 : Int64).toInt32) else (0 : Int32))) (p3 + (if kk = (5 : Int32) then (q5.toInt32) else (0 : Int32))) ((p2 ^^^ p3) + (if (11 : Int32) = (6 : Int32) then ((0 : Int64).toInt32) else (0 : Int32))) ((p2 ^^^ p3) + (if kk = (6 : Int32) then (q5.toInt32) else (0 : Int32))) ((q0 ^^^ (-1 : Int64)) + (if (11 : Int32) = (7 : Int32) then (0 : Int64) else (0 : Int64))) ((q0 ^^^ (-1 : Int64)) + (if kk = (7 : Int32) then q5 else (0 : Int64))) ((p2 + p3) + (if (11 : Int32) = (8 : Int32) then ((0 : Int64).toInt32) else (0 : Int32))) ((p2 + p3) + (if kk = (8 : Int32) then (q5.toInt32) else (0 : Int32))) ((p2 - p3) + (if (11 : Int32) = (9 : Int32) then ((0 : Int64).toInt32) else (0 : Int32))) ((p2 - p3) + (if kk = (9 : Int32) then (q5.toInt32) else (0 : Int32))) ((q0 ^^^ q1) + (if (11 : Int32) = (10 : Int32) then (0 : Int64) else (0 : Int64))) ((q0 ^^^ q1) + (if kk = (10 : Int32) then q5 else (0 : Int64)))) = (if kk = (0 : Int32) then (if q5 = (0 : Int64) then (1 : Int32) else (0 : Int32)) else (if kk = (1 : Int32) then (if q5 = (0 : Int64) then (1 : Int32) else (0 : Int32)) else (if kk = (2 : Int32) then (if q5 = (0 : Int64) then (1 : Int32) else (0 : Int32)) else (if kk = (3 : Int32) then (if q5 = (0 : Int64) then (1 : Int32) else (0 : Int32)) else (if kk = (7 : Int32) then (if q5 = (0 : Int64) then (1 : Int32) else (0 : Int32)) else (if kk = (10 : Int32) then (if q5 = (0 : Int64) then (1 : Int32) else (0 : Int32)) else (if kk = (11 : Int32) then (1 : Int32) else (if (q5.toInt32) = (0 : Int32) then (1 : Int32) else (0 : Int32))))))))) := by
  rcases own_cases12 hk with rfl | rfl | rfl | rfl | rfl | rfl | rfl | rfl | rfl | rfl | rfl | rfl <;> simp [f4, own_z64, own_z64', own_z32, own_z32']
set_option maxHeartbeats 8000000 in
theorem own_ba (s_icache : Addr) (cl_icache : Cell) {p2 : Int32} {p3 : Int32} {q0 : Int64} {q1 : Int64} {q5 : Int64} {kk : Int32} (hk : 0 ≤ kk.toInt ∧ kk.toInt < 12) : (f4 (q0 + (if kk = (0 : Int32) then q5 else (0 : Int64))) (q0 + (if (11 : Int32) = (0 : Int32) then (0 : Int64) else (0 : Int64))) (q1 + (if kk = (1 : Int32) then q5 else (0 : Int64))) (q1 + (if (11 : Int32) = (1 : Int32) then (0 : Int64) else (0 : Int64))) ((q0 + q1) + (if kk = (2 : Int32) then q5 else (0 : Int64))) ((q0 + q1) + (if (11 : Int32) = (2 : Int32) then (0 : Int64) else (0 : Int64))) ((q0 - q1) + (if kk = (3 : Int32) then q5 else (0 : Int64))) ((q0 - q1) + (if (11 : Int32) = (3 : Int32) then (0 : Int64) else (0 : Int64))) (p2 + (if kk = (4 : Int32) then (q5.toInt32) else (0 : Int32))) (p2 + (if (11 : Int32) = (4 : Int32) then ((0 : Int64).toInt32) else (0 : Int32))) (p3 + (if kk = (5 : Int32) then (q5.toInt32) else (0 : Int32))) (p3 + (if (11 : Int32) = (5 : Int32) then ((0 : Int64).toInt32) else (0 : Int32))) ((p2 ^^^ p3) + (if kk = (6 : Int32) then (q5.toInt32) else (0 : Int32))) ((p2 ^^^ p3) + (if (11 : Int32) = (6 : Int32) then ((0 : Int64).toInt32) else (0 : Int32))) ((q0 ^^^ (-1 : Int64)) + (if kk = (7 : Int32) then q5 else (0 : Int64))) ((q0 ^^^ (-1 : Int64)) + (if (11 : Int32) = (7 : Int32) then (0 : Int64) else (0 : Int64))) ((p2 + p3) + (if kk = (8 : Int32) then (q5.toInt32) else (0 : Int32))) ((p2 + p3) + (if (11 : Int32) = (8 : Int32) then ((0 : Int64).toInt32) else (0 : Int32))) ((p2 - p3) + (if kk = (9 : Int32) then (q5.toInt32) else (0 : Int32))) ((p2 - p3) + (if (11 : Int32) = (9 : Int32) then ((0 : Int64).toInt32) else (0 : Int32))) ((q0 ^^^ q1) + (if kk = (10 : Int32) then q5 else (0 : Int64))) ((q0 ^^^ q1) + (if (11 : Int32) = (10 : Int32) then (0 : Int64) else (0 : Int64)))) = (if kk = (0 : Int32) then (if q5 = (0 : Int64) then (1 : Int32) else (0 : Int32)) else (if kk = (1 : Int32) then (if q5 = (0 : Int64) then (1 : Int32) else (0 : Int32)) else (if kk = (2 : Int32) then (if q5 = (0 : Int64) then (1 : Int32) else (0 : Int32)) else (if kk = (3 : Int32) then (if q5 = (0 : Int64) then (1 : Int32) else (0 : Int32)) else (if kk = (7 : Int32) then (if q5 = (0 : Int64) then (1 : Int32) else (0 : Int32)) else (if kk = (10 : Int32) then (if q5 = (0 : Int64) then (1 : Int32) else (0 : Int32)) else (if kk = (11 : Int32) then (1 : Int32) else (if (q5.toInt32) = (0 : Int32) then (1 : Int32) else (0 : Int32))))))))) := by
  rcases own_cases12 hk with rfl | rfl | rfl | rfl | rfl | rfl | rfl | rfl | rfl | rfl | rfl | rfl <;> simp [f4, own_z64, own_z64', own_z32, own_z32']
theorem ef0 (m : MethodId) (q0 : Int64) (q1 : Int64) (p2 : Int32) (p3 : Int32) (p4 : Int32) (q5 : Int64) : entryFrame m #[(.long q0), (.long q1), (.int p2), (.int p3), (.int p4), (.long q5)] maxLocals = mkF m 0 #[.val (.long q0), .second, .val (.long q1), .second, .val (.int p2), .val (.int p3), .val (.int p4), .val (.long q5), .second, .unset, .unset, .unset, .unset, .unset, .unset, .unset, .unset, .unset, .unset] [] := by first | (simp [entryFrame, mkF, argsToLocals, Value.category, maxLocals]; done) | rfl
def Q0 (Z : State) (q0 : Int64) (q1 : Int64) (p2 : Int32) (p3 : Int32) (p4 : Int32) (q5 : Int64) (h0 : Heap) (n0 : Nat) (v : Option Value) (h : Heap) (L : List Loc) : Prop := v = some (.int 1) ∧ Fr n0 L
set_option maxRecDepth 65536 in
set_option maxHeartbeats 40000000 in
theorem rm0 (l : Launch) (Z : State) (a0 : Array Value) (hw : ∀ d ∈ tables_1, d.before a0 Z = true) (ws : List Jvm.Cond) (s_icache : Addr) (cl_icache : Cell) (HW : W0 Z s_icache cl_icache) (q0 : Int64) (q1 : Int64) (p2 : Int32) (p3 : Int32) (p4 : Int32) (q5 : Int64) (h0 : Heap) (n0 : Nat) (O0 : Old Z n0 h0) :
    MetFree l x (head1 (Jvm.Cond.code x code maxLocals ret :: ws) room_1) (fun a U => a = #[(.long q0), (.long q1), (.int p2), (.int p3), (.int p4), (.long q5)] ∧ Z.Warmed39 U.vm ∧ U.heap = h0) (fun _ _ _ _ _ => True) (fun _ U o U' => ∃ v L, o = .returned v ∧ Q0 Z q0 q1 p2 p3 p4 q5 h0 n0 v U'.heap L ∧ FrameEnd U o U' L room_1.cells room_1.slots) := by
  refine MetFree.of_bodySF (plainFor_of_name own_pn1) hisR ?_
  intro p e s m args below meth c s₁ Bd hml0 hP hK
  obtain ⟨rfl, hZ, hh⟩ := hP
  obtain ⟨S_ihigh, B_icache, S_icache⟩ := id HW
  have hx := Bd.exec
  have hby := Bd.bytes
  have hml : c.maxLocals = 19 := hml0
  have hown : s.vm.findClass "com/example/numtick/numtick/protocol/StatEqualsPinLaw" = some m.cls := findClass_of_methodNamed Bd.named
  have hnm := (name_of_methodNamed Bd.named Bd.method).1
  have X0 : Stand p l e room_1 s m #[(.long q0), (.long q1), (.int p2), (.int p3), (.int p4), (.long q5)] below meth c s₁ [] 0 0 := Stand.of_body Bd
  have e0 : s₁.heap = h0 := by rw [← hh, Bd.state]; rfl
  have N0 := Fr.nil n0
  refine Go.out ?_
  refine Go.st (V' := s₁.setTop (mkF m 0 #[.val (.long q0), .second, .val (.long q1), .second, .val (.int p2), .val (.int p3), .val (.int p4), .val (.long q5), .second, .unset, .unset, .unset, .unset, .unset, .unset, .unset, .unset, .unset, .unset] [])) (fun t k => castTop (ef0 m q0 q1 p2 p3 p4 q5) k) ?_
  refine Go.st (V' := s₁.setTop (mkF m 10 #[.val (.long q0), .second, .val (.long q1), .second, .val (.int p2), .val (.int p3), .val (.int p4), .val (.long q5), .second, .val (.int ((p4 &&& (2147483647 : Int32)) % (12 : Int32))), .unset, .unset, .unset, .unset, .unset, .unset, .unset, .unset, .unset] [])) (fun t k => ?_) ?_
  · refine XS.iload X0.here hx rfl (hb hby at_0) rfl  ?_
    show Steps p.tables e below (s₁.setTop (mkF m 2 #[.val (.long q0), .second, .val (.long q1), .second, .val (.int p2), .val (.int p3), .val (.int p4), .val (.long q5), .second, .unset, .unset, .unset, .unset, .unset, .unset, .unset, .unset, .unset, .unset] [(.int p4)])) _
    refine X0.ldcInt hx hown (mvT hZ (hw _ (List.mem_of_getElem? (i := 0) rfl))) (g := (mkF m 2 #[.val (.long q0), .second, .val (.long q1), .second, .val (.int p2), .val (.int p3), .val (.int p4), .val (.long q5), .second, .unset, .unset, .unset, .unset, .unset, .unset, .unset, .unset, .unset, .unset] [(.int p4)])) rfl (hb hby at_2) _ ?_
    show Steps p.tables e below (s₁.setTop (mkF m 4 #[.val (.long q0), .second, .val (.long q1), .second, .val (.int p2), .val (.int p3), .val (.int p4), .val (.long q5), .second, .unset, .unset, .unset, .unset, .unset, .unset, .unset, .unset, .unset, .unset] [(.int (2147483647 : Int32)), (.int p4)])) _
    refine XS.iand X0.here hx rfl (hb hby at_4) rfl ?_
    show Steps p.tables e below (s₁.setTop (mkF m 5 #[.val (.long q0), .second, .val (.long q1), .second, .val (.int p2), .val (.int p3), .val (.int p4), .val (.long q5), .second, .unset, .unset, .unset, .unset, .unset, .unset, .unset, .unset, .unset, .unset] [(.int (p4 &&& (2147483647 : Int32)))])) _
    refine XS.bipush X0.here hx rfl (hb hby at_5) ?_
    show Steps p.tables e below (s₁.setTop (mkF m 7 #[.val (.long q0), .second, .val (.long q1), .second, .val (.int p2), .val (.int p3), .val (.int p4), .val (.long q5), .second, .unset, .unset, .unset, .unset, .unset, .unset, .unset, .unset, .unset, .unset] [(.int (12 : Int32)), (.int (p4 &&& (2147483647 : Int32)))])) _
    refine iremM X0 hx rfl (hb hby at_7) rfl (by decide) ?_
    show Steps p.tables e below (s₁.setTop (mkF m 8 #[.val (.long q0), .second, .val (.long q1), .second, .val (.int p2), .val (.int p3), .val (.int p4), .val (.long q5), .second, .unset, .unset, .unset, .unset, .unset, .unset, .unset, .unset, .unset, .unset] [(.int ((p4 &&& (2147483647 : Int32)) % (12 : Int32)))])) _
    refine XS.istore X0.here hx rfl (hb hby at_8) rfl (l' := #[.val (.long q0), .second, .val (.long q1), .second, .val (.int p2), .val (.int p3), .val (.int p4), .val (.long q5), .second, .val (.int ((p4 &&& (2147483647 : Int32)) % (12 : Int32))), .unset, .unset, .unset, .unset, .unset, .unset, .unset, .unset, .unset]) rfl ?_
    show Steps p.tables e below (s₁.setTop (mkF m 10 #[.val (.long q0), .second, .val (.long q1), .second, .val (.int p2), .val (.int p3), .val (.int p4), .val (.long q5), .second, .val (.int ((p4 &&& (2147483647 : Int32)) % (12 : Int32))), .unset, .unset, .unset, .unset, .unset, .unset, .unset, .unset, .unset] [])) _
    exact k
  obtain ⟨kk, h_kk⟩ : ∃ z, z = ((p4 &&& (2147483647 : Int32)) % (12 : Int32)) := ⟨_, rfl⟩
  rw [← h_kk]
  have hrg_kk : 0 ≤ kk.toInt ∧ kk.toInt < 12 := by rw [h_kk]; exact own_rng _ _ _ (by decide) (by decide)
  refine Go.st (V' := s₁.setTop (mkF m 19 #[.val (.long q0), .second, .val (.long q1), .second, .val (.int p2), .val (.int p3), .val (.int p4), .val (.long q5), .second, .val (.int kk), .unset, .unset, .unset, .unset, .unset, .unset, .unset, .unset, .unset] [(.long (0 : Int64)), (.int (11 : Int32)), (.int p3), (.int p2), (.long q1), (.long q0)])) (fun t k => ?_) ?_
  · refine XS.lloadN X0.here hx rfl (hb hby at_10) rfl  ?_
    show Steps p.tables e below (s₁.setTop (mkF m 11 #[.val (.long q0), .second, .val (.long q1), .second, .val (.int p2), .val (.int p3), .val (.int p4), .val (.long q5), .second, .val (.int kk), .unset, .unset, .unset, .unset, .unset, .unset, .unset, .unset, .unset] [(.long q0)])) _
    refine XS.lloadN X0.here hx rfl (hb hby at_11) rfl  ?_
    show Steps p.tables e below (s₁.setTop (mkF m 12 #[.val (.long q0), .second, .val (.long q1), .second, .val (.int p2), .val (.int p3), .val (.int p4), .val (.long q5), .second, .val (.int kk), .unset, .unset, .unset, .unset, .unset, .unset, .unset, .unset, .unset] [(.long q1), (.long q0)])) _
    refine XS.iload X0.here hx rfl (hb hby at_12) rfl  ?_
    show Steps p.tables e below (s₁.setTop (mkF m 14 #[.val (.long q0), .second, .val (.long q1), .second, .val (.int p2), .val (.int p3), .val (.int p4), .val (.long q5), .second, .val (.int kk), .unset, .unset, .unset, .unset, .unset, .unset, .unset, .unset, .unset] [(.int p2), (.long q1), (.long q0)])) _
    refine XS.iload X0.here hx rfl (hb hby at_14) rfl  ?_
    show Steps p.tables e below (s₁.setTop (mkF m 16 #[.val (.long q0), .second, .val (.long q1), .second, .val (.int p2), .val (.int p3), .val (.int p4), .val (.long q5), .second, .val (.int kk), .unset, .unset, .unset, .unset, .unset, .unset, .unset, .unset, .unset] [(.int p3), (.int p2), (.long q1), (.long q0)])) _
    refine XS.bipush X0.here hx rfl (hb hby at_16) ?_
    show Steps p.tables e below (s₁.setTop (mkF m 18 #[.val (.long q0), .second, .val (.long q1), .second, .val (.int p2), .val (.int p3), .val (.int p4), .val (.long q5), .second, .val (.int kk), .unset, .unset, .unset, .unset, .unset, .unset, .unset, .unset, .unset] [(.int (11 : Int32)), (.int p3), (.int p2), (.long q1), (.long q0)])) _
    refine XS.lconst X0.here hx rfl (hb hby at_18) ?_
    show Steps p.tables e below (s₁.setTop (mkF m 19 #[.val (.long q0), .second, .val (.long q1), .second, .val (.int p2), .val (.int p3), .val (.int p4), .val (.long q5), .second, .val (.int kk), .unset, .unset, .unset, .unset, .unset, .unset, .unset, .unset, .unset] [(.long (0 : Int64)), (.int (11 : Int32)), (.int p3), (.int p2), (.long q1), (.long q0)])) _
    exact k
  obtain ⟨_, _, ⟨T74, L74, k74, n74⟩, -, X74, ⟨Lc74, hQ74, l74, y74, z74⟩, st74⟩ := Jvm.LawKit.callS X0 hx (y := (⟨"com/example/numtick/numtick/protocol/StatEqualsPinLaw", "make", "(JJIIIJ)Lcom/example/numtick/numtick/protocol/Stat;"⟩ : MethodName)) hown (mvT hZ (hw _ (List.mem_of_getElem? (i := 1) rfl))) (mvT hZ (hw _ (List.mem_of_getElem? (i := 2) rfl))) (mvT hZ (hw _ (List.mem_of_getElem? (i := 3) rfl))) (mvT hZ (hw _ (List.mem_of_getElem? (i := 4) rfl))) (by decide) (backOf (W := 0) (rm1 l Z a0 hw [] s_icache cl_icache HW q0 q1 p2 p3 (11 : Int32) (0 : Int64) h0 n0 O0) hZ (hw _ (List.mem_of_getElem? (i := 4) rfl)) (hw _ (List.mem_of_getElem? (i := 3) rfl)) (by decide) (by decide)) (g := (mkF m 19 #[.val (.long q0), .second, .val (.long q1), .second, .val (.int p2), .val (.int p3), .val (.int p4), .val (.long q5), .second, .val (.int kk), .unset, .unset, .unset, .unset, .unset, .unset, .unset, .unset, .unset] [(.long (0 : Int64)), (.int (11 : Int32)), (.int p3), (.int p2), (.long q1), (.long q0)])) rfl (by rw [hml]; rfl) (argsL := [(.long q0), (.long q1), (.int p2), (.int p3), (.int (11 : Int32)), (.long (0 : Int64))]) (rest := []) (lenOf own_pd246 rfl) rfl (by show 2 * 0 + _ ≤ _; exact Nat.le_of_eq rfl) (hb hby at_19) (fun _ _ => ⟨rfl, e0, (by decide : 0 + 1 ≤ _), (by decide : 0 + 11 ≤ _)⟩)
  dsimp only [Pt.U, Pt.locs, Pt.cells, Pt.slots] at X74 l74 y74 z74 st74 hQ74
  subst l74 y74 z74
  obtain ⟨b74_y0, rfl, N74q, K74, sz74_y0, f74_0, f74_1, f74_2, f74_3, f74_4, f74_5, f74_6, f74_7, f74_8, f74_9, f74_10, f74_11⟩ := hQ74
  have N74 := Fr.app N0 N74q
  have O74 := O0.keep K74 all0
  have g_b74_y0 : n0 ≤ b74_y0 := Nat.le_trans (Nat.le_trans (Nat.le_of_eq O0.1.symm) O0.2.1) sz74_y0
  refine Go.st (V' := T74.setTop (mkF m 22 #[.val (.long q0), .second, .val (.long q1), .second, .val (.int p2), .val (.int p3), .val (.int p4), .val (.long q5), .second, .val (.int kk), .unset, .unset, .unset, .unset, .unset, .unset, .unset, .unset, .unset] [(.ref b74_y0)])) (fun t k => st74 t k) ?_
  refine Go.st (V' := T74.setTop (mkF m 34 #[.val (.long q0), .second, .val (.long q1), .second, .val (.int p2), .val (.int p3), .val (.int p4), .val (.long q5), .second, .val (.int kk), .val (.ref b74_y0), .unset, .unset, .unset, .unset, .unset, .unset, .unset, .unset] [(.long q5), (.int kk), (.int p3), (.int p2), (.long q1), (.long q0)])) (fun t k => ?_) ?_
  · refine XS.astore X74.here hx rfl (hb hby at_22) rfl rfl (l' := #[.val (.long q0), .second, .val (.long q1), .second, .val (.int p2), .val (.int p3), .val (.int p4), .val (.long q5), .second, .val (.int kk), .val (.ref b74_y0), .unset, .unset, .unset, .unset, .unset, .unset, .unset, .unset]) rfl ?_
    show Steps p.tables e below (T74.setTop (mkF m 24 #[.val (.long q0), .second, .val (.long q1), .second, .val (.int p2), .val (.int p3), .val (.int p4), .val (.long q5), .second, .val (.int kk), .val (.ref b74_y0), .unset, .unset, .unset, .unset, .unset, .unset, .unset, .unset] [])) _
    refine XS.lloadN X74.here hx rfl (hb hby at_24) rfl  ?_
    show Steps p.tables e below (T74.setTop (mkF m 25 #[.val (.long q0), .second, .val (.long q1), .second, .val (.int p2), .val (.int p3), .val (.int p4), .val (.long q5), .second, .val (.int kk), .val (.ref b74_y0), .unset, .unset, .unset, .unset, .unset, .unset, .unset, .unset] [(.long q0)])) _
    refine XS.lloadN X74.here hx rfl (hb hby at_25) rfl  ?_
    show Steps p.tables e below (T74.setTop (mkF m 26 #[.val (.long q0), .second, .val (.long q1), .second, .val (.int p2), .val (.int p3), .val (.int p4), .val (.long q5), .second, .val (.int kk), .val (.ref b74_y0), .unset, .unset, .unset, .unset, .unset, .unset, .unset, .unset] [(.long q1), (.long q0)])) _
    refine XS.iload X74.here hx rfl (hb hby at_26) rfl  ?_
    show Steps p.tables e below (T74.setTop (mkF m 28 #[.val (.long q0), .second, .val (.long q1), .second, .val (.int p2), .val (.int p3), .val (.int p4), .val (.long q5), .second, .val (.int kk), .val (.ref b74_y0), .unset, .unset, .unset, .unset, .unset, .unset, .unset, .unset] [(.int p2), (.long q1), (.long q0)])) _
    refine XS.iload X74.here hx rfl (hb hby at_28) rfl  ?_
    show Steps p.tables e below (T74.setTop (mkF m 30 #[.val (.long q0), .second, .val (.long q1), .second, .val (.int p2), .val (.int p3), .val (.int p4), .val (.long q5), .second, .val (.int kk), .val (.ref b74_y0), .unset, .unset, .unset, .unset, .unset, .unset, .unset, .unset] [(.int p3), (.int p2), (.long q1), (.long q0)])) _
    refine XS.iload X74.here hx rfl (hb hby at_30) rfl  ?_
    show Steps p.tables e below (T74.setTop (mkF m 32 #[.val (.long q0), .second, .val (.long q1), .second, .val (.int p2), .val (.int p3), .val (.int p4), .val (.long q5), .second, .val (.int kk), .val (.ref b74_y0), .unset, .unset, .unset, .unset, .unset, .unset, .unset, .unset] [(.int kk), (.int p3), (.int p2), (.long q1), (.long q0)])) _
    refine XS.lload X74.here hx rfl (hb hby at_32) rfl  ?_
    show Steps p.tables e below (T74.setTop (mkF m 34 #[.val (.long q0), .second, .val (.long q1), .second, .val (.int p2), .val (.int p3), .val (.int p4), .val (.long q5), .second, .val (.int kk), .val (.ref b74_y0), .unset, .unset, .unset, .unset, .unset, .unset, .unset, .unset] [(.long q5), (.int kk), (.int p3), (.int p2), (.long q1), (.long q0)])) _
    exact k
  obtain ⟨_, _, ⟨T75, L75, k75, n75⟩, -, X75, ⟨Lc75, hQ75, l75, y75, z75⟩, st75⟩ := Jvm.LawKit.callS X74 hx (y := (⟨"com/example/numtick/numtick/protocol/StatEqualsPinLaw", "make", "(JJIIIJ)Lcom/example/numtick/numtick/protocol/Stat;"⟩ : MethodName)) hown (mvT hZ (hw _ (List.mem_of_getElem? (i := 1) rfl))) (mvT hZ (hw _ (List.mem_of_getElem? (i := 2) rfl))) (mvT hZ (hw _ (List.mem_of_getElem? (i := 3) rfl))) (mvT hZ (hw _ (List.mem_of_getElem? (i := 4) rfl))) (by decide) (backOf (W := 0) (rm1 l Z a0 hw [] s_icache cl_icache HW q0 q1 p2 p3 kk q5 T74.heap n0 O74) hZ (hw _ (List.mem_of_getElem? (i := 4) rfl)) (hw _ (List.mem_of_getElem? (i := 3) rfl)) (by decide) (by decide)) (g := (mkF m 34 #[.val (.long q0), .second, .val (.long q1), .second, .val (.int p2), .val (.int p3), .val (.int p4), .val (.long q5), .second, .val (.int kk), .val (.ref b74_y0), .unset, .unset, .unset, .unset, .unset, .unset, .unset, .unset] [(.long q5), (.int kk), (.int p3), (.int p2), (.long q1), (.long q0)])) rfl (by rw [hml]; rfl) (argsL := [(.long q0), (.long q1), (.int p2), (.int p3), (.int kk), (.long q5)]) (rest := []) (lenOf own_pd246 rfl) rfl (by show 2 * 0 + _ ≤ _; exact Nat.le_of_eq rfl) (hb hby at_34) (fun _ _ => ⟨rfl, rfl, (by decide : 1 + 1 ≤ _), (by decide : 11 + 11 ≤ _)⟩)
  dsimp only [Pt.U, Pt.locs, Pt.cells, Pt.slots] at X75 l75 y75 z75 st75 hQ75
  subst l75 y75 z75
  obtain ⟨b75_y0, rfl, N75q, K75, sz75_y0, f75_0, f75_1, f75_2, f75_3, f75_4, f75_5, f75_6, f75_7, f75_8, f75_9, f75_10, f75_11⟩ := hQ75
  have N75 := Fr.app N74 N75q
  have O75 := O74.keep K75 all0
  have g_b75_y0 : n0 ≤ b75_y0 := Nat.le_trans (Nat.le_trans (Nat.le_of_eq O74.1.symm) O74.2.1) sz75_y0
  refine Go.st (V' := T75.setTop (mkF m 37 #[.val (.long q0), .second, .val (.long q1), .second, .val (.int p2), .val (.int p3), .val (.int p4), .val (.long q5), .second, .val (.int kk), .val (.ref b74_y0), .unset, .unset, .unset, .unset, .unset, .unset, .unset, .unset] [(.ref b75_y0)])) (fun t k => st75 t k) ?_
  refine Go.st (V' := T75.setTop (mkF m 39 #[.val (.long q0), .second, .val (.long q1), .second, .val (.int p2), .val (.int p3), .val (.int p4), .val (.long q5), .second, .val (.int kk), .val (.ref b74_y0), .val (.ref b75_y0), .unset, .unset, .unset, .unset, .unset, .unset, .unset] [])) (fun t k => ?_) ?_
  · refine XS.astore X75.here hx rfl (hb hby at_37) rfl rfl (l' := #[.val (.long q0), .second, .val (.long q1), .second, .val (.int p2), .val (.int p3), .val (.int p4), .val (.long q5), .second, .val (.int kk), .val (.ref b74_y0), .val (.ref b75_y0), .unset, .unset, .unset, .unset, .unset, .unset, .unset]) rfl ?_
    show Steps p.tables e below (T75.setTop (mkF m 39 #[.val (.long q0), .second, .val (.long q1), .second, .val (.int p2), .val (.int p3), .val (.int p4), .val (.long q5), .second, .val (.int kk), .val (.ref b74_y0), .val (.ref b75_y0), .unset, .unset, .unset, .unset, .unset, .unset, .unset] [])) _
    exact k
  refine Go.st (V' := T75.setTop (mkF m 131 #[.val (.long q0), .second, .val (.long q1), .second, .val (.int p2), .val (.int p3), .val (.int p4), .val (.long q5), .second, .val (.int kk), .val (.ref b74_y0), .val (.ref b75_y0), .val (.int (if kk = (0 : Int32) then (if q5 = (0 : Int64) then (1 : Int32) else (1 : Int32)) else (if kk = (1 : Int32) then (if q5 = (0 : Int64) then (1 : Int32) else (1 : Int32)) else (if kk = (2 : Int32) then (if q5 = (0 : Int64) then (1 : Int32) else (1 : Int32)) else (if kk = (3 : Int32) then (if q5 = (0 : Int64) then (1 : Int32) else (1 : Int32)) else (if kk = (7 : Int32) then (if q5 = (0 : Int64) then (1 : Int32) else (1 : Int32)) else (if kk = (10 : Int32) then (if q5 = (0 : Int64) then (1 : Int32) else (1 : Int32)) else (if kk = (11 : Int32) then (0 : Int32) else (if (q5.toInt32) = (0 : Int32) then (0 : Int32) else (0 : Int32)))))))))), .val (.int (if kk = (0 : Int32) then (if q5 = (0 : Int64) then (1 : Int32) else (0 : Int32)) else (if kk = (1 : Int32) then (if q5 = (0 : Int64) then (1 : Int32) else (0 : Int32)) else (if kk = (2 : Int32) then (if q5 = (0 : Int64) then (1 : Int32) else (0 : Int32)) else (if kk = (3 : Int32) then (if q5 = (0 : Int64) then (1 : Int32) else (0 : Int32)) else (if kk = (7 : Int32) then (if q5 = (0 : Int64) then (1 : Int32) else (0 : Int32)) else (if kk = (10 : Int32) then (if q5 = (0 : Int64) then (1 : Int32) else (0 : Int32)) else (if kk = (11 : Int32) then (1 : Int32) else (if (q5.toInt32) = (0 : Int32) then (1 : Int32) else (0 : Int32)))))))))), .unset, .unset, .unset, .unset, .unset] [])) (fun t k => ?_) ?_
  · refine XS.iload X75.here hx rfl (hb hby at_39) rfl  ?_
    show Steps p.tables e below (T75.setTop (mkF m 41 #[.val (.long q0), .second, .val (.long q1), .second, .val (.int p2), .val (.int p3), .val (.int p4), .val (.long q5), .second, .val (.int kk), .val (.ref b74_y0), .val (.ref b75_y0), .unset, .unset, .unset, .unset, .unset, .unset, .unset] [(.int kk)])) _
    by_cases hc76 : kk = (0 : Int32)
    · rw [if_pos hc76, if_pos hc76] at k
      refine XS.ifYes X75.here hx rfl (pc0 := 41) (pc' := 76) rfl (hb hby at_41) rfl ((if0 _ _).trans (teq hc76).1) (by decide) (by decide) ?_
      show Steps p.tables e below (T75.setTop (mkF m 76 #[.val (.long q0), .second, .val (.long q1), .second, .val (.int p2), .val (.int p3), .val (.int p4), .val (.long q5), .second, .val (.int kk), .val (.ref b74_y0), .val (.ref b75_y0), .unset, .unset, .unset, .unset, .unset, .unset, .unset] [])) _
      refine XS.iconst X75.here hx rfl (hb hby at_76) ?_
      show Steps p.tables e below (T75.setTop (mkF m 77 #[.val (.long q0), .second, .val (.long q1), .second, .val (.int p2), .val (.int p3), .val (.int p4), .val (.long q5), .second, .val (.int kk), .val (.ref b74_y0), .val (.ref b75_y0), .unset, .unset, .unset, .unset, .unset, .unset, .unset] [(.int (1 : Int32))])) _
      refine XS.goto X75.here hx rfl (pc0 := 77) (pc' := 81) rfl (hb hby at_77) (by decide) (by decide) ?_
      show Steps p.tables e below (T75.setTop (mkF m 81 #[.val (.long q0), .second, .val (.long q1), .second, .val (.int p2), .val (.int p3), .val (.int p4), .val (.long q5), .second, .val (.int kk), .val (.ref b74_y0), .val (.ref b75_y0), .unset, .unset, .unset, .unset, .unset, .unset, .unset] [(.int (1 : Int32))])) _
      refine XS.istore X75.here hx rfl (hb hby at_81) rfl (l' := #[.val (.long q0), .second, .val (.long q1), .second, .val (.int p2), .val (.int p3), .val (.int p4), .val (.long q5), .second, .val (.int kk), .val (.ref b74_y0), .val (.ref b75_y0), .val (.int (1 : Int32)), .unset, .unset, .unset, .unset, .unset, .unset]) rfl ?_
      show Steps p.tables e below (T75.setTop (mkF m 83 #[.val (.long q0), .second, .val (.long q1), .second, .val (.int p2), .val (.int p3), .val (.int p4), .val (.long q5), .second, .val (.int kk), .val (.ref b74_y0), .val (.ref b75_y0), .val (.int (1 : Int32)), .unset, .unset, .unset, .unset, .unset, .unset] [])) _
      refine XS.iload X75.here hx rfl (hb hby at_83) rfl  ?_
      show Steps p.tables e below (T75.setTop (mkF m 85 #[.val (.long q0), .second, .val (.long q1), .second, .val (.int p2), .val (.int p3), .val (.int p4), .val (.long q5), .second, .val (.int kk), .val (.ref b74_y0), .val (.ref b75_y0), .val (.int (1 : Int32)), .unset, .unset, .unset, .unset, .unset, .unset] [(.int kk)])) _
      refine XS.bipush X75.here hx rfl (hb hby at_85) ?_
      show Steps p.tables e below (T75.setTop (mkF m 87 #[.val (.long q0), .second, .val (.long q1), .second, .val (.int p2), .val (.int p3), .val (.int p4), .val (.long q5), .second, .val (.int kk), .val (.ref b74_y0), .val (.ref b75_y0), .val (.int (1 : Int32)), .unset, .unset, .unset, .unset, .unset, .unset] [(.int (11 : Int32)), (.int kk)])) _
      refine XS.icmpYes X75.here hx rfl (pc0 := 87) (pc' := 96) rfl (hb hby at_87) rfl (feq (fun q => absurd (hc76.symm.trans q) (by decide))).2 (by decide) (by decide) ?_
      show Steps p.tables e below (T75.setTop (mkF m 96 #[.val (.long q0), .second, .val (.long q1), .second, .val (.int p2), .val (.int p3), .val (.int p4), .val (.long q5), .second, .val (.int kk), .val (.ref b74_y0), .val (.ref b75_y0), .val (.int (1 : Int32)), .unset, .unset, .unset, .unset, .unset, .unset] [])) _
      refine XS.iload X75.here hx rfl (hb hby at_96) rfl  ?_
      show Steps p.tables e below (T75.setTop (mkF m 98 #[.val (.long q0), .second, .val (.long q1), .second, .val (.int p2), .val (.int p3), .val (.int p4), .val (.long q5), .second, .val (.int kk), .val (.ref b74_y0), .val (.ref b75_y0), .val (.int (1 : Int32)), .unset, .unset, .unset, .unset, .unset, .unset] [(.int (1 : Int32))])) _
      refine XS.ifNo X75.here hx rfl (hb hby at_98) rfl ((if0 _ _).trans (feq (by decide : ¬ ((1 : Int32) = (0 : Int32)))).1) ?_
      show Steps p.tables e below (T75.setTop (mkF m 101 #[.val (.long q0), .second, .val (.long q1), .second, .val (.int p2), .val (.int p3), .val (.int p4), .val (.long q5), .second, .val (.int kk), .val (.ref b74_y0), .val (.ref b75_y0), .val (.int (1 : Int32)), .unset, .unset, .unset, .unset, .unset, .unset] [])) _
      refine XS.lload X75.here hx rfl (hb hby at_101) rfl  ?_
      show Steps p.tables e below (T75.setTop (mkF m 103 #[.val (.long q0), .second, .val (.long q1), .second, .val (.int p2), .val (.int p3), .val (.int p4), .val (.long q5), .second, .val (.int kk), .val (.ref b74_y0), .val (.ref b75_y0), .val (.int (1 : Int32)), .unset, .unset, .unset, .unset, .unset, .unset] [(.long q5)])) _
      refine XS.lconst X75.here hx rfl (hb hby at_103) ?_
      show Steps p.tables e below (T75.setTop (mkF m 104 #[.val (.long q0), .second, .val (.long q1), .second, .val (.int p2), .val (.int p3), .val (.int p4), .val (.long q5), .second, .val (.int kk), .val (.ref b74_y0), .val (.ref b75_y0), .val (.int (1 : Int32)), .unset, .unset, .unset, .unset, .unset, .unset] [(.long (0 : Int64)), (.long q5)])) _
      refine XS.lcmp X75.here hx rfl (hb hby at_104) rfl ?_
      show Steps p.tables e below (T75.setTop (mkF m 105 #[.val (.long q0), .second, .val (.long q1), .second, .val (.int p2), .val (.int p3), .val (.int p4), .val (.long q5), .second, .val (.int kk), .val (.ref b74_y0), .val (.ref b75_y0), .val (.int (1 : Int32)), .unset, .unset, .unset, .unset, .unset, .unset] [(.int (lcmpW q5 (0 : Int64)))])) _
      by_cases hc77 : q5 = (0 : Int64)
      · rw [if_pos hc77, if_pos hc77] at k
        refine XS.ifNo X75.here hx rfl (hb hby at_105) rfl ((if0 _ _).trans (teq ((lw_eq _ _).mpr hc77)).2) ?_
        show Steps p.tables e below (T75.setTop (mkF m 108 #[.val (.long q0), .second, .val (.long q1), .second, .val (.int p2), .val (.int p3), .val (.int p4), .val (.long q5), .second, .val (.int kk), .val (.ref b74_y0), .val (.ref b75_y0), .val (.int (1 : Int32)), .unset, .unset, .unset, .unset, .unset, .unset] [])) _
        refine XS.iconst X75.here hx rfl (hb hby at_108) ?_
        show Steps p.tables e below (T75.setTop (mkF m 109 #[.val (.long q0), .second, .val (.long q1), .second, .val (.int p2), .val (.int p3), .val (.int p4), .val (.long q5), .second, .val (.int kk), .val (.ref b74_y0), .val (.ref b75_y0), .val (.int (1 : Int32)), .unset, .unset, .unset, .unset, .unset, .unset] [(.int (1 : Int32))])) _
        refine XS.goto X75.here hx rfl (pc0 := 109) (pc' := 113) rfl (hb hby at_109) (by decide) (by decide) ?_
        show Steps p.tables e below (T75.setTop (mkF m 113 #[.val (.long q0), .second, .val (.long q1), .second, .val (.int p2), .val (.int p3), .val (.int p4), .val (.long q5), .second, .val (.int kk), .val (.ref b74_y0), .val (.ref b75_y0), .val (.int (1 : Int32)), .unset, .unset, .unset, .unset, .unset, .unset] [(.int (1 : Int32))])) _
        refine XS.istore X75.here hx rfl (hb hby at_113) rfl (l' := #[.val (.long q0), .second, .val (.long q1), .second, .val (.int p2), .val (.int p3), .val (.int p4), .val (.long q5), .second, .val (.int kk), .val (.ref b74_y0), .val (.ref b75_y0), .val (.int (1 : Int32)), .val (.int (1 : Int32)), .unset, .unset, .unset, .unset, .unset]) rfl ?_
        show Steps p.tables e below (T75.setTop (mkF m 115 #[.val (.long q0), .second, .val (.long q1), .second, .val (.int p2), .val (.int p3), .val (.int p4), .val (.long q5), .second, .val (.int kk), .val (.ref b74_y0), .val (.ref b75_y0), .val (.int (1 : Int32)), .val (.int (1 : Int32)), .unset, .unset, .unset, .unset, .unset] [])) _
        refine XS.goto X75.here hx rfl (pc0 := 115) (pc' := 131) rfl (hb hby at_115) (by decide) (by decide) ?_
        show Steps p.tables e below (T75.setTop (mkF m 131 #[.val (.long q0), .second, .val (.long q1), .second, .val (.int p2), .val (.int p3), .val (.int p4), .val (.long q5), .second, .val (.int kk), .val (.ref b74_y0), .val (.ref b75_y0), .val (.int (1 : Int32)), .val (.int (1 : Int32)), .unset, .unset, .unset, .unset, .unset] [])) _
        exact k
      · rw [if_neg hc77, if_neg hc77] at k
        refine XS.ifYes X75.here hx rfl (pc0 := 105) (pc' := 112) rfl (hb hby at_105) rfl ((if0 _ _).trans (feq (fun q => hc77 ((lw_eq _ _).mp q))).2) (by decide) (by decide) ?_
        show Steps p.tables e below (T75.setTop (mkF m 112 #[.val (.long q0), .second, .val (.long q1), .second, .val (.int p2), .val (.int p3), .val (.int p4), .val (.long q5), .second, .val (.int kk), .val (.ref b74_y0), .val (.ref b75_y0), .val (.int (1 : Int32)), .unset, .unset, .unset, .unset, .unset, .unset] [])) _
        refine XS.iconst X75.here hx rfl (hb hby at_112) ?_
        show Steps p.tables e below (T75.setTop (mkF m 113 #[.val (.long q0), .second, .val (.long q1), .second, .val (.int p2), .val (.int p3), .val (.int p4), .val (.long q5), .second, .val (.int kk), .val (.ref b74_y0), .val (.ref b75_y0), .val (.int (1 : Int32)), .unset, .unset, .unset, .unset, .unset, .unset] [(.int (0 : Int32))])) _
        refine XS.istore X75.here hx rfl (hb hby at_113) rfl (l' := #[.val (.long q0), .second, .val (.long q1), .second, .val (.int p2), .val (.int p3), .val (.int p4), .val (.long q5), .second, .val (.int kk), .val (.ref b74_y0), .val (.ref b75_y0), .val (.int (1 : Int32)), .val (.int (0 : Int32)), .unset, .unset, .unset, .unset, .unset]) rfl ?_
        show Steps p.tables e below (T75.setTop (mkF m 115 #[.val (.long q0), .second, .val (.long q1), .second, .val (.int p2), .val (.int p3), .val (.int p4), .val (.long q5), .second, .val (.int kk), .val (.ref b74_y0), .val (.ref b75_y0), .val (.int (1 : Int32)), .val (.int (0 : Int32)), .unset, .unset, .unset, .unset, .unset] [])) _
        refine XS.goto X75.here hx rfl (pc0 := 115) (pc' := 131) rfl (hb hby at_115) (by decide) (by decide) ?_
        show Steps p.tables e below (T75.setTop (mkF m 131 #[.val (.long q0), .second, .val (.long q1), .second, .val (.int p2), .val (.int p3), .val (.int p4), .val (.long q5), .second, .val (.int kk), .val (.ref b74_y0), .val (.ref b75_y0), .val (.int (1 : Int32)), .val (.int (0 : Int32)), .unset, .unset, .unset, .unset, .unset] [])) _
        exact k
    · rw [if_neg hc76, if_neg hc76] at k
      refine XS.ifNo X75.here hx rfl (hb hby at_41) rfl ((if0 _ _).trans (feq hc76).1) ?_
      show Steps p.tables e below (T75.setTop (mkF m 44 #[.val (.long q0), .second, .val (.long q1), .second, .val (.int p2), .val (.int p3), .val (.int p4), .val (.long q5), .second, .val (.int kk), .val (.ref b74_y0), .val (.ref b75_y0), .unset, .unset, .unset, .unset, .unset, .unset, .unset] [])) _
      refine XS.iload X75.here hx rfl (hb hby at_44) rfl  ?_
      show Steps p.tables e below (T75.setTop (mkF m 46 #[.val (.long q0), .second, .val (.long q1), .second, .val (.int p2), .val (.int p3), .val (.int p4), .val (.long q5), .second, .val (.int kk), .val (.ref b74_y0), .val (.ref b75_y0), .unset, .unset, .unset, .unset, .unset, .unset, .unset] [(.int kk)])) _
      refine XS.iconst X75.here hx rfl (hb hby at_46) ?_
      show Steps p.tables e below (T75.setTop (mkF m 47 #[.val (.long q0), .second, .val (.long q1), .second, .val (.int p2), .val (.int p3), .val (.int p4), .val (.long q5), .second, .val (.int kk), .val (.ref b74_y0), .val (.ref b75_y0), .unset, .unset, .unset, .unset, .unset, .unset, .unset] [(.int (1 : Int32)), (.int kk)])) _
      by_cases hc78 : kk = (1 : Int32)
      · rw [if_pos hc78, if_pos hc78] at k
        refine XS.icmpYes X75.here hx rfl (pc0 := 47) (pc' := 76) rfl (hb hby at_47) rfl (teq hc78).1 (by decide) (by decide) ?_
        show Steps p.tables e below (T75.setTop (mkF m 76 #[.val (.long q0), .second, .val (.long q1), .second, .val (.int p2), .val (.int p3), .val (.int p4), .val (.long q5), .second, .val (.int kk), .val (.ref b74_y0), .val (.ref b75_y0), .unset, .unset, .unset, .unset, .unset, .unset, .unset] [])) _
        refine XS.iconst X75.here hx rfl (hb hby at_76) ?_
        show Steps p.tables e below (T75.setTop (mkF m 77 #[.val (.long q0), .second, .val (.long q1), .second, .val (.int p2), .val (.int p3), .val (.int p4), .val (.long q5), .second, .val (.int kk), .val (.ref b74_y0), .val (.ref b75_y0), .unset, .unset, .unset, .unset, .unset, .unset, .unset] [(.int (1 : Int32))])) _
        refine XS.goto X75.here hx rfl (pc0 := 77) (pc' := 81) rfl (hb hby at_77) (by decide) (by decide) ?_
        show Steps p.tables e below (T75.setTop (mkF m 81 #[.val (.long q0), .second, .val (.long q1), .second, .val (.int p2), .val (.int p3), .val (.int p4), .val (.long q5), .second, .val (.int kk), .val (.ref b74_y0), .val (.ref b75_y0), .unset, .unset, .unset, .unset, .unset, .unset, .unset] [(.int (1 : Int32))])) _
        refine XS.istore X75.here hx rfl (hb hby at_81) rfl (l' := #[.val (.long q0), .second, .val (.long q1), .second, .val (.int p2), .val (.int p3), .val (.int p4), .val (.long q5), .second, .val (.int kk), .val (.ref b74_y0), .val (.ref b75_y0), .val (.int (1 : Int32)), .unset, .unset, .unset, .unset, .unset, .unset]) rfl ?_
        show Steps p.tables e below (T75.setTop (mkF m 83 #[.val (.long q0), .second, .val (.long q1), .second, .val (.int p2), .val (.int p3), .val (.int p4), .val (.long q5), .second, .val (.int kk), .val (.ref b74_y0), .val (.ref b75_y0), .val (.int (1 : Int32)), .unset, .unset, .unset, .unset, .unset, .unset] [])) _
        refine XS.iload X75.here hx rfl (hb hby at_83) rfl  ?_
        show Steps p.tables e below (T75.setTop (mkF m 85 #[.val (.long q0), .second, .val (.long q1), .second, .val (.int p2), .val (.int p3), .val (.int p4), .val (.long q5), .second, .val (.int kk), .val (.ref b74_y0), .val (.ref b75_y0), .val (.int (1 : Int32)), .unset, .unset, .unset, .unset, .unset, .unset] [(.int kk)])) _
        refine XS.bipush X75.here hx rfl (hb hby at_85) ?_
        show Steps p.tables e below (T75.setTop (mkF m 87 #[.val (.long q0), .second, .val (.long q1), .second, .val (.int p2), .val (.int p3), .val (.int p4), .val (.long q5), .second, .val (.int kk), .val (.ref b74_y0), .val (.ref b75_y0), .val (.int (1 : Int32)), .unset, .unset, .unset, .unset, .unset, .unset] [(.int (11 : Int32)), (.int kk)])) _
        refine XS.icmpYes X75.here hx rfl (pc0 := 87) (pc' := 96) rfl (hb hby at_87) rfl (feq (fun q => absurd (hc78.symm.trans q) (by decide))).2 (by decide) (by decide) ?_
        show Steps p.tables e below (T75.setTop (mkF m 96 #[.val (.long q0), .second, .val (.long q1), .second, .val (.int p2), .val (.int p3), .val (.int p4), .val (.long q5), .second, .val (.int kk), .val (.ref b74_y0), .val (.ref b75_y0), .val (.int (1 : Int32)), .unset, .unset, .unset, .unset, .unset, .unset] [])) _
        refine XS.iload X75.here hx rfl (hb hby at_96) rfl  ?_
        show Steps p.tables e below (T75.setTop (mkF m 98 #[.val (.long q0), .second, .val (.long q1), .second, .val (.int p2), .val (.int p3), .val (.int p4), .val (.long q5), .second, .val (.int kk), .val (.ref b74_y0), .val (.ref b75_y0), .val (.int (1 : Int32)), .unset, .unset, .unset, .unset, .unset, .unset] [(.int (1 : Int32))])) _
        refine XS.ifNo X75.here hx rfl (hb hby at_98) rfl ((if0 _ _).trans (feq (by decide : ¬ ((1 : Int32) = (0 : Int32)))).1) ?_
        show Steps p.tables e below (T75.setTop (mkF m 101 #[.val (.long q0), .second, .val (.long q1), .second, .val (.int p2), .val (.int p3), .val (.int p4), .val (.long q5), .second, .val (.int kk), .val (.ref b74_y0), .val (.ref b75_y0), .val (.int (1 : Int32)), .unset, .unset, .unset, .unset, .unset, .unset] [])) _
        refine XS.lload X75.here hx rfl (hb hby at_101) rfl  ?_
        show Steps p.tables e below (T75.setTop (mkF m 103 #[.val (.long q0), .second, .val (.long q1), .second, .val (.int p2), .val (.int p3), .val (.int p4), .val (.long q5), .second, .val (.int kk), .val (.ref b74_y0), .val (.ref b75_y0), .val (.int (1 : Int32)), .unset, .unset, .unset, .unset, .unset, .unset] [(.long q5)])) _
        refine XS.lconst X75.here hx rfl (hb hby at_103) ?_
        show Steps p.tables e below (T75.setTop (mkF m 104 #[.val (.long q0), .second, .val (.long q1), .second, .val (.int p2), .val (.int p3), .val (.int p4), .val (.long q5), .second, .val (.int kk), .val (.ref b74_y0), .val (.ref b75_y0), .val (.int (1 : Int32)), .unset, .unset, .unset, .unset, .unset, .unset] [(.long (0 : Int64)), (.long q5)])) _
        refine XS.lcmp X75.here hx rfl (hb hby at_104) rfl ?_
        show Steps p.tables e below (T75.setTop (mkF m 105 #[.val (.long q0), .second, .val (.long q1), .second, .val (.int p2), .val (.int p3), .val (.int p4), .val (.long q5), .second, .val (.int kk), .val (.ref b74_y0), .val (.ref b75_y0), .val (.int (1 : Int32)), .unset, .unset, .unset, .unset, .unset, .unset] [(.int (lcmpW q5 (0 : Int64)))])) _
        by_cases hc79 : q5 = (0 : Int64)
        · rw [if_pos hc79, if_pos hc79] at k
          refine XS.ifNo X75.here hx rfl (hb hby at_105) rfl ((if0 _ _).trans (teq ((lw_eq _ _).mpr hc79)).2) ?_
          show Steps p.tables e below (T75.setTop (mkF m 108 #[.val (.long q0), .second, .val (.long q1), .second, .val (.int p2), .val (.int p3), .val (.int p4), .val (.long q5), .second, .val (.int kk), .val (.ref b74_y0), .val (.ref b75_y0), .val (.int (1 : Int32)), .unset, .unset, .unset, .unset, .unset, .unset] [])) _
          refine XS.iconst X75.here hx rfl (hb hby at_108) ?_
          show Steps p.tables e below (T75.setTop (mkF m 109 #[.val (.long q0), .second, .val (.long q1), .second, .val (.int p2), .val (.int p3), .val (.int p4), .val (.long q5), .second, .val (.int kk), .val (.ref b74_y0), .val (.ref b75_y0), .val (.int (1 : Int32)), .unset, .unset, .unset, .unset, .unset, .unset] [(.int (1 : Int32))])) _
          refine XS.goto X75.here hx rfl (pc0 := 109) (pc' := 113) rfl (hb hby at_109) (by decide) (by decide) ?_
          show Steps p.tables e below (T75.setTop (mkF m 113 #[.val (.long q0), .second, .val (.long q1), .second, .val (.int p2), .val (.int p3), .val (.int p4), .val (.long q5), .second, .val (.int kk), .val (.ref b74_y0), .val (.ref b75_y0), .val (.int (1 : Int32)), .unset, .unset, .unset, .unset, .unset, .unset] [(.int (1 : Int32))])) _
          refine XS.istore X75.here hx rfl (hb hby at_113) rfl (l' := #[.val (.long q0), .second, .val (.long q1), .second, .val (.int p2), .val (.int p3), .val (.int p4), .val (.long q5), .second, .val (.int kk), .val (.ref b74_y0), .val (.ref b75_y0), .val (.int (1 : Int32)), .val (.int (1 : Int32)), .unset, .unset, .unset, .unset, .unset]) rfl ?_
          show Steps p.tables e below (T75.setTop (mkF m 115 #[.val (.long q0), .second, .val (.long q1), .second, .val (.int p2), .val (.int p3), .val (.int p4), .val (.long q5), .second, .val (.int kk), .val (.ref b74_y0), .val (.ref b75_y0), .val (.int (1 : Int32)), .val (.int (1 : Int32)), .unset, .unset, .unset, .unset, .unset] [])) _
          refine XS.goto X75.here hx rfl (pc0 := 115) (pc' := 131) rfl (hb hby at_115) (by decide) (by decide) ?_
          show Steps p.tables e below (T75.setTop (mkF m 131 #[.val (.long q0), .second, .val (.long q1), .second, .val (.int p2), .val (.int p3), .val (.int p4), .val (.long q5), .second, .val (.int kk), .val (.ref b74_y0), .val (.ref b75_y0), .val (.int (1 : Int32)), .val (.int (1 : Int32)), .unset, .unset, .unset, .unset, .unset] [])) _
          exact k
        · rw [if_neg hc79, if_neg hc79] at k
          refine XS.ifYes X75.here hx rfl (pc0 := 105) (pc' := 112) rfl (hb hby at_105) rfl ((if0 _ _).trans (feq (fun q => hc79 ((lw_eq _ _).mp q))).2) (by decide) (by decide) ?_
          show Steps p.tables e below (T75.setTop (mkF m 112 #[.val (.long q0), .second, .val (.long q1), .second, .val (.int p2), .val (.int p3), .val (.int p4), .val (.long q5), .second, .val (.int kk), .val (.ref b74_y0), .val (.ref b75_y0), .val (.int (1 : Int32)), .unset, .unset, .unset, .unset, .unset, .unset] [])) _
          refine XS.iconst X75.here hx rfl (hb hby at_112) ?_
          show Steps p.tables e below (T75.setTop (mkF m 113 #[.val (.long q0), .second, .val (.long q1), .second, .val (.int p2), .val (.int p3), .val (.int p4), .val (.long q5), .second, .val (.int kk), .val (.ref b74_y0), .val (.ref b75_y0), .val (.int (1 : Int32)), .unset, .unset, .unset, .unset, .unset, .unset] [(.int (0 : Int32))])) _
          refine XS.istore X75.here hx rfl (hb hby at_113) rfl (l' := #[.val (.long q0), .second, .val (.long q1), .second, .val (.int p2), .val (.int p3), .val (.int p4), .val (.long q5), .second, .val (.int kk), .val (.ref b74_y0), .val (.ref b75_y0), .val (.int (1 : Int32)), .val (.int (0 : Int32)), .unset, .unset, .unset, .unset, .unset]) rfl ?_
          show Steps p.tables e below (T75.setTop (mkF m 115 #[.val (.long q0), .second, .val (.long q1), .second, .val (.int p2), .val (.int p3), .val (.int p4), .val (.long q5), .second, .val (.int kk), .val (.ref b74_y0), .val (.ref b75_y0), .val (.int (1 : Int32)), .val (.int (0 : Int32)), .unset, .unset, .unset, .unset, .unset] [])) _
          refine XS.goto X75.here hx rfl (pc0 := 115) (pc' := 131) rfl (hb hby at_115) (by decide) (by decide) ?_
          show Steps p.tables e below (T75.setTop (mkF m 131 #[.val (.long q0), .second, .val (.long q1), .second, .val (.int p2), .val (.int p3), .val (.int p4), .val (.long q5), .second, .val (.int kk), .val (.ref b74_y0), .val (.ref b75_y0), .val (.int (1 : Int32)), .val (.int (0 : Int32)), .unset, .unset, .unset, .unset, .unset] [])) _
          exact k
      · rw [if_neg hc78, if_neg hc78] at k
        refine XS.icmpNo X75.here hx rfl (hb hby at_47) rfl (feq hc78).1 ?_
        show Steps p.tables e below (T75.setTop (mkF m 50 #[.val (.long q0), .second, .val (.long q1), .second, .val (.int p2), .val (.int p3), .val (.int p4), .val (.long q5), .second, .val (.int kk), .val (.ref b74_y0), .val (.ref b75_y0), .unset, .unset, .unset, .unset, .unset, .unset, .unset] [])) _
        refine XS.iload X75.here hx rfl (hb hby at_50) rfl  ?_
        show Steps p.tables e below (T75.setTop (mkF m 52 #[.val (.long q0), .second, .val (.long q1), .second, .val (.int p2), .val (.int p3), .val (.int p4), .val (.long q5), .second, .val (.int kk), .val (.ref b74_y0), .val (.ref b75_y0), .unset, .unset, .unset, .unset, .unset, .unset, .unset] [(.int kk)])) _
        refine XS.iconst X75.here hx rfl (hb hby at_52) ?_
        show Steps p.tables e below (T75.setTop (mkF m 53 #[.val (.long q0), .second, .val (.long q1), .second, .val (.int p2), .val (.int p3), .val (.int p4), .val (.long q5), .second, .val (.int kk), .val (.ref b74_y0), .val (.ref b75_y0), .unset, .unset, .unset, .unset, .unset, .unset, .unset] [(.int (2 : Int32)), (.int kk)])) _
        by_cases hc80 : kk = (2 : Int32)
        · rw [if_pos hc80, if_pos hc80] at k
          refine XS.icmpYes X75.here hx rfl (pc0 := 53) (pc' := 76) rfl (hb hby at_53) rfl (teq hc80).1 (by decide) (by decide) ?_
          show Steps p.tables e below (T75.setTop (mkF m 76 #[.val (.long q0), .second, .val (.long q1), .second, .val (.int p2), .val (.int p3), .val (.int p4), .val (.long q5), .second, .val (.int kk), .val (.ref b74_y0), .val (.ref b75_y0), .unset, .unset, .unset, .unset, .unset, .unset, .unset] [])) _
          refine XS.iconst X75.here hx rfl (hb hby at_76) ?_
          show Steps p.tables e below (T75.setTop (mkF m 77 #[.val (.long q0), .second, .val (.long q1), .second, .val (.int p2), .val (.int p3), .val (.int p4), .val (.long q5), .second, .val (.int kk), .val (.ref b74_y0), .val (.ref b75_y0), .unset, .unset, .unset, .unset, .unset, .unset, .unset] [(.int (1 : Int32))])) _
          refine XS.goto X75.here hx rfl (pc0 := 77) (pc' := 81) rfl (hb hby at_77) (by decide) (by decide) ?_
          show Steps p.tables e below (T75.setTop (mkF m 81 #[.val (.long q0), .second, .val (.long q1), .second, .val (.int p2), .val (.int p3), .val (.int p4), .val (.long q5), .second, .val (.int kk), .val (.ref b74_y0), .val (.ref b75_y0), .unset, .unset, .unset, .unset, .unset, .unset, .unset] [(.int (1 : Int32))])) _
          refine XS.istore X75.here hx rfl (hb hby at_81) rfl (l' := #[.val (.long q0), .second, .val (.long q1), .second, .val (.int p2), .val (.int p3), .val (.int p4), .val (.long q5), .second, .val (.int kk), .val (.ref b74_y0), .val (.ref b75_y0), .val (.int (1 : Int32)), .unset, .unset, .unset, .unset, .unset, .unset]) rfl ?_
          show Steps p.tables e below (T75.setTop (mkF m 83 #[.val (.long q0), .second, .val (.long q1), .second, .val (.int p2), .val (.int p3), .val (.int p4), .val (.long q5), .second, .val (.int kk), .val (.ref b74_y0), .val (.ref b75_y0), .val (.int (1 : Int32)), .unset, .unset, .unset, .unset, .unset, .unset] [])) _
          refine XS.iload X75.here hx rfl (hb hby at_83) rfl  ?_
          show Steps p.tables e below (T75.setTop (mkF m 85 #[.val (.long q0), .second, .val (.long q1), .second, .val (.int p2), .val (.int p3), .val (.int p4), .val (.long q5), .second, .val (.int kk), .val (.ref b74_y0), .val (.ref b75_y0), .val (.int (1 : Int32)), .unset, .unset, .unset, .unset, .unset, .unset] [(.int kk)])) _
          refine XS.bipush X75.here hx rfl (hb hby at_85) ?_
          show Steps p.tables e below (T75.setTop (mkF m 87 #[.val (.long q0), .second, .val (.long q1), .second, .val (.int p2), .val (.int p3), .val (.int p4), .val (.long q5), .second, .val (.int kk), .val (.ref b74_y0), .val (.ref b75_y0), .val (.int (1 : Int32)), .unset, .unset, .unset, .unset, .unset, .unset] [(.int (11 : Int32)), (.int kk)])) _
          refine XS.icmpYes X75.here hx rfl (pc0 := 87) (pc' := 96) rfl (hb hby at_87) rfl (feq (fun q => absurd (hc80.symm.trans q) (by decide))).2 (by decide) (by decide) ?_
          show Steps p.tables e below (T75.setTop (mkF m 96 #[.val (.long q0), .second, .val (.long q1), .second, .val (.int p2), .val (.int p3), .val (.int p4), .val (.long q5), .second, .val (.int kk), .val (.ref b74_y0), .val (.ref b75_y0), .val (.int (1 : Int32)), .unset, .unset, .unset, .unset, .unset, .unset] [])) _
          refine XS.iload X75.here hx rfl (hb hby at_96) rfl  ?_
          show Steps p.tables e below (T75.setTop (mkF m 98 #[.val (.long q0), .second, .val (.long q1), .second, .val (.int p2), .val (.int p3), .val (.int p4), .val (.long q5), .second, .val (.int kk), .val (.ref b74_y0), .val (.ref b75_y0), .val (.int (1 : Int32)), .unset, .unset, .unset, .unset, .unset, .unset] [(.int (1 : Int32))])) _
          refine XS.ifNo X75.here hx rfl (hb hby at_98) rfl ((if0 _ _).trans (feq (by decide : ¬ ((1 : Int32) = (0 : Int32)))).1) ?_
          show Steps p.tables e below (T75.setTop (mkF m 101 #[.val (.long q0), .second, .val (.long q1), .second, .val (.int p2), .val (.int p3), .val (.int p4), .val (.long q5), .second, .val (.int kk), .val (.ref b74_y0), .val (.ref b75_y0), .val (.int (1 : Int32)), .unset, .unset, .unset, .unset, .unset, .unset] [])) _
          refine XS.lload X75.here hx rfl (hb hby at_101) rfl  ?_
          show Steps p.tables e below (T75.setTop (mkF m 103 #[.val (.long q0), .second, .val (.long q1), .second, .val (.int p2), .val (.int p3), .val (.int p4), .val (.long q5), .second, .val (.int kk), .val (.ref b74_y0), .val (.ref b75_y0), .val (.int (1 : Int32)), .unset, .unset, .unset, .unset, .unset, .unset] [(.long q5)])) _
          refine XS.lconst X75.here hx rfl (hb hby at_103) ?_
          show Steps p.tables e below (T75.setTop (mkF m 104 #[.val (.long q0), .second, .val (.long q1), .second, .val (.int p2), .val (.int p3), .val (.int p4), .val (.long q5), .second, .val (.int kk), .val (.ref b74_y0), .val (.ref b75_y0), .val (.int (1 : Int32)), .unset, .unset, .unset, .unset, .unset, .unset] [(.long (0 : Int64)), (.long q5)])) _
          refine XS.lcmp X75.here hx rfl (hb hby at_104) rfl ?_
          show Steps p.tables e below (T75.setTop (mkF m 105 #[.val (.long q0), .second, .val (.long q1), .second, .val (.int p2), .val (.int p3), .val (.int p4), .val (.long q5), .second, .val (.int kk), .val (.ref b74_y0), .val (.ref b75_y0), .val (.int (1 : Int32)), .unset, .unset, .unset, .unset, .unset, .unset] [(.int (lcmpW q5 (0 : Int64)))])) _
          by_cases hc81 : q5 = (0 : Int64)
          · rw [if_pos hc81, if_pos hc81] at k
            refine XS.ifNo X75.here hx rfl (hb hby at_105) rfl ((if0 _ _).trans (teq ((lw_eq _ _).mpr hc81)).2) ?_
            show Steps p.tables e below (T75.setTop (mkF m 108 #[.val (.long q0), .second, .val (.long q1), .second, .val (.int p2), .val (.int p3), .val (.int p4), .val (.long q5), .second, .val (.int kk), .val (.ref b74_y0), .val (.ref b75_y0), .val (.int (1 : Int32)), .unset, .unset, .unset, .unset, .unset, .unset] [])) _
            refine XS.iconst X75.here hx rfl (hb hby at_108) ?_
            show Steps p.tables e below (T75.setTop (mkF m 109 #[.val (.long q0), .second, .val (.long q1), .second, .val (.int p2), .val (.int p3), .val (.int p4), .val (.long q5), .second, .val (.int kk), .val (.ref b74_y0), .val (.ref b75_y0), .val (.int (1 : Int32)), .unset, .unset, .unset, .unset, .unset, .unset] [(.int (1 : Int32))])) _
            refine XS.goto X75.here hx rfl (pc0 := 109) (pc' := 113) rfl (hb hby at_109) (by decide) (by decide) ?_
            show Steps p.tables e below (T75.setTop (mkF m 113 #[.val (.long q0), .second, .val (.long q1), .second, .val (.int p2), .val (.int p3), .val (.int p4), .val (.long q5), .second, .val (.int kk), .val (.ref b74_y0), .val (.ref b75_y0), .val (.int (1 : Int32)), .unset, .unset, .unset, .unset, .unset, .unset] [(.int (1 : Int32))])) _
            refine XS.istore X75.here hx rfl (hb hby at_113) rfl (l' := #[.val (.long q0), .second, .val (.long q1), .second, .val (.int p2), .val (.int p3), .val (.int p4), .val (.long q5), .second, .val (.int kk), .val (.ref b74_y0), .val (.ref b75_y0), .val (.int (1 : Int32)), .val (.int (1 : Int32)), .unset, .unset, .unset, .unset, .unset]) rfl ?_
            show Steps p.tables e below (T75.setTop (mkF m 115 #[.val (.long q0), .second, .val (.long q1), .second, .val (.int p2), .val (.int p3), .val (.int p4), .val (.long q5), .second, .val (.int kk), .val (.ref b74_y0), .val (.ref b75_y0), .val (.int (1 : Int32)), .val (.int (1 : Int32)), .unset, .unset, .unset, .unset, .unset] [])) _
            refine XS.goto X75.here hx rfl (pc0 := 115) (pc' := 131) rfl (hb hby at_115) (by decide) (by decide) ?_
            show Steps p.tables e below (T75.setTop (mkF m 131 #[.val (.long q0), .second, .val (.long q1), .second, .val (.int p2), .val (.int p3), .val (.int p4), .val (.long q5), .second, .val (.int kk), .val (.ref b74_y0), .val (.ref b75_y0), .val (.int (1 : Int32)), .val (.int (1 : Int32)), .unset, .unset, .unset, .unset, .unset] [])) _
            exact k
          · rw [if_neg hc81, if_neg hc81] at k
            refine XS.ifYes X75.here hx rfl (pc0 := 105) (pc' := 112) rfl (hb hby at_105) rfl ((if0 _ _).trans (feq (fun q => hc81 ((lw_eq _ _).mp q))).2) (by decide) (by decide) ?_
            show Steps p.tables e below (T75.setTop (mkF m 112 #[.val (.long q0), .second, .val (.long q1), .second, .val (.int p2), .val (.int p3), .val (.int p4), .val (.long q5), .second, .val (.int kk), .val (.ref b74_y0), .val (.ref b75_y0), .val (.int (1 : Int32)), .unset, .unset, .unset, .unset, .unset, .unset] [])) _
            refine XS.iconst X75.here hx rfl (hb hby at_112) ?_
            show Steps p.tables e below (T75.setTop (mkF m 113 #[.val (.long q0), .second, .val (.long q1), .second, .val (.int p2), .val (.int p3), .val (.int p4), .val (.long q5), .second, .val (.int kk), .val (.ref b74_y0), .val (.ref b75_y0), .val (.int (1 : Int32)), .unset, .unset, .unset, .unset, .unset, .unset] [(.int (0 : Int32))])) _
            refine XS.istore X75.here hx rfl (hb hby at_113) rfl (l' := #[.val (.long q0), .second, .val (.long q1), .second, .val (.int p2), .val (.int p3), .val (.int p4), .val (.long q5), .second, .val (.int kk), .val (.ref b74_y0), .val (.ref b75_y0), .val (.int (1 : Int32)), .val (.int (0 : Int32)), .unset, .unset, .unset, .unset, .unset]) rfl ?_
            show Steps p.tables e below (T75.setTop (mkF m 115 #[.val (.long q0), .second, .val (.long q1), .second, .val (.int p2), .val (.int p3), .val (.int p4), .val (.long q5), .second, .val (.int kk), .val (.ref b74_y0), .val (.ref b75_y0), .val (.int (1 : Int32)), .val (.int (0 : Int32)), .unset, .unset, .unset, .unset, .unset] [])) _
            refine XS.goto X75.here hx rfl (pc0 := 115) (pc' := 131) rfl (hb hby at_115) (by decide) (by decide) ?_
            show Steps p.tables e below (T75.setTop (mkF m 131 #[.val (.long q0), .second, .val (.long q1), .second, .val (.int p2), .val (.int p3), .val (.int p4), .val (.long q5), .second, .val (.int kk), .val (.ref b74_y0), .val (.ref b75_y0), .val (.int (1 : Int32)), .val (.int (0 : Int32)), .unset, .unset, .unset, .unset, .unset] [])) _
            exact k
        · rw [if_neg hc80, if_neg hc80] at k
          refine XS.icmpNo X75.here hx rfl (hb hby at_53) rfl (feq hc80).1 ?_
          show Steps p.tables e below (T75.setTop (mkF m 56 #[.val (.long q0), .second, .val (.long q1), .second, .val (.int p2), .val (.int p3), .val (.int p4), .val (.long q5), .second, .val (.int kk), .val (.ref b74_y0), .val (.ref b75_y0), .unset, .unset, .unset, .unset, .unset, .unset, .unset] [])) _
          refine XS.iload X75.here hx rfl (hb hby at_56) rfl  ?_
          show Steps p.tables e below (T75.setTop (mkF m 58 #[.val (.long q0), .second, .val (.long q1), .second, .val (.int p2), .val (.int p3), .val (.int p4), .val (.long q5), .second, .val (.int kk), .val (.ref b74_y0), .val (.ref b75_y0), .unset, .unset, .unset, .unset, .unset, .unset, .unset] [(.int kk)])) _
          refine XS.iconst X75.here hx rfl (hb hby at_58) ?_
          show Steps p.tables e below (T75.setTop (mkF m 59 #[.val (.long q0), .second, .val (.long q1), .second, .val (.int p2), .val (.int p3), .val (.int p4), .val (.long q5), .second, .val (.int kk), .val (.ref b74_y0), .val (.ref b75_y0), .unset, .unset, .unset, .unset, .unset, .unset, .unset] [(.int (3 : Int32)), (.int kk)])) _
          by_cases hc82 : kk = (3 : Int32)
          · rw [if_pos hc82, if_pos hc82] at k
            refine XS.icmpYes X75.here hx rfl (pc0 := 59) (pc' := 76) rfl (hb hby at_59) rfl (teq hc82).1 (by decide) (by decide) ?_
            show Steps p.tables e below (T75.setTop (mkF m 76 #[.val (.long q0), .second, .val (.long q1), .second, .val (.int p2), .val (.int p3), .val (.int p4), .val (.long q5), .second, .val (.int kk), .val (.ref b74_y0), .val (.ref b75_y0), .unset, .unset, .unset, .unset, .unset, .unset, .unset] [])) _
            refine XS.iconst X75.here hx rfl (hb hby at_76) ?_
            show Steps p.tables e below (T75.setTop (mkF m 77 #[.val (.long q0), .second, .val (.long q1), .second, .val (.int p2), .val (.int p3), .val (.int p4), .val (.long q5), .second, .val (.int kk), .val (.ref b74_y0), .val (.ref b75_y0), .unset, .unset, .unset, .unset, .unset, .unset, .unset] [(.int (1 : Int32))])) _
            refine XS.goto X75.here hx rfl (pc0 := 77) (pc' := 81) rfl (hb hby at_77) (by decide) (by decide) ?_
            show Steps p.tables e below (T75.setTop (mkF m 81 #[.val (.long q0), .second, .val (.long q1), .second, .val (.int p2), .val (.int p3), .val (.int p4), .val (.long q5), .second, .val (.int kk), .val (.ref b74_y0), .val (.ref b75_y0), .unset, .unset, .unset, .unset, .unset, .unset, .unset] [(.int (1 : Int32))])) _
            refine XS.istore X75.here hx rfl (hb hby at_81) rfl (l' := #[.val (.long q0), .second, .val (.long q1), .second, .val (.int p2), .val (.int p3), .val (.int p4), .val (.long q5), .second, .val (.int kk), .val (.ref b74_y0), .val (.ref b75_y0), .val (.int (1 : Int32)), .unset, .unset, .unset, .unset, .unset, .unset]) rfl ?_
            show Steps p.tables e below (T75.setTop (mkF m 83 #[.val (.long q0), .second, .val (.long q1), .second, .val (.int p2), .val (.int p3), .val (.int p4), .val (.long q5), .second, .val (.int kk), .val (.ref b74_y0), .val (.ref b75_y0), .val (.int (1 : Int32)), .unset, .unset, .unset, .unset, .unset, .unset] [])) _
            refine XS.iload X75.here hx rfl (hb hby at_83) rfl  ?_
            show Steps p.tables e below (T75.setTop (mkF m 85 #[.val (.long q0), .second, .val (.long q1), .second, .val (.int p2), .val (.int p3), .val (.int p4), .val (.long q5), .second, .val (.int kk), .val (.ref b74_y0), .val (.ref b75_y0), .val (.int (1 : Int32)), .unset, .unset, .unset, .unset, .unset, .unset] [(.int kk)])) _
            refine XS.bipush X75.here hx rfl (hb hby at_85) ?_
            show Steps p.tables e below (T75.setTop (mkF m 87 #[.val (.long q0), .second, .val (.long q1), .second, .val (.int p2), .val (.int p3), .val (.int p4), .val (.long q5), .second, .val (.int kk), .val (.ref b74_y0), .val (.ref b75_y0), .val (.int (1 : Int32)), .unset, .unset, .unset, .unset, .unset, .unset] [(.int (11 : Int32)), (.int kk)])) _
            refine XS.icmpYes X75.here hx rfl (pc0 := 87) (pc' := 96) rfl (hb hby at_87) rfl (feq (fun q => absurd (hc82.symm.trans q) (by decide))).2 (by decide) (by decide) ?_
            show Steps p.tables e below (T75.setTop (mkF m 96 #[.val (.long q0), .second, .val (.long q1), .second, .val (.int p2), .val (.int p3), .val (.int p4), .val (.long q5), .second, .val (.int kk), .val (.ref b74_y0), .val (.ref b75_y0), .val (.int (1 : Int32)), .unset, .unset, .unset, .unset, .unset, .unset] [])) _
            refine XS.iload X75.here hx rfl (hb hby at_96) rfl  ?_
            show Steps p.tables e below (T75.setTop (mkF m 98 #[.val (.long q0), .second, .val (.long q1), .second, .val (.int p2), .val (.int p3), .val (.int p4), .val (.long q5), .second, .val (.int kk), .val (.ref b74_y0), .val (.ref b75_y0), .val (.int (1 : Int32)), .unset, .unset, .unset, .unset, .unset, .unset] [(.int (1 : Int32))])) _
            refine XS.ifNo X75.here hx rfl (hb hby at_98) rfl ((if0 _ _).trans (feq (by decide : ¬ ((1 : Int32) = (0 : Int32)))).1) ?_
            show Steps p.tables e below (T75.setTop (mkF m 101 #[.val (.long q0), .second, .val (.long q1), .second, .val (.int p2), .val (.int p3), .val (.int p4), .val (.long q5), .second, .val (.int kk), .val (.ref b74_y0), .val (.ref b75_y0), .val (.int (1 : Int32)), .unset, .unset, .unset, .unset, .unset, .unset] [])) _
            refine XS.lload X75.here hx rfl (hb hby at_101) rfl  ?_
            show Steps p.tables e below (T75.setTop (mkF m 103 #[.val (.long q0), .second, .val (.long q1), .second, .val (.int p2), .val (.int p3), .val (.int p4), .val (.long q5), .second, .val (.int kk), .val (.ref b74_y0), .val (.ref b75_y0), .val (.int (1 : Int32)), .unset, .unset, .unset, .unset, .unset, .unset] [(.long q5)])) _
            refine XS.lconst X75.here hx rfl (hb hby at_103) ?_
            show Steps p.tables e below (T75.setTop (mkF m 104 #[.val (.long q0), .second, .val (.long q1), .second, .val (.int p2), .val (.int p3), .val (.int p4), .val (.long q5), .second, .val (.int kk), .val (.ref b74_y0), .val (.ref b75_y0), .val (.int (1 : Int32)), .unset, .unset, .unset, .unset, .unset, .unset] [(.long (0 : Int64)), (.long q5)])) _
            refine XS.lcmp X75.here hx rfl (hb hby at_104) rfl ?_
            show Steps p.tables e below (T75.setTop (mkF m 105 #[.val (.long q0), .second, .val (.long q1), .second, .val (.int p2), .val (.int p3), .val (.int p4), .val (.long q5), .second, .val (.int kk), .val (.ref b74_y0), .val (.ref b75_y0), .val (.int (1 : Int32)), .unset, .unset, .unset, .unset, .unset, .unset] [(.int (lcmpW q5 (0 : Int64)))])) _
            by_cases hc83 : q5 = (0 : Int64)
            · rw [if_pos hc83, if_pos hc83] at k
              refine XS.ifNo X75.here hx rfl (hb hby at_105) rfl ((if0 _ _).trans (teq ((lw_eq _ _).mpr hc83)).2) ?_
              show Steps p.tables e below (T75.setTop (mkF m 108 #[.val (.long q0), .second, .val (.long q1), .second, .val (.int p2), .val (.int p3), .val (.int p4), .val (.long q5), .second, .val (.int kk), .val (.ref b74_y0), .val (.ref b75_y0), .val (.int (1 : Int32)), .unset, .unset, .unset, .unset, .unset, .unset] [])) _
              refine XS.iconst X75.here hx rfl (hb hby at_108) ?_
              show Steps p.tables e below (T75.setTop (mkF m 109 #[.val (.long q0), .second, .val (.long q1), .second, .val (.int p2), .val (.int p3), .val (.int p4), .val (.long q5), .second, .val (.int kk), .val (.ref b74_y0), .val (.ref b75_y0), .val (.int (1 : Int32)), .unset, .unset, .unset, .unset, .unset, .unset] [(.int (1 : Int32))])) _
              refine XS.goto X75.here hx rfl (pc0 := 109) (pc' := 113) rfl (hb hby at_109) (by decide) (by decide) ?_
              show Steps p.tables e below (T75.setTop (mkF m 113 #[.val (.long q0), .second, .val (.long q1), .second, .val (.int p2), .val (.int p3), .val (.int p4), .val (.long q5), .second, .val (.int kk), .val (.ref b74_y0), .val (.ref b75_y0), .val (.int (1 : Int32)), .unset, .unset, .unset, .unset, .unset, .unset] [(.int (1 : Int32))])) _
              refine XS.istore X75.here hx rfl (hb hby at_113) rfl (l' := #[.val (.long q0), .second, .val (.long q1), .second, .val (.int p2), .val (.int p3), .val (.int p4), .val (.long q5), .second, .val (.int kk), .val (.ref b74_y0), .val (.ref b75_y0), .val (.int (1 : Int32)), .val (.int (1 : Int32)), .unset, .unset, .unset, .unset, .unset]) rfl ?_
              show Steps p.tables e below (T75.setTop (mkF m 115 #[.val (.long q0), .second, .val (.long q1), .second, .val (.int p2), .val (.int p3), .val (.int p4), .val (.long q5), .second, .val (.int kk), .val (.ref b74_y0), .val (.ref b75_y0), .val (.int (1 : Int32)), .val (.int (1 : Int32)), .unset, .unset, .unset, .unset, .unset] [])) _
              refine XS.goto X75.here hx rfl (pc0 := 115) (pc' := 131) rfl (hb hby at_115) (by decide) (by decide) ?_
              show Steps p.tables e below (T75.setTop (mkF m 131 #[.val (.long q0), .second, .val (.long q1), .second, .val (.int p2), .val (.int p3), .val (.int p4), .val (.long q5), .second, .val (.int kk), .val (.ref b74_y0), .val (.ref b75_y0), .val (.int (1 : Int32)), .val (.int (1 : Int32)), .unset, .unset, .unset, .unset, .unset] [])) _
              exact k
            · rw [if_neg hc83, if_neg hc83] at k
              refine XS.ifYes X75.here hx rfl (pc0 := 105) (pc' := 112) rfl (hb hby at_105) rfl ((if0 _ _).trans (feq (fun q => hc83 ((lw_eq _ _).mp q))).2) (by decide) (by decide) ?_
              show Steps p.tables e below (T75.setTop (mkF m 112 #[.val (.long q0), .second, .val (.long q1), .second, .val (.int p2), .val (.int p3), .val (.int p4), .val (.long q5), .second, .val (.int kk), .val (.ref b74_y0), .val (.ref b75_y0), .val (.int (1 : Int32)), .unset, .unset, .unset, .unset, .unset, .unset] [])) _
              refine XS.iconst X75.here hx rfl (hb hby at_112) ?_
              show Steps p.tables e below (T75.setTop (mkF m 113 #[.val (.long q0), .second, .val (.long q1), .second, .val (.int p2), .val (.int p3), .val (.int p4), .val (.long q5), .second, .val (.int kk), .val (.ref b74_y0), .val (.ref b75_y0), .val (.int (1 : Int32)), .unset, .unset, .unset, .unset, .unset, .unset] [(.int (0 : Int32))])) _
              refine XS.istore X75.here hx rfl (hb hby at_113) rfl (l' := #[.val (.long q0), .second, .val (.long q1), .second, .val (.int p2), .val (.int p3), .val (.int p4), .val (.long q5), .second, .val (.int kk), .val (.ref b74_y0), .val (.ref b75_y0), .val (.int (1 : Int32)), .val (.int (0 : Int32)), .unset, .unset, .unset, .unset, .unset]) rfl ?_
              show Steps p.tables e below (T75.setTop (mkF m 115 #[.val (.long q0), .second, .val (.long q1), .second, .val (.int p2), .val (.int p3), .val (.int p4), .val (.long q5), .second, .val (.int kk), .val (.ref b74_y0), .val (.ref b75_y0), .val (.int (1 : Int32)), .val (.int (0 : Int32)), .unset, .unset, .unset, .unset, .unset] [])) _
              refine XS.goto X75.here hx rfl (pc0 := 115) (pc' := 131) rfl (hb hby at_115) (by decide) (by decide) ?_
              show Steps p.tables e below (T75.setTop (mkF m 131 #[.val (.long q0), .second, .val (.long q1), .second, .val (.int p2), .val (.int p3), .val (.int p4), .val (.long q5), .second, .val (.int kk), .val (.ref b74_y0), .val (.ref b75_y0), .val (.int (1 : Int32)), .val (.int (0 : Int32)), .unset, .unset, .unset, .unset, .unset] [])) _
              exact k
          · rw [if_neg hc82, if_neg hc82] at k
            refine XS.icmpNo X75.here hx rfl (hb hby at_59) rfl (feq hc82).1 ?_
            show Steps p.tables e below (T75.setTop (mkF m 62 #[.val (.long q0), .second, .val (.long q1), .second, .val (.int p2), .val (.int p3), .val (.int p4), .val (.long q5), .second, .val (.int kk), .val (.ref b74_y0), .val (.ref b75_y0), .unset, .unset, .unset, .unset, .unset, .unset, .unset] [])) _
            refine XS.iload X75.here hx rfl (hb hby at_62) rfl  ?_
            show Steps p.tables e below (T75.setTop (mkF m 64 #[.val (.long q0), .second, .val (.long q1), .second, .val (.int p2), .val (.int p3), .val (.int p4), .val (.long q5), .second, .val (.int kk), .val (.ref b74_y0), .val (.ref b75_y0), .unset, .unset, .unset, .unset, .unset, .unset, .unset] [(.int kk)])) _
            refine XS.bipush X75.here hx rfl (hb hby at_64) ?_
            show Steps p.tables e below (T75.setTop (mkF m 66 #[.val (.long q0), .second, .val (.long q1), .second, .val (.int p2), .val (.int p3), .val (.int p4), .val (.long q5), .second, .val (.int kk), .val (.ref b74_y0), .val (.ref b75_y0), .unset, .unset, .unset, .unset, .unset, .unset, .unset] [(.int (7 : Int32)), (.int kk)])) _
            by_cases hc84 : kk = (7 : Int32)
            · rw [if_pos hc84, if_pos hc84] at k
              refine XS.icmpYes X75.here hx rfl (pc0 := 66) (pc' := 76) rfl (hb hby at_66) rfl (teq hc84).1 (by decide) (by decide) ?_
              show Steps p.tables e below (T75.setTop (mkF m 76 #[.val (.long q0), .second, .val (.long q1), .second, .val (.int p2), .val (.int p3), .val (.int p4), .val (.long q5), .second, .val (.int kk), .val (.ref b74_y0), .val (.ref b75_y0), .unset, .unset, .unset, .unset, .unset, .unset, .unset] [])) _
              refine XS.iconst X75.here hx rfl (hb hby at_76) ?_
              show Steps p.tables e below (T75.setTop (mkF m 77 #[.val (.long q0), .second, .val (.long q1), .second, .val (.int p2), .val (.int p3), .val (.int p4), .val (.long q5), .second, .val (.int kk), .val (.ref b74_y0), .val (.ref b75_y0), .unset, .unset, .unset, .unset, .unset, .unset, .unset] [(.int (1 : Int32))])) _
              refine XS.goto X75.here hx rfl (pc0 := 77) (pc' := 81) rfl (hb hby at_77) (by decide) (by decide) ?_
              show Steps p.tables e below (T75.setTop (mkF m 81 #[.val (.long q0), .second, .val (.long q1), .second, .val (.int p2), .val (.int p3), .val (.int p4), .val (.long q5), .second, .val (.int kk), .val (.ref b74_y0), .val (.ref b75_y0), .unset, .unset, .unset, .unset, .unset, .unset, .unset] [(.int (1 : Int32))])) _
              refine XS.istore X75.here hx rfl (hb hby at_81) rfl (l' := #[.val (.long q0), .second, .val (.long q1), .second, .val (.int p2), .val (.int p3), .val (.int p4), .val (.long q5), .second, .val (.int kk), .val (.ref b74_y0), .val (.ref b75_y0), .val (.int (1 : Int32)), .unset, .unset, .unset, .unset, .unset, .unset]) rfl ?_
              show Steps p.tables e below (T75.setTop (mkF m 83 #[.val (.long q0), .second, .val (.long q1), .second, .val (.int p2), .val (.int p3), .val (.int p4), .val (.long q5), .second, .val (.int kk), .val (.ref b74_y0), .val (.ref b75_y0), .val (.int (1 : Int32)), .unset, .unset, .unset, .unset, .unset, .unset] [])) _
              refine XS.iload X75.here hx rfl (hb hby at_83) rfl  ?_
              show Steps p.tables e below (T75.setTop (mkF m 85 #[.val (.long q0), .second, .val (.long q1), .second, .val (.int p2), .val (.int p3), .val (.int p4), .val (.long q5), .second, .val (.int kk), .val (.ref b74_y0), .val (.ref b75_y0), .val (.int (1 : Int32)), .unset, .unset, .unset, .unset, .unset, .unset] [(.int kk)])) _
              refine XS.bipush X75.here hx rfl (hb hby at_85) ?_
              show Steps p.tables e below (T75.setTop (mkF m 87 #[.val (.long q0), .second, .val (.long q1), .second, .val (.int p2), .val (.int p3), .val (.int p4), .val (.long q5), .second, .val (.int kk), .val (.ref b74_y0), .val (.ref b75_y0), .val (.int (1 : Int32)), .unset, .unset, .unset, .unset, .unset, .unset] [(.int (11 : Int32)), (.int kk)])) _
              refine XS.icmpYes X75.here hx rfl (pc0 := 87) (pc' := 96) rfl (hb hby at_87) rfl (feq (fun q => absurd (hc84.symm.trans q) (by decide))).2 (by decide) (by decide) ?_
              show Steps p.tables e below (T75.setTop (mkF m 96 #[.val (.long q0), .second, .val (.long q1), .second, .val (.int p2), .val (.int p3), .val (.int p4), .val (.long q5), .second, .val (.int kk), .val (.ref b74_y0), .val (.ref b75_y0), .val (.int (1 : Int32)), .unset, .unset, .unset, .unset, .unset, .unset] [])) _
              refine XS.iload X75.here hx rfl (hb hby at_96) rfl  ?_
              show Steps p.tables e below (T75.setTop (mkF m 98 #[.val (.long q0), .second, .val (.long q1), .second, .val (.int p2), .val (.int p3), .val (.int p4), .val (.long q5), .second, .val (.int kk), .val (.ref b74_y0), .val (.ref b75_y0), .val (.int (1 : Int32)), .unset, .unset, .unset, .unset, .unset, .unset] [(.int (1 : Int32))])) _
              refine XS.ifNo X75.here hx rfl (hb hby at_98) rfl ((if0 _ _).trans (feq (by decide : ¬ ((1 : Int32) = (0 : Int32)))).1) ?_
              show Steps p.tables e below (T75.setTop (mkF m 101 #[.val (.long q0), .second, .val (.long q1), .second, .val (.int p2), .val (.int p3), .val (.int p4), .val (.long q5), .second, .val (.int kk), .val (.ref b74_y0), .val (.ref b75_y0), .val (.int (1 : Int32)), .unset, .unset, .unset, .unset, .unset, .unset] [])) _
              refine XS.lload X75.here hx rfl (hb hby at_101) rfl  ?_
              show Steps p.tables e below (T75.setTop (mkF m 103 #[.val (.long q0), .second, .val (.long q1), .second, .val (.int p2), .val (.int p3), .val (.int p4), .val (.long q5), .second, .val (.int kk), .val (.ref b74_y0), .val (.ref b75_y0), .val (.int (1 : Int32)), .unset, .unset, .unset, .unset, .unset, .unset] [(.long q5)])) _
              refine XS.lconst X75.here hx rfl (hb hby at_103) ?_
              show Steps p.tables e below (T75.setTop (mkF m 104 #[.val (.long q0), .second, .val (.long q1), .second, .val (.int p2), .val (.int p3), .val (.int p4), .val (.long q5), .second, .val (.int kk), .val (.ref b74_y0), .val (.ref b75_y0), .val (.int (1 : Int32)), .unset, .unset, .unset, .unset, .unset, .unset] [(.long (0 : Int64)), (.long q5)])) _
              refine XS.lcmp X75.here hx rfl (hb hby at_104) rfl ?_
              show Steps p.tables e below (T75.setTop (mkF m 105 #[.val (.long q0), .second, .val (.long q1), .second, .val (.int p2), .val (.int p3), .val (.int p4), .val (.long q5), .second, .val (.int kk), .val (.ref b74_y0), .val (.ref b75_y0), .val (.int (1 : Int32)), .unset, .unset, .unset, .unset, .unset, .unset] [(.int (lcmpW q5 (0 : Int64)))])) _
              by_cases hc85 : q5 = (0 : Int64)
              · rw [if_pos hc85, if_pos hc85] at k
                refine XS.ifNo X75.here hx rfl (hb hby at_105) rfl ((if0 _ _).trans (teq ((lw_eq _ _).mpr hc85)).2) ?_
                show Steps p.tables e below (T75.setTop (mkF m 108 #[.val (.long q0), .second, .val (.long q1), .second, .val (.int p2), .val (.int p3), .val (.int p4), .val (.long q5), .second, .val (.int kk), .val (.ref b74_y0), .val (.ref b75_y0), .val (.int (1 : Int32)), .unset, .unset, .unset, .unset, .unset, .unset] [])) _
                refine XS.iconst X75.here hx rfl (hb hby at_108) ?_
                show Steps p.tables e below (T75.setTop (mkF m 109 #[.val (.long q0), .second, .val (.long q1), .second, .val (.int p2), .val (.int p3), .val (.int p4), .val (.long q5), .second, .val (.int kk), .val (.ref b74_y0), .val (.ref b75_y0), .val (.int (1 : Int32)), .unset, .unset, .unset, .unset, .unset, .unset] [(.int (1 : Int32))])) _
                refine XS.goto X75.here hx rfl (pc0 := 109) (pc' := 113) rfl (hb hby at_109) (by decide) (by decide) ?_
                show Steps p.tables e below (T75.setTop (mkF m 113 #[.val (.long q0), .second, .val (.long q1), .second, .val (.int p2), .val (.int p3), .val (.int p4), .val (.long q5), .second, .val (.int kk), .val (.ref b74_y0), .val (.ref b75_y0), .val (.int (1 : Int32)), .unset, .unset, .unset, .unset, .unset, .unset] [(.int (1 : Int32))])) _
                refine XS.istore X75.here hx rfl (hb hby at_113) rfl (l' := #[.val (.long q0), .second, .val (.long q1), .second, .val (.int p2), .val (.int p3), .val (.int p4), .val (.long q5), .second, .val (.int kk), .val (.ref b74_y0), .val (.ref b75_y0), .val (.int (1 : Int32)), .val (.int (1 : Int32)), .unset, .unset, .unset, .unset, .unset]) rfl ?_
                show Steps p.tables e below (T75.setTop (mkF m 115 #[.val (.long q0), .second, .val (.long q1), .second, .val (.int p2), .val (.int p3), .val (.int p4), .val (.long q5), .second, .val (.int kk), .val (.ref b74_y0), .val (.ref b75_y0), .val (.int (1 : Int32)), .val (.int (1 : Int32)), .unset, .unset, .unset, .unset, .unset] [])) _
                refine XS.goto X75.here hx rfl (pc0 := 115) (pc' := 131) rfl (hb hby at_115) (by decide) (by decide) ?_
                show Steps p.tables e below (T75.setTop (mkF m 131 #[.val (.long q0), .second, .val (.long q1), .second, .val (.int p2), .val (.int p3), .val (.int p4), .val (.long q5), .second, .val (.int kk), .val (.ref b74_y0), .val (.ref b75_y0), .val (.int (1 : Int32)), .val (.int (1 : Int32)), .unset, .unset, .unset, .unset, .unset] [])) _
                exact k
              · rw [if_neg hc85, if_neg hc85] at k
                refine XS.ifYes X75.here hx rfl (pc0 := 105) (pc' := 112) rfl (hb hby at_105) rfl ((if0 _ _).trans (feq (fun q => hc85 ((lw_eq _ _).mp q))).2) (by decide) (by decide) ?_
                show Steps p.tables e below (T75.setTop (mkF m 112 #[.val (.long q0), .second, .val (.long q1), .second, .val (.int p2), .val (.int p3), .val (.int p4), .val (.long q5), .second, .val (.int kk), .val (.ref b74_y0), .val (.ref b75_y0), .val (.int (1 : Int32)), .unset, .unset, .unset, .unset, .unset, .unset] [])) _
                refine XS.iconst X75.here hx rfl (hb hby at_112) ?_
                show Steps p.tables e below (T75.setTop (mkF m 113 #[.val (.long q0), .second, .val (.long q1), .second, .val (.int p2), .val (.int p3), .val (.int p4), .val (.long q5), .second, .val (.int kk), .val (.ref b74_y0), .val (.ref b75_y0), .val (.int (1 : Int32)), .unset, .unset, .unset, .unset, .unset, .unset] [(.int (0 : Int32))])) _
                refine XS.istore X75.here hx rfl (hb hby at_113) rfl (l' := #[.val (.long q0), .second, .val (.long q1), .second, .val (.int p2), .val (.int p3), .val (.int p4), .val (.long q5), .second, .val (.int kk), .val (.ref b74_y0), .val (.ref b75_y0), .val (.int (1 : Int32)), .val (.int (0 : Int32)), .unset, .unset, .unset, .unset, .unset]) rfl ?_
                show Steps p.tables e below (T75.setTop (mkF m 115 #[.val (.long q0), .second, .val (.long q1), .second, .val (.int p2), .val (.int p3), .val (.int p4), .val (.long q5), .second, .val (.int kk), .val (.ref b74_y0), .val (.ref b75_y0), .val (.int (1 : Int32)), .val (.int (0 : Int32)), .unset, .unset, .unset, .unset, .unset] [])) _
                refine XS.goto X75.here hx rfl (pc0 := 115) (pc' := 131) rfl (hb hby at_115) (by decide) (by decide) ?_
                show Steps p.tables e below (T75.setTop (mkF m 131 #[.val (.long q0), .second, .val (.long q1), .second, .val (.int p2), .val (.int p3), .val (.int p4), .val (.long q5), .second, .val (.int kk), .val (.ref b74_y0), .val (.ref b75_y0), .val (.int (1 : Int32)), .val (.int (0 : Int32)), .unset, .unset, .unset, .unset, .unset] [])) _
                exact k
            · rw [if_neg hc84, if_neg hc84] at k
              refine XS.icmpNo X75.here hx rfl (hb hby at_66) rfl (feq hc84).1 ?_
              show Steps p.tables e below (T75.setTop (mkF m 69 #[.val (.long q0), .second, .val (.long q1), .second, .val (.int p2), .val (.int p3), .val (.int p4), .val (.long q5), .second, .val (.int kk), .val (.ref b74_y0), .val (.ref b75_y0), .unset, .unset, .unset, .unset, .unset, .unset, .unset] [])) _
              refine XS.iload X75.here hx rfl (hb hby at_69) rfl  ?_
              show Steps p.tables e below (T75.setTop (mkF m 71 #[.val (.long q0), .second, .val (.long q1), .second, .val (.int p2), .val (.int p3), .val (.int p4), .val (.long q5), .second, .val (.int kk), .val (.ref b74_y0), .val (.ref b75_y0), .unset, .unset, .unset, .unset, .unset, .unset, .unset] [(.int kk)])) _
              refine XS.bipush X75.here hx rfl (hb hby at_71) ?_
              show Steps p.tables e below (T75.setTop (mkF m 73 #[.val (.long q0), .second, .val (.long q1), .second, .val (.int p2), .val (.int p3), .val (.int p4), .val (.long q5), .second, .val (.int kk), .val (.ref b74_y0), .val (.ref b75_y0), .unset, .unset, .unset, .unset, .unset, .unset, .unset] [(.int (10 : Int32)), (.int kk)])) _
              by_cases hc86 : kk = (10 : Int32)
              · rw [if_pos hc86, if_pos hc86] at k
                refine XS.icmpNo X75.here hx rfl (hb hby at_73) rfl (teq hc86).2 ?_
                show Steps p.tables e below (T75.setTop (mkF m 76 #[.val (.long q0), .second, .val (.long q1), .second, .val (.int p2), .val (.int p3), .val (.int p4), .val (.long q5), .second, .val (.int kk), .val (.ref b74_y0), .val (.ref b75_y0), .unset, .unset, .unset, .unset, .unset, .unset, .unset] [])) _
                refine XS.iconst X75.here hx rfl (hb hby at_76) ?_
                show Steps p.tables e below (T75.setTop (mkF m 77 #[.val (.long q0), .second, .val (.long q1), .second, .val (.int p2), .val (.int p3), .val (.int p4), .val (.long q5), .second, .val (.int kk), .val (.ref b74_y0), .val (.ref b75_y0), .unset, .unset, .unset, .unset, .unset, .unset, .unset] [(.int (1 : Int32))])) _
                refine XS.goto X75.here hx rfl (pc0 := 77) (pc' := 81) rfl (hb hby at_77) (by decide) (by decide) ?_
                show Steps p.tables e below (T75.setTop (mkF m 81 #[.val (.long q0), .second, .val (.long q1), .second, .val (.int p2), .val (.int p3), .val (.int p4), .val (.long q5), .second, .val (.int kk), .val (.ref b74_y0), .val (.ref b75_y0), .unset, .unset, .unset, .unset, .unset, .unset, .unset] [(.int (1 : Int32))])) _
                refine XS.istore X75.here hx rfl (hb hby at_81) rfl (l' := #[.val (.long q0), .second, .val (.long q1), .second, .val (.int p2), .val (.int p3), .val (.int p4), .val (.long q5), .second, .val (.int kk), .val (.ref b74_y0), .val (.ref b75_y0), .val (.int (1 : Int32)), .unset, .unset, .unset, .unset, .unset, .unset]) rfl ?_
                show Steps p.tables e below (T75.setTop (mkF m 83 #[.val (.long q0), .second, .val (.long q1), .second, .val (.int p2), .val (.int p3), .val (.int p4), .val (.long q5), .second, .val (.int kk), .val (.ref b74_y0), .val (.ref b75_y0), .val (.int (1 : Int32)), .unset, .unset, .unset, .unset, .unset, .unset] [])) _
                refine XS.iload X75.here hx rfl (hb hby at_83) rfl  ?_
                show Steps p.tables e below (T75.setTop (mkF m 85 #[.val (.long q0), .second, .val (.long q1), .second, .val (.int p2), .val (.int p3), .val (.int p4), .val (.long q5), .second, .val (.int kk), .val (.ref b74_y0), .val (.ref b75_y0), .val (.int (1 : Int32)), .unset, .unset, .unset, .unset, .unset, .unset] [(.int kk)])) _
                refine XS.bipush X75.here hx rfl (hb hby at_85) ?_
                show Steps p.tables e below (T75.setTop (mkF m 87 #[.val (.long q0), .second, .val (.long q1), .second, .val (.int p2), .val (.int p3), .val (.int p4), .val (.long q5), .second, .val (.int kk), .val (.ref b74_y0), .val (.ref b75_y0), .val (.int (1 : Int32)), .unset, .unset, .unset, .unset, .unset, .unset] [(.int (11 : Int32)), (.int kk)])) _
                refine XS.icmpYes X75.here hx rfl (pc0 := 87) (pc' := 96) rfl (hb hby at_87) rfl (feq (fun q => absurd (hc86.symm.trans q) (by decide))).2 (by decide) (by decide) ?_
                show Steps p.tables e below (T75.setTop (mkF m 96 #[.val (.long q0), .second, .val (.long q1), .second, .val (.int p2), .val (.int p3), .val (.int p4), .val (.long q5), .second, .val (.int kk), .val (.ref b74_y0), .val (.ref b75_y0), .val (.int (1 : Int32)), .unset, .unset, .unset, .unset, .unset, .unset] [])) _
                refine XS.iload X75.here hx rfl (hb hby at_96) rfl  ?_
                show Steps p.tables e below (T75.setTop (mkF m 98 #[.val (.long q0), .second, .val (.long q1), .second, .val (.int p2), .val (.int p3), .val (.int p4), .val (.long q5), .second, .val (.int kk), .val (.ref b74_y0), .val (.ref b75_y0), .val (.int (1 : Int32)), .unset, .unset, .unset, .unset, .unset, .unset] [(.int (1 : Int32))])) _
                refine XS.ifNo X75.here hx rfl (hb hby at_98) rfl ((if0 _ _).trans (feq (by decide : ¬ ((1 : Int32) = (0 : Int32)))).1) ?_
                show Steps p.tables e below (T75.setTop (mkF m 101 #[.val (.long q0), .second, .val (.long q1), .second, .val (.int p2), .val (.int p3), .val (.int p4), .val (.long q5), .second, .val (.int kk), .val (.ref b74_y0), .val (.ref b75_y0), .val (.int (1 : Int32)), .unset, .unset, .unset, .unset, .unset, .unset] [])) _
                refine XS.lload X75.here hx rfl (hb hby at_101) rfl  ?_
                show Steps p.tables e below (T75.setTop (mkF m 103 #[.val (.long q0), .second, .val (.long q1), .second, .val (.int p2), .val (.int p3), .val (.int p4), .val (.long q5), .second, .val (.int kk), .val (.ref b74_y0), .val (.ref b75_y0), .val (.int (1 : Int32)), .unset, .unset, .unset, .unset, .unset, .unset] [(.long q5)])) _
                refine XS.lconst X75.here hx rfl (hb hby at_103) ?_
                show Steps p.tables e below (T75.setTop (mkF m 104 #[.val (.long q0), .second, .val (.long q1), .second, .val (.int p2), .val (.int p3), .val (.int p4), .val (.long q5), .second, .val (.int kk), .val (.ref b74_y0), .val (.ref b75_y0), .val (.int (1 : Int32)), .unset, .unset, .unset, .unset, .unset, .unset] [(.long (0 : Int64)), (.long q5)])) _
                refine XS.lcmp X75.here hx rfl (hb hby at_104) rfl ?_
                show Steps p.tables e below (T75.setTop (mkF m 105 #[.val (.long q0), .second, .val (.long q1), .second, .val (.int p2), .val (.int p3), .val (.int p4), .val (.long q5), .second, .val (.int kk), .val (.ref b74_y0), .val (.ref b75_y0), .val (.int (1 : Int32)), .unset, .unset, .unset, .unset, .unset, .unset] [(.int (lcmpW q5 (0 : Int64)))])) _
                by_cases hc87 : q5 = (0 : Int64)
                · rw [if_pos hc87, if_pos hc87] at k
                  refine XS.ifNo X75.here hx rfl (hb hby at_105) rfl ((if0 _ _).trans (teq ((lw_eq _ _).mpr hc87)).2) ?_
                  show Steps p.tables e below (T75.setTop (mkF m 108 #[.val (.long q0), .second, .val (.long q1), .second, .val (.int p2), .val (.int p3), .val (.int p4), .val (.long q5), .second, .val (.int kk), .val (.ref b74_y0), .val (.ref b75_y0), .val (.int (1 : Int32)), .unset, .unset, .unset, .unset, .unset, .unset] [])) _
                  refine XS.iconst X75.here hx rfl (hb hby at_108) ?_
                  show Steps p.tables e below (T75.setTop (mkF m 109 #[.val (.long q0), .second, .val (.long q1), .second, .val (.int p2), .val (.int p3), .val (.int p4), .val (.long q5), .second, .val (.int kk), .val (.ref b74_y0), .val (.ref b75_y0), .val (.int (1 : Int32)), .unset, .unset, .unset, .unset, .unset, .unset] [(.int (1 : Int32))])) _
                  refine XS.goto X75.here hx rfl (pc0 := 109) (pc' := 113) rfl (hb hby at_109) (by decide) (by decide) ?_
                  show Steps p.tables e below (T75.setTop (mkF m 113 #[.val (.long q0), .second, .val (.long q1), .second, .val (.int p2), .val (.int p3), .val (.int p4), .val (.long q5), .second, .val (.int kk), .val (.ref b74_y0), .val (.ref b75_y0), .val (.int (1 : Int32)), .unset, .unset, .unset, .unset, .unset, .unset] [(.int (1 : Int32))])) _
                  refine XS.istore X75.here hx rfl (hb hby at_113) rfl (l' := #[.val (.long q0), .second, .val (.long q1), .second, .val (.int p2), .val (.int p3), .val (.int p4), .val (.long q5), .second, .val (.int kk), .val (.ref b74_y0), .val (.ref b75_y0), .val (.int (1 : Int32)), .val (.int (1 : Int32)), .unset, .unset, .unset, .unset, .unset]) rfl ?_
                  show Steps p.tables e below (T75.setTop (mkF m 115 #[.val (.long q0), .second, .val (.long q1), .second, .val (.int p2), .val (.int p3), .val (.int p4), .val (.long q5), .second, .val (.int kk), .val (.ref b74_y0), .val (.ref b75_y0), .val (.int (1 : Int32)), .val (.int (1 : Int32)), .unset, .unset, .unset, .unset, .unset] [])) _
                  refine XS.goto X75.here hx rfl (pc0 := 115) (pc' := 131) rfl (hb hby at_115) (by decide) (by decide) ?_
                  show Steps p.tables e below (T75.setTop (mkF m 131 #[.val (.long q0), .second, .val (.long q1), .second, .val (.int p2), .val (.int p3), .val (.int p4), .val (.long q5), .second, .val (.int kk), .val (.ref b74_y0), .val (.ref b75_y0), .val (.int (1 : Int32)), .val (.int (1 : Int32)), .unset, .unset, .unset, .unset, .unset] [])) _
                  exact k
                · rw [if_neg hc87, if_neg hc87] at k
                  refine XS.ifYes X75.here hx rfl (pc0 := 105) (pc' := 112) rfl (hb hby at_105) rfl ((if0 _ _).trans (feq (fun q => hc87 ((lw_eq _ _).mp q))).2) (by decide) (by decide) ?_
                  show Steps p.tables e below (T75.setTop (mkF m 112 #[.val (.long q0), .second, .val (.long q1), .second, .val (.int p2), .val (.int p3), .val (.int p4), .val (.long q5), .second, .val (.int kk), .val (.ref b74_y0), .val (.ref b75_y0), .val (.int (1 : Int32)), .unset, .unset, .unset, .unset, .unset, .unset] [])) _
                  refine XS.iconst X75.here hx rfl (hb hby at_112) ?_
                  show Steps p.tables e below (T75.setTop (mkF m 113 #[.val (.long q0), .second, .val (.long q1), .second, .val (.int p2), .val (.int p3), .val (.int p4), .val (.long q5), .second, .val (.int kk), .val (.ref b74_y0), .val (.ref b75_y0), .val (.int (1 : Int32)), .unset, .unset, .unset, .unset, .unset, .unset] [(.int (0 : Int32))])) _
                  refine XS.istore X75.here hx rfl (hb hby at_113) rfl (l' := #[.val (.long q0), .second, .val (.long q1), .second, .val (.int p2), .val (.int p3), .val (.int p4), .val (.long q5), .second, .val (.int kk), .val (.ref b74_y0), .val (.ref b75_y0), .val (.int (1 : Int32)), .val (.int (0 : Int32)), .unset, .unset, .unset, .unset, .unset]) rfl ?_
                  show Steps p.tables e below (T75.setTop (mkF m 115 #[.val (.long q0), .second, .val (.long q1), .second, .val (.int p2), .val (.int p3), .val (.int p4), .val (.long q5), .second, .val (.int kk), .val (.ref b74_y0), .val (.ref b75_y0), .val (.int (1 : Int32)), .val (.int (0 : Int32)), .unset, .unset, .unset, .unset, .unset] [])) _
                  refine XS.goto X75.here hx rfl (pc0 := 115) (pc' := 131) rfl (hb hby at_115) (by decide) (by decide) ?_
                  show Steps p.tables e below (T75.setTop (mkF m 131 #[.val (.long q0), .second, .val (.long q1), .second, .val (.int p2), .val (.int p3), .val (.int p4), .val (.long q5), .second, .val (.int kk), .val (.ref b74_y0), .val (.ref b75_y0), .val (.int (1 : Int32)), .val (.int (0 : Int32)), .unset, .unset, .unset, .unset, .unset] [])) _
                  exact k
              · rw [if_neg hc86, if_neg hc86] at k
                refine XS.icmpYes X75.here hx rfl (pc0 := 73) (pc' := 80) rfl (hb hby at_73) rfl (feq hc86).2 (by decide) (by decide) ?_
                show Steps p.tables e below (T75.setTop (mkF m 80 #[.val (.long q0), .second, .val (.long q1), .second, .val (.int p2), .val (.int p3), .val (.int p4), .val (.long q5), .second, .val (.int kk), .val (.ref b74_y0), .val (.ref b75_y0), .unset, .unset, .unset, .unset, .unset, .unset, .unset] [])) _
                refine XS.iconst X75.here hx rfl (hb hby at_80) ?_
                show Steps p.tables e below (T75.setTop (mkF m 81 #[.val (.long q0), .second, .val (.long q1), .second, .val (.int p2), .val (.int p3), .val (.int p4), .val (.long q5), .second, .val (.int kk), .val (.ref b74_y0), .val (.ref b75_y0), .unset, .unset, .unset, .unset, .unset, .unset, .unset] [(.int (0 : Int32))])) _
                refine XS.istore X75.here hx rfl (hb hby at_81) rfl (l' := #[.val (.long q0), .second, .val (.long q1), .second, .val (.int p2), .val (.int p3), .val (.int p4), .val (.long q5), .second, .val (.int kk), .val (.ref b74_y0), .val (.ref b75_y0), .val (.int (0 : Int32)), .unset, .unset, .unset, .unset, .unset, .unset]) rfl ?_
                show Steps p.tables e below (T75.setTop (mkF m 83 #[.val (.long q0), .second, .val (.long q1), .second, .val (.int p2), .val (.int p3), .val (.int p4), .val (.long q5), .second, .val (.int kk), .val (.ref b74_y0), .val (.ref b75_y0), .val (.int (0 : Int32)), .unset, .unset, .unset, .unset, .unset, .unset] [])) _
                refine XS.iload X75.here hx rfl (hb hby at_83) rfl  ?_
                show Steps p.tables e below (T75.setTop (mkF m 85 #[.val (.long q0), .second, .val (.long q1), .second, .val (.int p2), .val (.int p3), .val (.int p4), .val (.long q5), .second, .val (.int kk), .val (.ref b74_y0), .val (.ref b75_y0), .val (.int (0 : Int32)), .unset, .unset, .unset, .unset, .unset, .unset] [(.int kk)])) _
                refine XS.bipush X75.here hx rfl (hb hby at_85) ?_
                show Steps p.tables e below (T75.setTop (mkF m 87 #[.val (.long q0), .second, .val (.long q1), .second, .val (.int p2), .val (.int p3), .val (.int p4), .val (.long q5), .second, .val (.int kk), .val (.ref b74_y0), .val (.ref b75_y0), .val (.int (0 : Int32)), .unset, .unset, .unset, .unset, .unset, .unset] [(.int (11 : Int32)), (.int kk)])) _
                by_cases hc88 : kk = (11 : Int32)
                · rw [if_pos hc88, if_pos hc88] at k
                  refine XS.icmpNo X75.here hx rfl (hb hby at_87) rfl (teq hc88).2 ?_
                  show Steps p.tables e below (T75.setTop (mkF m 90 #[.val (.long q0), .second, .val (.long q1), .second, .val (.int p2), .val (.int p3), .val (.int p4), .val (.long q5), .second, .val (.int kk), .val (.ref b74_y0), .val (.ref b75_y0), .val (.int (0 : Int32)), .unset, .unset, .unset, .unset, .unset, .unset] [])) _
                  refine XS.iconst X75.here hx rfl (hb hby at_90) ?_
                  show Steps p.tables e below (T75.setTop (mkF m 91 #[.val (.long q0), .second, .val (.long q1), .second, .val (.int p2), .val (.int p3), .val (.int p4), .val (.long q5), .second, .val (.int kk), .val (.ref b74_y0), .val (.ref b75_y0), .val (.int (0 : Int32)), .unset, .unset, .unset, .unset, .unset, .unset] [(.int (1 : Int32))])) _
                  refine XS.istore X75.here hx rfl (hb hby at_91) rfl (l' := #[.val (.long q0), .second, .val (.long q1), .second, .val (.int p2), .val (.int p3), .val (.int p4), .val (.long q5), .second, .val (.int kk), .val (.ref b74_y0), .val (.ref b75_y0), .val (.int (0 : Int32)), .val (.int (1 : Int32)), .unset, .unset, .unset, .unset, .unset]) rfl ?_
                  show Steps p.tables e below (T75.setTop (mkF m 93 #[.val (.long q0), .second, .val (.long q1), .second, .val (.int p2), .val (.int p3), .val (.int p4), .val (.long q5), .second, .val (.int kk), .val (.ref b74_y0), .val (.ref b75_y0), .val (.int (0 : Int32)), .val (.int (1 : Int32)), .unset, .unset, .unset, .unset, .unset] [])) _
                  refine XS.goto X75.here hx rfl (pc0 := 93) (pc' := 131) rfl (hb hby at_93) (by decide) (by decide) ?_
                  show Steps p.tables e below (T75.setTop (mkF m 131 #[.val (.long q0), .second, .val (.long q1), .second, .val (.int p2), .val (.int p3), .val (.int p4), .val (.long q5), .second, .val (.int kk), .val (.ref b74_y0), .val (.ref b75_y0), .val (.int (0 : Int32)), .val (.int (1 : Int32)), .unset, .unset, .unset, .unset, .unset] [])) _
                  exact k
                · rw [if_neg hc88, if_neg hc88] at k
                  refine XS.icmpYes X75.here hx rfl (pc0 := 87) (pc' := 96) rfl (hb hby at_87) rfl (feq hc88).2 (by decide) (by decide) ?_
                  show Steps p.tables e below (T75.setTop (mkF m 96 #[.val (.long q0), .second, .val (.long q1), .second, .val (.int p2), .val (.int p3), .val (.int p4), .val (.long q5), .second, .val (.int kk), .val (.ref b74_y0), .val (.ref b75_y0), .val (.int (0 : Int32)), .unset, .unset, .unset, .unset, .unset, .unset] [])) _
                  refine XS.iload X75.here hx rfl (hb hby at_96) rfl  ?_
                  show Steps p.tables e below (T75.setTop (mkF m 98 #[.val (.long q0), .second, .val (.long q1), .second, .val (.int p2), .val (.int p3), .val (.int p4), .val (.long q5), .second, .val (.int kk), .val (.ref b74_y0), .val (.ref b75_y0), .val (.int (0 : Int32)), .unset, .unset, .unset, .unset, .unset, .unset] [(.int (0 : Int32))])) _
                  refine XS.ifYes X75.here hx rfl (pc0 := 98) (pc' := 118) rfl (hb hby at_98) rfl ((if0 _ _).trans (teq (by decide : ((0 : Int32) = (0 : Int32)))).1) (by decide) (by decide) ?_
                  show Steps p.tables e below (T75.setTop (mkF m 118 #[.val (.long q0), .second, .val (.long q1), .second, .val (.int p2), .val (.int p3), .val (.int p4), .val (.long q5), .second, .val (.int kk), .val (.ref b74_y0), .val (.ref b75_y0), .val (.int (0 : Int32)), .unset, .unset, .unset, .unset, .unset, .unset] [])) _
                  refine XS.lload X75.here hx rfl (hb hby at_118) rfl  ?_
                  show Steps p.tables e below (T75.setTop (mkF m 120 #[.val (.long q0), .second, .val (.long q1), .second, .val (.int p2), .val (.int p3), .val (.int p4), .val (.long q5), .second, .val (.int kk), .val (.ref b74_y0), .val (.ref b75_y0), .val (.int (0 : Int32)), .unset, .unset, .unset, .unset, .unset, .unset] [(.long q5)])) _
                  refine XS.l2i X75.here hx rfl (hb hby at_120) rfl ?_
                  show Steps p.tables e below (T75.setTop (mkF m 121 #[.val (.long q0), .second, .val (.long q1), .second, .val (.int p2), .val (.int p3), .val (.int p4), .val (.long q5), .second, .val (.int kk), .val (.ref b74_y0), .val (.ref b75_y0), .val (.int (0 : Int32)), .unset, .unset, .unset, .unset, .unset, .unset] [(.int (q5.toInt32))])) _
                  by_cases hc89 : (q5.toInt32) = (0 : Int32)
                  · rw [if_pos hc89, if_pos hc89] at k
                    refine XS.ifNo X75.here hx rfl (hb hby at_121) rfl ((if0 _ _).trans (teq hc89).2) ?_
                    show Steps p.tables e below (T75.setTop (mkF m 124 #[.val (.long q0), .second, .val (.long q1), .second, .val (.int p2), .val (.int p3), .val (.int p4), .val (.long q5), .second, .val (.int kk), .val (.ref b74_y0), .val (.ref b75_y0), .val (.int (0 : Int32)), .unset, .unset, .unset, .unset, .unset, .unset] [])) _
                    refine XS.iconst X75.here hx rfl (hb hby at_124) ?_
                    show Steps p.tables e below (T75.setTop (mkF m 125 #[.val (.long q0), .second, .val (.long q1), .second, .val (.int p2), .val (.int p3), .val (.int p4), .val (.long q5), .second, .val (.int kk), .val (.ref b74_y0), .val (.ref b75_y0), .val (.int (0 : Int32)), .unset, .unset, .unset, .unset, .unset, .unset] [(.int (1 : Int32))])) _
                    refine XS.goto X75.here hx rfl (pc0 := 125) (pc' := 129) rfl (hb hby at_125) (by decide) (by decide) ?_
                    show Steps p.tables e below (T75.setTop (mkF m 129 #[.val (.long q0), .second, .val (.long q1), .second, .val (.int p2), .val (.int p3), .val (.int p4), .val (.long q5), .second, .val (.int kk), .val (.ref b74_y0), .val (.ref b75_y0), .val (.int (0 : Int32)), .unset, .unset, .unset, .unset, .unset, .unset] [(.int (1 : Int32))])) _
                    refine XS.istore X75.here hx rfl (hb hby at_129) rfl (l' := #[.val (.long q0), .second, .val (.long q1), .second, .val (.int p2), .val (.int p3), .val (.int p4), .val (.long q5), .second, .val (.int kk), .val (.ref b74_y0), .val (.ref b75_y0), .val (.int (0 : Int32)), .val (.int (1 : Int32)), .unset, .unset, .unset, .unset, .unset]) rfl ?_
                    show Steps p.tables e below (T75.setTop (mkF m 131 #[.val (.long q0), .second, .val (.long q1), .second, .val (.int p2), .val (.int p3), .val (.int p4), .val (.long q5), .second, .val (.int kk), .val (.ref b74_y0), .val (.ref b75_y0), .val (.int (0 : Int32)), .val (.int (1 : Int32)), .unset, .unset, .unset, .unset, .unset] [])) _
                    exact k
                  · rw [if_neg hc89, if_neg hc89] at k
                    refine XS.ifYes X75.here hx rfl (pc0 := 121) (pc' := 128) rfl (hb hby at_121) rfl ((if0 _ _).trans (feq hc89).2) (by decide) (by decide) ?_
                    show Steps p.tables e below (T75.setTop (mkF m 128 #[.val (.long q0), .second, .val (.long q1), .second, .val (.int p2), .val (.int p3), .val (.int p4), .val (.long q5), .second, .val (.int kk), .val (.ref b74_y0), .val (.ref b75_y0), .val (.int (0 : Int32)), .unset, .unset, .unset, .unset, .unset, .unset] [])) _
                    refine XS.iconst X75.here hx rfl (hb hby at_128) ?_
                    show Steps p.tables e below (T75.setTop (mkF m 129 #[.val (.long q0), .second, .val (.long q1), .second, .val (.int p2), .val (.int p3), .val (.int p4), .val (.long q5), .second, .val (.int kk), .val (.ref b74_y0), .val (.ref b75_y0), .val (.int (0 : Int32)), .unset, .unset, .unset, .unset, .unset, .unset] [(.int (0 : Int32))])) _
                    refine XS.istore X75.here hx rfl (hb hby at_129) rfl (l' := #[.val (.long q0), .second, .val (.long q1), .second, .val (.int p2), .val (.int p3), .val (.int p4), .val (.long q5), .second, .val (.int kk), .val (.ref b74_y0), .val (.ref b75_y0), .val (.int (0 : Int32)), .val (.int (0 : Int32)), .unset, .unset, .unset, .unset, .unset]) rfl ?_
                    show Steps p.tables e below (T75.setTop (mkF m 131 #[.val (.long q0), .second, .val (.long q1), .second, .val (.int p2), .val (.int p3), .val (.int p4), .val (.long q5), .second, .val (.int kk), .val (.ref b74_y0), .val (.ref b75_y0), .val (.int (0 : Int32)), .val (.int (0 : Int32)), .unset, .unset, .unset, .unset, .unset] [])) _
                    exact k
  obtain ⟨lf, h_lf⟩ : ∃ z, z = (if kk = (0 : Int32) then (if q5 = (0 : Int64) then (1 : Int32) else (1 : Int32)) else (if kk = (1 : Int32) then (if q5 = (0 : Int64) then (1 : Int32) else (1 : Int32)) else (if kk = (2 : Int32) then (if q5 = (0 : Int64) then (1 : Int32) else (1 : Int32)) else (if kk = (3 : Int32) then (if q5 = (0 : Int64) then (1 : Int32) else (1 : Int32)) else (if kk = (7 : Int32) then (if q5 = (0 : Int64) then (1 : Int32) else (1 : Int32)) else (if kk = (10 : Int32) then (if q5 = (0 : Int64) then (1 : Int32) else (1 : Int32)) else (if kk = (11 : Int32) then (0 : Int32) else (if (q5.toInt32) = (0 : Int32) then (0 : Int32) else (0 : Int32))))))))) := ⟨_, rfl⟩
  rw [← h_lf]
  obtain ⟨ex, h_ex⟩ : ∃ z, z = (if kk = (0 : Int32) then (if q5 = (0 : Int64) then (1 : Int32) else (0 : Int32)) else (if kk = (1 : Int32) then (if q5 = (0 : Int64) then (1 : Int32) else (0 : Int32)) else (if kk = (2 : Int32) then (if q5 = (0 : Int64) then (1 : Int32) else (0 : Int32)) else (if kk = (3 : Int32) then (if q5 = (0 : Int64) then (1 : Int32) else (0 : Int32)) else (if kk = (7 : Int32) then (if q5 = (0 : Int64) then (1 : Int32) else (0 : Int32)) else (if kk = (10 : Int32) then (if q5 = (0 : Int64) then (1 : Int32) else (0 : Int32)) else (if kk = (11 : Int32) then (1 : Int32) else (if (q5.toInt32) = (0 : Int32) then (1 : Int32) else (0 : Int32))))))))) := ⟨_, rfl⟩
  rw [← h_ex]
  refine Go.st (V' := T75.setTop (mkF m 135 #[.val (.long q0), .second, .val (.long q1), .second, .val (.int p2), .val (.int p3), .val (.int p4), .val (.long q5), .second, .val (.int kk), .val (.ref b74_y0), .val (.ref b75_y0), .val (.int lf), .val (.int ex), .unset, .unset, .unset, .unset, .unset] [(.ref b75_y0), (.ref b74_y0)])) (fun t k => ?_) ?_
  · refine XS.aload X75.here hx rfl (hb hby at_131) rfl rfl ?_
    show Steps p.tables e below (T75.setTop (mkF m 133 #[.val (.long q0), .second, .val (.long q1), .second, .val (.int p2), .val (.int p3), .val (.int p4), .val (.long q5), .second, .val (.int kk), .val (.ref b74_y0), .val (.ref b75_y0), .val (.int lf), .val (.int ex), .unset, .unset, .unset, .unset, .unset] [(.ref b74_y0)])) _
    refine XS.aload X75.here hx rfl (hb hby at_133) rfl rfl ?_
    show Steps p.tables e below (T75.setTop (mkF m 135 #[.val (.long q0), .second, .val (.long q1), .second, .val (.int p2), .val (.int p3), .val (.int p4), .val (.long q5), .second, .val (.int kk), .val (.ref b74_y0), .val (.ref b75_y0), .val (.int lf), .val (.int ex), .unset, .unset, .unset, .unset, .unset] [(.ref b75_y0), (.ref b74_y0)])) _
    exact k
  obtain ⟨cq90, kq90, q90a, q90b, q90c⟩ := isOf hZ rfl (f74_0.keep K75)
  obtain ⟨_, _, ⟨T90, L90, k90, n90⟩, -, X90, ⟨Lc90, hQ90, l90, y90, z90⟩, st90⟩ := X75.virtualBack hx (y := (⟨"com/example/numtick/numtick/protocol/Stat", "equals", "(Ljava/lang/Object;)Z"⟩ : MethodName)) (z := (⟨"com/example/numtick/numtick/protocol/Stat", "equals", "(Ljava/lang/Object;)Z"⟩ : MethodName)) hown (mvT hZ (hw _ (List.mem_of_getElem? (i := 37) rfl))) (mvT hZ (hw _ (List.mem_of_getElem? (i := 38) rfl))) (notFace_of_selects (args := #[]) (mvT hZ (hw _ (List.mem_of_getElem? (i := 40) rfl)))) (mvT hZ (hw _ (List.mem_of_getElem? (i := 40) rfl))) (mvT hZ (hw _ (List.mem_of_getElem? (i := 39) rfl))) (by decide) (backOf (W := 0) (rm4 l Z a0 hw [] s_icache cl_icache HW b74_y0 b75_y0 (q0 + (if (11 : Int32) = (0 : Int32) then (0 : Int64) else (0 : Int64))) (q0 + (if kk = (0 : Int32) then q5 else (0 : Int64))) (q1 + (if (11 : Int32) = (1 : Int32) then (0 : Int64) else (0 : Int64))) (q1 + (if kk = (1 : Int32) then q5 else (0 : Int64))) ((q0 + q1) + (if (11 : Int32) = (2 : Int32) then (0 : Int64) else (0 : Int64))) ((q0 + q1) + (if kk = (2 : Int32) then q5 else (0 : Int64))) ((q0 - q1) + (if (11 : Int32) = (3 : Int32) then (0 : Int64) else (0 : Int64))) ((q0 - q1) + (if kk = (3 : Int32) then q5 else (0 : Int64))) (p2 + (if (11 : Int32) = (4 : Int32) then ((0 : Int64).toInt32) else (0 : Int32))) (p2 + (if kk = (4 : Int32) then (q5.toInt32) else (0 : Int32))) (p3 + (if (11 : Int32) = (5 : Int32) then ((0 : Int64).toInt32) else (0 : Int32))) (p3 + (if kk = (5 : Int32) then (q5.toInt32) else (0 : Int32))) ((p2 ^^^ p3) + (if (11 : Int32) = (6 : Int32) then ((0 : Int64).toInt32) else (0 : Int32))) ((p2 ^^^ p3) + (if kk = (6 : Int32) then (q5.toInt32) else (0 : Int32))) ((q0 ^^^ (-1 : Int64)) + (if (11 : Int32) = (7 : Int32) then (0 : Int64) else (0 : Int64))) ((q0 ^^^ (-1 : Int64)) + (if kk = (7 : Int32) then q5 else (0 : Int64))) ((p2 + p3) + (if (11 : Int32) = (8 : Int32) then ((0 : Int64).toInt32) else (0 : Int32))) ((p2 + p3) + (if kk = (8 : Int32) then (q5.toInt32) else (0 : Int32))) ((p2 - p3) + (if (11 : Int32) = (9 : Int32) then ((0 : Int64).toInt32) else (0 : Int32))) ((p2 - p3) + (if kk = (9 : Int32) then (q5.toInt32) else (0 : Int32))) ((q0 ^^^ q1) + (if (11 : Int32) = (10 : Int32) then (0 : Int64) else (0 : Int64))) ((q0 ^^^ q1) + (if kk = (10 : Int32) then q5 else (0 : Int64))) T75.heap n0 O75 f75_0 (f74_1.keep K75 nin0) f75_1 (f74_2.keep K75 nin0) f75_2 (f74_3.keep K75 nin0) f75_3 (f74_4.keep K75 nin0) f75_4 (f74_5.keep K75 nin0) f75_5 (f74_6.keep K75 nin0) f75_6 (f74_7.keep K75 nin0) f75_7 (f74_8.keep K75 nin0) f75_8 (f74_9.keep K75 nin0) f75_9 (f74_10.keep K75 nin0) f75_10 (f74_11.keep K75 nin0) f75_11) hZ (hw _ (List.mem_of_getElem? (i := 41) rfl)) (hw _ (List.mem_of_getElem? (i := 7) rfl)) (by decide) (by decide)) q90a q90c (g := (mkF m 135 #[.val (.long q0), .second, .val (.long q1), .second, .val (.int p2), .val (.int p3), .val (.int p4), .val (.long q5), .second, .val (.int kk), .val (.ref b74_y0), .val (.ref b75_y0), .val (.int lf), .val (.int ex), .unset, .unset, .unset, .unset, .unset] [(.ref b75_y0), (.ref b74_y0)])) rfl (by rw [hml]; rfl) (Steps.refl _) (argsL := [(.ref b75_y0)]) (rest := []) (lenOf own_pd247 rfl) rfl (by show 2 * 0 + _ ≤ _; exact Nat.le_of_eq rfl) (hb hby at_135) (fun _ _ => ⟨rfl, rfl, (by decide : 2 + 0 ≤ _), (by decide : 22 + 0 ≤ _)⟩)
  dsimp only [Pt.U, Pt.locs, Pt.cells, Pt.slots] at X90 l90 y90 z90 st90 hQ90
  subst l90 y90 z90
  obtain ⟨rfl, N90q, e90⟩ := hQ90
  have N90 := Fr.app N75 N90q
  refine Go.st (V' := T90.setTop (mkF m 138 #[.val (.long q0), .second, .val (.long q1), .second, .val (.int p2), .val (.int p3), .val (.int p4), .val (.long q5), .second, .val (.int kk), .val (.ref b74_y0), .val (.ref b75_y0), .val (.int lf), .val (.int ex), .unset, .unset, .unset, .unset, .unset] [(.int (f4 (q0 + (if (11 : Int32) = (0 : Int32) then (0 : Int64) else (0 : Int64))) (q0 + (if kk = (0 : Int32) then q5 else (0 : Int64))) (q1 + (if (11 : Int32) = (1 : Int32) then (0 : Int64) else (0 : Int64))) (q1 + (if kk = (1 : Int32) then q5 else (0 : Int64))) ((q0 + q1) + (if (11 : Int32) = (2 : Int32) then (0 : Int64) else (0 : Int64))) ((q0 + q1) + (if kk = (2 : Int32) then q5 else (0 : Int64))) ((q0 - q1) + (if (11 : Int32) = (3 : Int32) then (0 : Int64) else (0 : Int64))) ((q0 - q1) + (if kk = (3 : Int32) then q5 else (0 : Int64))) (p2 + (if (11 : Int32) = (4 : Int32) then ((0 : Int64).toInt32) else (0 : Int32))) (p2 + (if kk = (4 : Int32) then (q5.toInt32) else (0 : Int32))) (p3 + (if (11 : Int32) = (5 : Int32) then ((0 : Int64).toInt32) else (0 : Int32))) (p3 + (if kk = (5 : Int32) then (q5.toInt32) else (0 : Int32))) ((p2 ^^^ p3) + (if (11 : Int32) = (6 : Int32) then ((0 : Int64).toInt32) else (0 : Int32))) ((p2 ^^^ p3) + (if kk = (6 : Int32) then (q5.toInt32) else (0 : Int32))) ((q0 ^^^ (-1 : Int64)) + (if (11 : Int32) = (7 : Int32) then (0 : Int64) else (0 : Int64))) ((q0 ^^^ (-1 : Int64)) + (if kk = (7 : Int32) then q5 else (0 : Int64))) ((p2 + p3) + (if (11 : Int32) = (8 : Int32) then ((0 : Int64).toInt32) else (0 : Int32))) ((p2 + p3) + (if kk = (8 : Int32) then (q5.toInt32) else (0 : Int32))) ((p2 - p3) + (if (11 : Int32) = (9 : Int32) then ((0 : Int64).toInt32) else (0 : Int32))) ((p2 - p3) + (if kk = (9 : Int32) then (q5.toInt32) else (0 : Int32))) ((q0 ^^^ q1) + (if (11 : Int32) = (10 : Int32) then (0 : Int64) else (0 : Int64))) ((q0 ^^^ q1) + (if kk = (10 : Int32) then q5 else (0 : Int64)))))])) (fun t k => st90.trans k) ?_
  obtain ⟨ab, h_ab⟩ : ∃ z, z = (f4 (q0 + (if (11 : Int32) = (0 : Int32) then (0 : Int64) else (0 : Int64))) (q0 + (if kk = (0 : Int32) then q5 else (0 : Int64))) (q1 + (if (11 : Int32) = (1 : Int32) then (0 : Int64) else (0 : Int64))) (q1 + (if kk = (1 : Int32) then q5 else (0 : Int64))) ((q0 + q1) + (if (11 : Int32) = (2 : Int32) then (0 : Int64) else (0 : Int64))) ((q0 + q1) + (if kk = (2 : Int32) then q5 else (0 : Int64))) ((q0 - q1) + (if (11 : Int32) = (3 : Int32) then (0 : Int64) else (0 : Int64))) ((q0 - q1) + (if kk = (3 : Int32) then q5 else (0 : Int64))) (p2 + (if (11 : Int32) = (4 : Int32) then ((0 : Int64).toInt32) else (0 : Int32))) (p2 + (if kk = (4 : Int32) then (q5.toInt32) else (0 : Int32))) (p3 + (if (11 : Int32) = (5 : Int32) then ((0 : Int64).toInt32) else (0 : Int32))) (p3 + (if kk = (5 : Int32) then (q5.toInt32) else (0 : Int32))) ((p2 ^^^ p3) + (if (11 : Int32) = (6 : Int32) then ((0 : Int64).toInt32) else (0 : Int32))) ((p2 ^^^ p3) + (if kk = (6 : Int32) then (q5.toInt32) else (0 : Int32))) ((q0 ^^^ (-1 : Int64)) + (if (11 : Int32) = (7 : Int32) then (0 : Int64) else (0 : Int64))) ((q0 ^^^ (-1 : Int64)) + (if kk = (7 : Int32) then q5 else (0 : Int64))) ((p2 + p3) + (if (11 : Int32) = (8 : Int32) then ((0 : Int64).toInt32) else (0 : Int32))) ((p2 + p3) + (if kk = (8 : Int32) then (q5.toInt32) else (0 : Int32))) ((p2 - p3) + (if (11 : Int32) = (9 : Int32) then ((0 : Int64).toInt32) else (0 : Int32))) ((p2 - p3) + (if kk = (9 : Int32) then (q5.toInt32) else (0 : Int32))) ((q0 ^^^ q1) + (if (11 : Int32) = (10 : Int32) then (0 : Int64) else (0 : Int64))) ((q0 ^^^ q1) + (if kk = (10 : Int32) then q5 else (0 : Int64)))) := ⟨_, rfl⟩
  rw [← h_ab]
  refine Go.st (V' := T90.setTop (mkF m 144 #[.val (.long q0), .second, .val (.long q1), .second, .val (.int p2), .val (.int p3), .val (.int p4), .val (.long q5), .second, .val (.int kk), .val (.ref b74_y0), .val (.ref b75_y0), .val (.int lf), .val (.int ex), .val (.int ab), .unset, .unset, .unset, .unset] [(.ref b74_y0), (.ref b75_y0)])) (fun t k => ?_) ?_
  · refine XS.istore X90.here hx rfl (hb hby at_138) rfl (l' := #[.val (.long q0), .second, .val (.long q1), .second, .val (.int p2), .val (.int p3), .val (.int p4), .val (.long q5), .second, .val (.int kk), .val (.ref b74_y0), .val (.ref b75_y0), .val (.int lf), .val (.int ex), .val (.int ab), .unset, .unset, .unset, .unset]) rfl ?_
    show Steps p.tables e below (T90.setTop (mkF m 140 #[.val (.long q0), .second, .val (.long q1), .second, .val (.int p2), .val (.int p3), .val (.int p4), .val (.long q5), .second, .val (.int kk), .val (.ref b74_y0), .val (.ref b75_y0), .val (.int lf), .val (.int ex), .val (.int ab), .unset, .unset, .unset, .unset] [])) _
    refine XS.aload X90.here hx rfl (hb hby at_140) rfl rfl ?_
    show Steps p.tables e below (T90.setTop (mkF m 142 #[.val (.long q0), .second, .val (.long q1), .second, .val (.int p2), .val (.int p3), .val (.int p4), .val (.long q5), .second, .val (.int kk), .val (.ref b74_y0), .val (.ref b75_y0), .val (.int lf), .val (.int ex), .val (.int ab), .unset, .unset, .unset, .unset] [(.ref b75_y0)])) _
    refine XS.aload X90.here hx rfl (hb hby at_142) rfl rfl ?_
    show Steps p.tables e below (T90.setTop (mkF m 144 #[.val (.long q0), .second, .val (.long q1), .second, .val (.int p2), .val (.int p3), .val (.int p4), .val (.long q5), .second, .val (.int kk), .val (.ref b74_y0), .val (.ref b75_y0), .val (.int lf), .val (.int ex), .val (.int ab), .unset, .unset, .unset, .unset] [(.ref b74_y0), (.ref b75_y0)])) _
    exact k
  obtain ⟨cq91, kq91, q91a, q91b, q91c⟩ := isOf hZ e90 f75_0
  obtain ⟨_, _, ⟨T91, L91, k91, n91⟩, -, X91, ⟨Lc91, hQ91, l91, y91, z91⟩, st91⟩ := X90.virtualBack hx (y := (⟨"com/example/numtick/numtick/protocol/Stat", "equals", "(Ljava/lang/Object;)Z"⟩ : MethodName)) (z := (⟨"com/example/numtick/numtick/protocol/Stat", "equals", "(Ljava/lang/Object;)Z"⟩ : MethodName)) hown (mvT hZ (hw _ (List.mem_of_getElem? (i := 37) rfl))) (mvT hZ (hw _ (List.mem_of_getElem? (i := 38) rfl))) (notFace_of_selects (args := #[]) (mvT hZ (hw _ (List.mem_of_getElem? (i := 40) rfl)))) (mvT hZ (hw _ (List.mem_of_getElem? (i := 40) rfl))) (mvT hZ (hw _ (List.mem_of_getElem? (i := 39) rfl))) (by decide) (backOf (W := 0) (rm4 l Z a0 hw [] s_icache cl_icache HW b75_y0 b74_y0 (q0 + (if kk = (0 : Int32) then q5 else (0 : Int64))) (q0 + (if (11 : Int32) = (0 : Int32) then (0 : Int64) else (0 : Int64))) (q1 + (if kk = (1 : Int32) then q5 else (0 : Int64))) (q1 + (if (11 : Int32) = (1 : Int32) then (0 : Int64) else (0 : Int64))) ((q0 + q1) + (if kk = (2 : Int32) then q5 else (0 : Int64))) ((q0 + q1) + (if (11 : Int32) = (2 : Int32) then (0 : Int64) else (0 : Int64))) ((q0 - q1) + (if kk = (3 : Int32) then q5 else (0 : Int64))) ((q0 - q1) + (if (11 : Int32) = (3 : Int32) then (0 : Int64) else (0 : Int64))) (p2 + (if kk = (4 : Int32) then (q5.toInt32) else (0 : Int32))) (p2 + (if (11 : Int32) = (4 : Int32) then ((0 : Int64).toInt32) else (0 : Int32))) (p3 + (if kk = (5 : Int32) then (q5.toInt32) else (0 : Int32))) (p3 + (if (11 : Int32) = (5 : Int32) then ((0 : Int64).toInt32) else (0 : Int32))) ((p2 ^^^ p3) + (if kk = (6 : Int32) then (q5.toInt32) else (0 : Int32))) ((p2 ^^^ p3) + (if (11 : Int32) = (6 : Int32) then ((0 : Int64).toInt32) else (0 : Int32))) ((q0 ^^^ (-1 : Int64)) + (if kk = (7 : Int32) then q5 else (0 : Int64))) ((q0 ^^^ (-1 : Int64)) + (if (11 : Int32) = (7 : Int32) then (0 : Int64) else (0 : Int64))) ((p2 + p3) + (if kk = (8 : Int32) then (q5.toInt32) else (0 : Int32))) ((p2 + p3) + (if (11 : Int32) = (8 : Int32) then ((0 : Int64).toInt32) else (0 : Int32))) ((p2 - p3) + (if kk = (9 : Int32) then (q5.toInt32) else (0 : Int32))) ((p2 - p3) + (if (11 : Int32) = (9 : Int32) then ((0 : Int64).toInt32) else (0 : Int32))) ((q0 ^^^ q1) + (if kk = (10 : Int32) then q5 else (0 : Int64))) ((q0 ^^^ q1) + (if (11 : Int32) = (10 : Int32) then (0 : Int64) else (0 : Int64))) T75.heap n0 O75 (f74_0.keep K75) f75_1 (f74_1.keep K75 nin0) f75_2 (f74_2.keep K75 nin0) f75_3 (f74_3.keep K75 nin0) f75_4 (f74_4.keep K75 nin0) f75_5 (f74_5.keep K75 nin0) f75_6 (f74_6.keep K75 nin0) f75_7 (f74_7.keep K75 nin0) f75_8 (f74_8.keep K75 nin0) f75_9 (f74_9.keep K75 nin0) f75_10 (f74_10.keep K75 nin0) f75_11 (f74_11.keep K75 nin0)) hZ (hw _ (List.mem_of_getElem? (i := 41) rfl)) (hw _ (List.mem_of_getElem? (i := 7) rfl)) (by decide) (by decide)) q91a q91c (g := (mkF m 144 #[.val (.long q0), .second, .val (.long q1), .second, .val (.int p2), .val (.int p3), .val (.int p4), .val (.long q5), .second, .val (.int kk), .val (.ref b74_y0), .val (.ref b75_y0), .val (.int lf), .val (.int ex), .val (.int ab), .unset, .unset, .unset, .unset] [(.ref b74_y0), (.ref b75_y0)])) rfl (by rw [hml]; rfl) (Steps.refl _) (argsL := [(.ref b74_y0)]) (rest := []) (lenOf own_pd247 rfl) rfl (by show 2 * 0 + _ ≤ _; exact Nat.le_of_eq rfl) (hb hby at_144) (fun _ _ => ⟨rfl, e90, (by decide : 2 + 0 ≤ _), (by decide : 22 + 0 ≤ _)⟩)
  dsimp only [Pt.U, Pt.locs, Pt.cells, Pt.slots] at X91 l91 y91 z91 st91 hQ91
  subst l91 y91 z91
  obtain ⟨rfl, N91q, e91⟩ := hQ91
  have N91 := Fr.app N90 N91q
  refine Go.st (V' := T91.setTop (mkF m 147 #[.val (.long q0), .second, .val (.long q1), .second, .val (.int p2), .val (.int p3), .val (.int p4), .val (.long q5), .second, .val (.int kk), .val (.ref b74_y0), .val (.ref b75_y0), .val (.int lf), .val (.int ex), .val (.int ab), .unset, .unset, .unset, .unset] [(.int (f4 (q0 + (if kk = (0 : Int32) then q5 else (0 : Int64))) (q0 + (if (11 : Int32) = (0 : Int32) then (0 : Int64) else (0 : Int64))) (q1 + (if kk = (1 : Int32) then q5 else (0 : Int64))) (q1 + (if (11 : Int32) = (1 : Int32) then (0 : Int64) else (0 : Int64))) ((q0 + q1) + (if kk = (2 : Int32) then q5 else (0 : Int64))) ((q0 + q1) + (if (11 : Int32) = (2 : Int32) then (0 : Int64) else (0 : Int64))) ((q0 - q1) + (if kk = (3 : Int32) then q5 else (0 : Int64))) ((q0 - q1) + (if (11 : Int32) = (3 : Int32) then (0 : Int64) else (0 : Int64))) (p2 + (if kk = (4 : Int32) then (q5.toInt32) else (0 : Int32))) (p2 + (if (11 : Int32) = (4 : Int32) then ((0 : Int64).toInt32) else (0 : Int32))) (p3 + (if kk = (5 : Int32) then (q5.toInt32) else (0 : Int32))) (p3 + (if (11 : Int32) = (5 : Int32) then ((0 : Int64).toInt32) else (0 : Int32))) ((p2 ^^^ p3) + (if kk = (6 : Int32) then (q5.toInt32) else (0 : Int32))) ((p2 ^^^ p3) + (if (11 : Int32) = (6 : Int32) then ((0 : Int64).toInt32) else (0 : Int32))) ((q0 ^^^ (-1 : Int64)) + (if kk = (7 : Int32) then q5 else (0 : Int64))) ((q0 ^^^ (-1 : Int64)) + (if (11 : Int32) = (7 : Int32) then (0 : Int64) else (0 : Int64))) ((p2 + p3) + (if kk = (8 : Int32) then (q5.toInt32) else (0 : Int32))) ((p2 + p3) + (if (11 : Int32) = (8 : Int32) then ((0 : Int64).toInt32) else (0 : Int32))) ((p2 - p3) + (if kk = (9 : Int32) then (q5.toInt32) else (0 : Int32))) ((p2 - p3) + (if (11 : Int32) = (9 : Int32) then ((0 : Int64).toInt32) else (0 : Int32))) ((q0 ^^^ q1) + (if kk = (10 : Int32) then q5 else (0 : Int64))) ((q0 ^^^ q1) + (if (11 : Int32) = (10 : Int32) then (0 : Int64) else (0 : Int64)))))])) (fun t k => st91.trans k) ?_
  obtain ⟨ba, h_ba⟩ : ∃ z, z = (f4 (q0 + (if kk = (0 : Int32) then q5 else (0 : Int64))) (q0 + (if (11 : Int32) = (0 : Int32) then (0 : Int64) else (0 : Int64))) (q1 + (if kk = (1 : Int32) then q5 else (0 : Int64))) (q1 + (if (11 : Int32) = (1 : Int32) then (0 : Int64) else (0 : Int64))) ((q0 + q1) + (if kk = (2 : Int32) then q5 else (0 : Int64))) ((q0 + q1) + (if (11 : Int32) = (2 : Int32) then (0 : Int64) else (0 : Int64))) ((q0 - q1) + (if kk = (3 : Int32) then q5 else (0 : Int64))) ((q0 - q1) + (if (11 : Int32) = (3 : Int32) then (0 : Int64) else (0 : Int64))) (p2 + (if kk = (4 : Int32) then (q5.toInt32) else (0 : Int32))) (p2 + (if (11 : Int32) = (4 : Int32) then ((0 : Int64).toInt32) else (0 : Int32))) (p3 + (if kk = (5 : Int32) then (q5.toInt32) else (0 : Int32))) (p3 + (if (11 : Int32) = (5 : Int32) then ((0 : Int64).toInt32) else (0 : Int32))) ((p2 ^^^ p3) + (if kk = (6 : Int32) then (q5.toInt32) else (0 : Int32))) ((p2 ^^^ p3) + (if (11 : Int32) = (6 : Int32) then ((0 : Int64).toInt32) else (0 : Int32))) ((q0 ^^^ (-1 : Int64)) + (if kk = (7 : Int32) then q5 else (0 : Int64))) ((q0 ^^^ (-1 : Int64)) + (if (11 : Int32) = (7 : Int32) then (0 : Int64) else (0 : Int64))) ((p2 + p3) + (if kk = (8 : Int32) then (q5.toInt32) else (0 : Int32))) ((p2 + p3) + (if (11 : Int32) = (8 : Int32) then ((0 : Int64).toInt32) else (0 : Int32))) ((p2 - p3) + (if kk = (9 : Int32) then (q5.toInt32) else (0 : Int32))) ((p2 - p3) + (if (11 : Int32) = (9 : Int32) then ((0 : Int64).toInt32) else (0 : Int32))) ((q0 ^^^ q1) + (if kk = (10 : Int32) then q5 else (0 : Int64))) ((q0 ^^^ q1) + (if (11 : Int32) = (10 : Int32) then (0 : Int64) else (0 : Int64)))) := ⟨_, rfl⟩
  rw [← h_ba]
  refine Go.st (V' := T91.setTop (mkF m 153 #[.val (.long q0), .second, .val (.long q1), .second, .val (.int p2), .val (.int p3), .val (.int p4), .val (.long q5), .second, .val (.int kk), .val (.ref b74_y0), .val (.ref b75_y0), .val (.int lf), .val (.int ex), .val (.int ab), .val (.int ba), .unset, .unset, .unset] [(.ref b74_y0), (.ref b74_y0)])) (fun t k => ?_) ?_
  · refine XS.istore X91.here hx rfl (hb hby at_147) rfl (l' := #[.val (.long q0), .second, .val (.long q1), .second, .val (.int p2), .val (.int p3), .val (.int p4), .val (.long q5), .second, .val (.int kk), .val (.ref b74_y0), .val (.ref b75_y0), .val (.int lf), .val (.int ex), .val (.int ab), .val (.int ba), .unset, .unset, .unset]) rfl ?_
    show Steps p.tables e below (T91.setTop (mkF m 149 #[.val (.long q0), .second, .val (.long q1), .second, .val (.int p2), .val (.int p3), .val (.int p4), .val (.long q5), .second, .val (.int kk), .val (.ref b74_y0), .val (.ref b75_y0), .val (.int lf), .val (.int ex), .val (.int ab), .val (.int ba), .unset, .unset, .unset] [])) _
    refine XS.aload X91.here hx rfl (hb hby at_149) rfl rfl ?_
    show Steps p.tables e below (T91.setTop (mkF m 151 #[.val (.long q0), .second, .val (.long q1), .second, .val (.int p2), .val (.int p3), .val (.int p4), .val (.long q5), .second, .val (.int kk), .val (.ref b74_y0), .val (.ref b75_y0), .val (.int lf), .val (.int ex), .val (.int ab), .val (.int ba), .unset, .unset, .unset] [(.ref b74_y0)])) _
    refine XS.aload X91.here hx rfl (hb hby at_151) rfl rfl ?_
    show Steps p.tables e below (T91.setTop (mkF m 153 #[.val (.long q0), .second, .val (.long q1), .second, .val (.int p2), .val (.int p3), .val (.int p4), .val (.long q5), .second, .val (.int kk), .val (.ref b74_y0), .val (.ref b75_y0), .val (.int lf), .val (.int ex), .val (.int ab), .val (.int ba), .unset, .unset, .unset] [(.ref b74_y0), (.ref b74_y0)])) _
    exact k
  obtain ⟨cq92, kq92, q92a, q92b, q92c⟩ := isOf hZ e91 (f74_0.keep K75)
  obtain ⟨_, _, ⟨T92, L92, k92, n92⟩, -, X92, ⟨Lc92, hQ92, l92, y92, z92⟩, st92⟩ := X91.virtualBack hx (y := (⟨"com/example/numtick/numtick/protocol/Stat", "equals", "(Ljava/lang/Object;)Z"⟩ : MethodName)) (z := (⟨"com/example/numtick/numtick/protocol/Stat", "equals", "(Ljava/lang/Object;)Z"⟩ : MethodName)) hown (mvT hZ (hw _ (List.mem_of_getElem? (i := 37) rfl))) (mvT hZ (hw _ (List.mem_of_getElem? (i := 38) rfl))) (notFace_of_selects (args := #[]) (mvT hZ (hw _ (List.mem_of_getElem? (i := 40) rfl)))) (mvT hZ (hw _ (List.mem_of_getElem? (i := 40) rfl))) (mvT hZ (hw _ (List.mem_of_getElem? (i := 39) rfl))) (by decide) (backOf (W := 0) (rm4 l Z a0 hw [] s_icache cl_icache HW b74_y0 b74_y0 (q0 + (if (11 : Int32) = (0 : Int32) then (0 : Int64) else (0 : Int64))) (q0 + (if (11 : Int32) = (0 : Int32) then (0 : Int64) else (0 : Int64))) (q1 + (if (11 : Int32) = (1 : Int32) then (0 : Int64) else (0 : Int64))) (q1 + (if (11 : Int32) = (1 : Int32) then (0 : Int64) else (0 : Int64))) ((q0 + q1) + (if (11 : Int32) = (2 : Int32) then (0 : Int64) else (0 : Int64))) ((q0 + q1) + (if (11 : Int32) = (2 : Int32) then (0 : Int64) else (0 : Int64))) ((q0 - q1) + (if (11 : Int32) = (3 : Int32) then (0 : Int64) else (0 : Int64))) ((q0 - q1) + (if (11 : Int32) = (3 : Int32) then (0 : Int64) else (0 : Int64))) (p2 + (if (11 : Int32) = (4 : Int32) then ((0 : Int64).toInt32) else (0 : Int32))) (p2 + (if (11 : Int32) = (4 : Int32) then ((0 : Int64).toInt32) else (0 : Int32))) (p3 + (if (11 : Int32) = (5 : Int32) then ((0 : Int64).toInt32) else (0 : Int32))) (p3 + (if (11 : Int32) = (5 : Int32) then ((0 : Int64).toInt32) else (0 : Int32))) ((p2 ^^^ p3) + (if (11 : Int32) = (6 : Int32) then ((0 : Int64).toInt32) else (0 : Int32))) ((p2 ^^^ p3) + (if (11 : Int32) = (6 : Int32) then ((0 : Int64).toInt32) else (0 : Int32))) ((q0 ^^^ (-1 : Int64)) + (if (11 : Int32) = (7 : Int32) then (0 : Int64) else (0 : Int64))) ((q0 ^^^ (-1 : Int64)) + (if (11 : Int32) = (7 : Int32) then (0 : Int64) else (0 : Int64))) ((p2 + p3) + (if (11 : Int32) = (8 : Int32) then ((0 : Int64).toInt32) else (0 : Int32))) ((p2 + p3) + (if (11 : Int32) = (8 : Int32) then ((0 : Int64).toInt32) else (0 : Int32))) ((p2 - p3) + (if (11 : Int32) = (9 : Int32) then ((0 : Int64).toInt32) else (0 : Int32))) ((p2 - p3) + (if (11 : Int32) = (9 : Int32) then ((0 : Int64).toInt32) else (0 : Int32))) ((q0 ^^^ q1) + (if (11 : Int32) = (10 : Int32) then (0 : Int64) else (0 : Int64))) ((q0 ^^^ q1) + (if (11 : Int32) = (10 : Int32) then (0 : Int64) else (0 : Int64))) T75.heap n0 O75 (f74_0.keep K75) (f74_1.keep K75 nin0) (f74_1.keep K75 nin0) (f74_2.keep K75 nin0) (f74_2.keep K75 nin0) (f74_3.keep K75 nin0) (f74_3.keep K75 nin0) (f74_4.keep K75 nin0) (f74_4.keep K75 nin0) (f74_5.keep K75 nin0) (f74_5.keep K75 nin0) (f74_6.keep K75 nin0) (f74_6.keep K75 nin0) (f74_7.keep K75 nin0) (f74_7.keep K75 nin0) (f74_8.keep K75 nin0) (f74_8.keep K75 nin0) (f74_9.keep K75 nin0) (f74_9.keep K75 nin0) (f74_10.keep K75 nin0) (f74_10.keep K75 nin0) (f74_11.keep K75 nin0) (f74_11.keep K75 nin0)) hZ (hw _ (List.mem_of_getElem? (i := 41) rfl)) (hw _ (List.mem_of_getElem? (i := 7) rfl)) (by decide) (by decide)) q92a q92c (g := (mkF m 153 #[.val (.long q0), .second, .val (.long q1), .second, .val (.int p2), .val (.int p3), .val (.int p4), .val (.long q5), .second, .val (.int kk), .val (.ref b74_y0), .val (.ref b75_y0), .val (.int lf), .val (.int ex), .val (.int ab), .val (.int ba), .unset, .unset, .unset] [(.ref b74_y0), (.ref b74_y0)])) rfl (by rw [hml]; rfl) (Steps.refl _) (argsL := [(.ref b74_y0)]) (rest := []) (lenOf own_pd247 rfl) rfl (by show 2 * 0 + _ ≤ _; exact Nat.le_of_eq rfl) (hb hby at_153) (fun _ _ => ⟨rfl, e91, (by decide : 2 + 0 ≤ _), (by decide : 22 + 0 ≤ _)⟩)
  dsimp only [Pt.U, Pt.locs, Pt.cells, Pt.slots] at X92 l92 y92 z92 st92 hQ92
  subst l92 y92 z92
  obtain ⟨rfl, N92q, e92⟩ := hQ92
  have N92 := Fr.app N91 N92q
  refine Go.st (V' := T92.setTop (mkF m 156 #[.val (.long q0), .second, .val (.long q1), .second, .val (.int p2), .val (.int p3), .val (.int p4), .val (.long q5), .second, .val (.int kk), .val (.ref b74_y0), .val (.ref b75_y0), .val (.int lf), .val (.int ex), .val (.int ab), .val (.int ba), .unset, .unset, .unset] [(.int (f4 (q0 + (if (11 : Int32) = (0 : Int32) then (0 : Int64) else (0 : Int64))) (q0 + (if (11 : Int32) = (0 : Int32) then (0 : Int64) else (0 : Int64))) (q1 + (if (11 : Int32) = (1 : Int32) then (0 : Int64) else (0 : Int64))) (q1 + (if (11 : Int32) = (1 : Int32) then (0 : Int64) else (0 : Int64))) ((q0 + q1) + (if (11 : Int32) = (2 : Int32) then (0 : Int64) else (0 : Int64))) ((q0 + q1) + (if (11 : Int32) = (2 : Int32) then (0 : Int64) else (0 : Int64))) ((q0 - q1) + (if (11 : Int32) = (3 : Int32) then (0 : Int64) else (0 : Int64))) ((q0 - q1) + (if (11 : Int32) = (3 : Int32) then (0 : Int64) else (0 : Int64))) (p2 + (if (11 : Int32) = (4 : Int32) then ((0 : Int64).toInt32) else (0 : Int32))) (p2 + (if (11 : Int32) = (4 : Int32) then ((0 : Int64).toInt32) else (0 : Int32))) (p3 + (if (11 : Int32) = (5 : Int32) then ((0 : Int64).toInt32) else (0 : Int32))) (p3 + (if (11 : Int32) = (5 : Int32) then ((0 : Int64).toInt32) else (0 : Int32))) ((p2 ^^^ p3) + (if (11 : Int32) = (6 : Int32) then ((0 : Int64).toInt32) else (0 : Int32))) ((p2 ^^^ p3) + (if (11 : Int32) = (6 : Int32) then ((0 : Int64).toInt32) else (0 : Int32))) ((q0 ^^^ (-1 : Int64)) + (if (11 : Int32) = (7 : Int32) then (0 : Int64) else (0 : Int64))) ((q0 ^^^ (-1 : Int64)) + (if (11 : Int32) = (7 : Int32) then (0 : Int64) else (0 : Int64))) ((p2 + p3) + (if (11 : Int32) = (8 : Int32) then ((0 : Int64).toInt32) else (0 : Int32))) ((p2 + p3) + (if (11 : Int32) = (8 : Int32) then ((0 : Int64).toInt32) else (0 : Int32))) ((p2 - p3) + (if (11 : Int32) = (9 : Int32) then ((0 : Int64).toInt32) else (0 : Int32))) ((p2 - p3) + (if (11 : Int32) = (9 : Int32) then ((0 : Int64).toInt32) else (0 : Int32))) ((q0 ^^^ q1) + (if (11 : Int32) = (10 : Int32) then (0 : Int64) else (0 : Int64))) ((q0 ^^^ q1) + (if (11 : Int32) = (10 : Int32) then (0 : Int64) else (0 : Int64)))))])) (fun t k => st92.trans k) ?_
  obtain ⟨se, h_se⟩ : ∃ z, z = (f4 (q0 + (if (11 : Int32) = (0 : Int32) then (0 : Int64) else (0 : Int64))) (q0 + (if (11 : Int32) = (0 : Int32) then (0 : Int64) else (0 : Int64))) (q1 + (if (11 : Int32) = (1 : Int32) then (0 : Int64) else (0 : Int64))) (q1 + (if (11 : Int32) = (1 : Int32) then (0 : Int64) else (0 : Int64))) ((q0 + q1) + (if (11 : Int32) = (2 : Int32) then (0 : Int64) else (0 : Int64))) ((q0 + q1) + (if (11 : Int32) = (2 : Int32) then (0 : Int64) else (0 : Int64))) ((q0 - q1) + (if (11 : Int32) = (3 : Int32) then (0 : Int64) else (0 : Int64))) ((q0 - q1) + (if (11 : Int32) = (3 : Int32) then (0 : Int64) else (0 : Int64))) (p2 + (if (11 : Int32) = (4 : Int32) then ((0 : Int64).toInt32) else (0 : Int32))) (p2 + (if (11 : Int32) = (4 : Int32) then ((0 : Int64).toInt32) else (0 : Int32))) (p3 + (if (11 : Int32) = (5 : Int32) then ((0 : Int64).toInt32) else (0 : Int32))) (p3 + (if (11 : Int32) = (5 : Int32) then ((0 : Int64).toInt32) else (0 : Int32))) ((p2 ^^^ p3) + (if (11 : Int32) = (6 : Int32) then ((0 : Int64).toInt32) else (0 : Int32))) ((p2 ^^^ p3) + (if (11 : Int32) = (6 : Int32) then ((0 : Int64).toInt32) else (0 : Int32))) ((q0 ^^^ (-1 : Int64)) + (if (11 : Int32) = (7 : Int32) then (0 : Int64) else (0 : Int64))) ((q0 ^^^ (-1 : Int64)) + (if (11 : Int32) = (7 : Int32) then (0 : Int64) else (0 : Int64))) ((p2 + p3) + (if (11 : Int32) = (8 : Int32) then ((0 : Int64).toInt32) else (0 : Int32))) ((p2 + p3) + (if (11 : Int32) = (8 : Int32) then ((0 : Int64).toInt32) else (0 : Int32))) ((p2 - p3) + (if (11 : Int32) = (9 : Int32) then ((0 : Int64).toInt32) else (0 : Int32))) ((p2 - p3) + (if (11 : Int32) = (9 : Int32) then ((0 : Int64).toInt32) else (0 : Int32))) ((q0 ^^^ q1) + (if (11 : Int32) = (10 : Int32) then (0 : Int64) else (0 : Int64))) ((q0 ^^^ q1) + (if (11 : Int32) = (10 : Int32) then (0 : Int64) else (0 : Int64)))) := ⟨_, rfl⟩
  rw [← h_se]
  refine Go.st (V' := T92.setTop (mkF m 161 #[.val (.long q0), .second, .val (.long q1), .second, .val (.int p2), .val (.int p3), .val (.int p4), .val (.long q5), .second, .val (.int kk), .val (.ref b74_y0), .val (.ref b75_y0), .val (.int lf), .val (.int ex), .val (.int ab), .val (.int ba), .val (.int se), .unset, .unset] [.null, (.ref b74_y0)])) (fun t k => ?_) ?_
  · refine XS.istore X92.here hx rfl (hb hby at_156) rfl (l' := #[.val (.long q0), .second, .val (.long q1), .second, .val (.int p2), .val (.int p3), .val (.int p4), .val (.long q5), .second, .val (.int kk), .val (.ref b74_y0), .val (.ref b75_y0), .val (.int lf), .val (.int ex), .val (.int ab), .val (.int ba), .val (.int se), .unset, .unset]) rfl ?_
    show Steps p.tables e below (T92.setTop (mkF m 158 #[.val (.long q0), .second, .val (.long q1), .second, .val (.int p2), .val (.int p3), .val (.int p4), .val (.long q5), .second, .val (.int kk), .val (.ref b74_y0), .val (.ref b75_y0), .val (.int lf), .val (.int ex), .val (.int ab), .val (.int ba), .val (.int se), .unset, .unset] [])) _
    refine XS.aload X92.here hx rfl (hb hby at_158) rfl rfl ?_
    show Steps p.tables e below (T92.setTop (mkF m 160 #[.val (.long q0), .second, .val (.long q1), .second, .val (.int p2), .val (.int p3), .val (.int p4), .val (.long q5), .second, .val (.int kk), .val (.ref b74_y0), .val (.ref b75_y0), .val (.int lf), .val (.int ex), .val (.int ab), .val (.int ba), .val (.int se), .unset, .unset] [(.ref b74_y0)])) _
    refine XS.aconstNull X92.here hx rfl (hb hby at_160) ?_
    show Steps p.tables e below (T92.setTop (mkF m 161 #[.val (.long q0), .second, .val (.long q1), .second, .val (.int p2), .val (.int p3), .val (.int p4), .val (.long q5), .second, .val (.int kk), .val (.ref b74_y0), .val (.ref b75_y0), .val (.int lf), .val (.int ex), .val (.int ab), .val (.int ba), .val (.int se), .unset, .unset] [.null, (.ref b74_y0)])) _
    exact k
  obtain ⟨cq93, kq93, q93a, q93b, q93c⟩ := isOf hZ e92 (f74_0.keep K75)
  obtain ⟨_, _, ⟨T93, L93, k93, n93⟩, -, X93, ⟨Lc93, hQ93, l93, y93, z93⟩, st93⟩ := X92.virtualBack hx (y := (⟨"com/example/numtick/numtick/protocol/Stat", "equals", "(Ljava/lang/Object;)Z"⟩ : MethodName)) (z := (⟨"com/example/numtick/numtick/protocol/Stat", "equals", "(Ljava/lang/Object;)Z"⟩ : MethodName)) hown (mvT hZ (hw _ (List.mem_of_getElem? (i := 37) rfl))) (mvT hZ (hw _ (List.mem_of_getElem? (i := 38) rfl))) (notFace_of_selects (args := #[]) (mvT hZ (hw _ (List.mem_of_getElem? (i := 40) rfl)))) (mvT hZ (hw _ (List.mem_of_getElem? (i := 40) rfl))) (mvT hZ (hw _ (List.mem_of_getElem? (i := 39) rfl))) (by decide) (backOf (W := 0) (rm4n l Z a0 hw [] s_icache cl_icache HW b74_y0 T75.heap n0 O75) hZ (hw _ (List.mem_of_getElem? (i := 41) rfl)) (hw _ (List.mem_of_getElem? (i := 7) rfl)) (by decide) (by decide)) q93a q93c (g := (mkF m 161 #[.val (.long q0), .second, .val (.long q1), .second, .val (.int p2), .val (.int p3), .val (.int p4), .val (.long q5), .second, .val (.int kk), .val (.ref b74_y0), .val (.ref b75_y0), .val (.int lf), .val (.int ex), .val (.int ab), .val (.int ba), .val (.int se), .unset, .unset] [.null, (.ref b74_y0)])) rfl (by rw [hml]; rfl) (Steps.refl _) (argsL := [.null]) (rest := []) (lenOf own_pd247 rfl) rfl (by show 2 * 0 + _ ≤ _; exact Nat.le_of_eq rfl) (hb hby at_161) (fun _ _ => ⟨rfl, e92, (by decide : 2 + 0 ≤ _), (by decide : 22 + 0 ≤ _)⟩)
  dsimp only [Pt.U, Pt.locs, Pt.cells, Pt.slots] at X93 l93 y93 z93 st93 hQ93
  subst l93 y93 z93
  obtain ⟨rfl, N93q, e93⟩ := hQ93
  have N93 := Fr.app N92 N93q
  refine Go.st (V' := T93.setTop (mkF m 164 #[.val (.long q0), .second, .val (.long q1), .second, .val (.int p2), .val (.int p3), .val (.int p4), .val (.long q5), .second, .val (.int kk), .val (.ref b74_y0), .val (.ref b75_y0), .val (.int lf), .val (.int ex), .val (.int ab), .val (.int ba), .val (.int se), .unset, .unset] [(.int (0 : Int32))])) (fun t k => st93.trans k) ?_
  refine Go.st (V' := T93.setTop (mkF m 170 #[.val (.long q0), .second, .val (.long q1), .second, .val (.int p2), .val (.int p3), .val (.int p4), .val (.long q5), .second, .val (.int kk), .val (.ref b74_y0), .val (.ref b75_y0), .val (.int lf), .val (.int ex), .val (.int ab), .val (.int ba), .val (.int se), .val (.int (0 : Int32)), .unset] [(.int p2), (.ref b74_y0)])) (fun t k => ?_) ?_
  · refine XS.istore X93.here hx rfl (hb hby at_164) rfl (l' := #[.val (.long q0), .second, .val (.long q1), .second, .val (.int p2), .val (.int p3), .val (.int p4), .val (.long q5), .second, .val (.int kk), .val (.ref b74_y0), .val (.ref b75_y0), .val (.int lf), .val (.int ex), .val (.int ab), .val (.int ba), .val (.int se), .val (.int (0 : Int32)), .unset]) rfl ?_
    show Steps p.tables e below (T93.setTop (mkF m 166 #[.val (.long q0), .second, .val (.long q1), .second, .val (.int p2), .val (.int p3), .val (.int p4), .val (.long q5), .second, .val (.int kk), .val (.ref b74_y0), .val (.ref b75_y0), .val (.int lf), .val (.int ex), .val (.int ab), .val (.int ba), .val (.int se), .val (.int (0 : Int32)), .unset] [])) _
    refine XS.aload X93.here hx rfl (hb hby at_166) rfl rfl ?_
    show Steps p.tables e below (T93.setTop (mkF m 168 #[.val (.long q0), .second, .val (.long q1), .second, .val (.int p2), .val (.int p3), .val (.int p4), .val (.long q5), .second, .val (.int kk), .val (.ref b74_y0), .val (.ref b75_y0), .val (.int lf), .val (.int ex), .val (.int ab), .val (.int ba), .val (.int se), .val (.int (0 : Int32)), .unset] [(.ref b74_y0)])) _
    refine XS.iload X93.here hx rfl (hb hby at_168) rfl  ?_
    show Steps p.tables e below (T93.setTop (mkF m 170 #[.val (.long q0), .second, .val (.long q1), .second, .val (.int p2), .val (.int p3), .val (.int p4), .val (.long q5), .second, .val (.int kk), .val (.ref b74_y0), .val (.ref b75_y0), .val (.int lf), .val (.int ex), .val (.int ab), .val (.int ba), .val (.int se), .val (.int (0 : Int32)), .unset] [(.int p2), (.ref b74_y0)])) _
    exact k
  obtain ⟨_, _, ⟨T94, L94, k94, n94⟩, -, X94, ⟨Lc94, hQ94, l94, y94, z94⟩, st94⟩ := Jvm.LawKit.callS X93 hx (y := (⟨"java/lang/Integer", "valueOf", "(I)Ljava/lang/Integer;"⟩ : MethodName)) hown (mvT hZ (hw _ (List.mem_of_getElem? (i := 44) rfl))) (mvT hZ (hw _ (List.mem_of_getElem? (i := 45) rfl))) (mvT hZ (hw _ (List.mem_of_getElem? (i := 46) rfl))) (mvT hZ (hw _ (List.mem_of_getElem? (i := 47) rfl))) (by decide) (backOf (W := 1) (rm5 l Z a0 hw [] s_icache cl_icache HW p2 T75.heap n0 O75) hZ (hw _ (List.mem_of_getElem? (i := 47) rfl)) (hw _ (List.mem_of_getElem? (i := 46) rfl)) (by decide) (by decide)) (g := (mkF m 170 #[.val (.long q0), .second, .val (.long q1), .second, .val (.int p2), .val (.int p3), .val (.int p4), .val (.long q5), .second, .val (.int kk), .val (.ref b74_y0), .val (.ref b75_y0), .val (.int lf), .val (.int ex), .val (.int ab), .val (.int ba), .val (.int se), .val (.int (0 : Int32)), .unset] [(.int p2), (.ref b74_y0)])) rfl (by rw [hml]; rfl) (argsL := [(.int p2)]) (rest := [(.ref b74_y0)]) (lenOf own_pd248 rfl) rfl (by show 2 * 0 + _ ≤ _; exact Nat.le_of_eq rfl) (hb hby at_170) (fun _ _ => ⟨rfl, e93, (by decide : 2 + 1 ≤ _), (by decide : 22 + 1 ≤ _)⟩)
  dsimp only [Pt.U, Pt.locs, Pt.cells, Pt.slots] at X94 l94 y94 z94 st94 hQ94
  subst l94 y94 z94
  obtain ⟨bx94, rfl, N94q, K94, Eb94⟩ := hQ94
  have N94 := Fr.app N93 N94q
  have O94 := O75.keep K94 all0
  refine Go.st (V' := T94.setTop (mkF m 173 #[.val (.long q0), .second, .val (.long q1), .second, .val (.int p2), .val (.int p3), .val (.int p4), .val (.long q5), .second, .val (.int kk), .val (.ref b74_y0), .val (.ref b75_y0), .val (.int lf), .val (.int ex), .val (.int ab), .val (.int ba), .val (.int se), .val (.int (0 : Int32)), .unset] [(.ref bx94), (.ref b74_y0)])) (fun t k => st94 t k) ?_
  obtain ⟨cq95, kq95, q95a, q95b, q95c⟩ := isOf hZ rfl ((f74_0.keep K75).keep K94)
  obtain ⟨_, _, ⟨T95, L95, k95, n95⟩, -, X95, ⟨Lc95, hQ95, l95, y95, z95⟩, st95⟩ := X94.virtualBack hx (y := (⟨"com/example/numtick/numtick/protocol/Stat", "equals", "(Ljava/lang/Object;)Z"⟩ : MethodName)) (z := (⟨"com/example/numtick/numtick/protocol/Stat", "equals", "(Ljava/lang/Object;)Z"⟩ : MethodName)) hown (mvT hZ (hw _ (List.mem_of_getElem? (i := 37) rfl))) (mvT hZ (hw _ (List.mem_of_getElem? (i := 38) rfl))) (notFace_of_selects (args := #[]) (mvT hZ (hw _ (List.mem_of_getElem? (i := 40) rfl)))) (mvT hZ (hw _ (List.mem_of_getElem? (i := 40) rfl))) (mvT hZ (hw _ (List.mem_of_getElem? (i := 39) rfl))) (by decide) (backOf (W := 0) (rm4o l Z a0 hw [] s_icache cl_icache HW b74_y0 bx94 T94.heap n0 O94 Eb94) hZ (hw _ (List.mem_of_getElem? (i := 41) rfl)) (hw _ (List.mem_of_getElem? (i := 7) rfl)) (by decide) (by decide)) q95a q95c (g := (mkF m 173 #[.val (.long q0), .second, .val (.long q1), .second, .val (.int p2), .val (.int p3), .val (.int p4), .val (.long q5), .second, .val (.int kk), .val (.ref b74_y0), .val (.ref b75_y0), .val (.int lf), .val (.int ex), .val (.int ab), .val (.int ba), .val (.int se), .val (.int (0 : Int32)), .unset] [(.ref bx94), (.ref b74_y0)])) rfl (by rw [hml]; rfl) (Steps.refl _) (argsL := [(.ref bx94)]) (rest := []) (lenOf own_pd247 rfl) rfl (by show 2 * 0 + _ ≤ _; exact Nat.le_of_eq rfl) (hb hby at_173) (fun _ _ => ⟨rfl, rfl, (by decide : 3 + 0 ≤ _), (by decide : 23 + 0 ≤ _)⟩)
  dsimp only [Pt.U, Pt.locs, Pt.cells, Pt.slots] at X95 l95 y95 z95 st95 hQ95
  subst l95 y95 z95
  obtain ⟨rfl, N95q, e95⟩ := hQ95
  have N95 := Fr.app N94 N95q
  refine Go.st (V' := T95.setTop (mkF m 176 #[.val (.long q0), .second, .val (.long q1), .second, .val (.int p2), .val (.int p3), .val (.int p4), .val (.long q5), .second, .val (.int kk), .val (.ref b74_y0), .val (.ref b75_y0), .val (.int lf), .val (.int ex), .val (.int ab), .val (.int ba), .val (.int se), .val (.int (0 : Int32)), .unset] [(.int (0 : Int32))])) (fun t k => st95.trans k) ?_
  refine Go.st (V' := T95.setTop (mkF m 212 #[.val (.long q0), .second, .val (.long q1), .second, .val (.int p2), .val (.int p3), .val (.int p4), .val (.long q5), .second, .val (.int kk), .val (.ref b74_y0), .val (.ref b75_y0), .val (.int lf), .val (.int ex), .val (.int ab), .val (.int ba), .val (.int se), .val (.int (0 : Int32)), .val (.int (0 : Int32))] [(.int (1 : Int32))])) (fun t k => ?_) ?_
  · refine XS.istore X95.here hx rfl (hb hby at_176) rfl (l' := #[.val (.long q0), .second, .val (.long q1), .second, .val (.int p2), .val (.int p3), .val (.int p4), .val (.long q5), .second, .val (.int kk), .val (.ref b74_y0), .val (.ref b75_y0), .val (.int lf), .val (.int ex), .val (.int ab), .val (.int ba), .val (.int se), .val (.int (0 : Int32)), .val (.int (0 : Int32))]) rfl ?_
    show Steps p.tables e below (T95.setTop (mkF m 178 #[.val (.long q0), .second, .val (.long q1), .second, .val (.int p2), .val (.int p3), .val (.int p4), .val (.long q5), .second, .val (.int kk), .val (.ref b74_y0), .val (.ref b75_y0), .val (.int lf), .val (.int ex), .val (.int ab), .val (.int ba), .val (.int se), .val (.int (0 : Int32)), .val (.int (0 : Int32))] [])) _
    refine XS.iload X95.here hx rfl (hb hby at_178) rfl  ?_
    show Steps p.tables e below (T95.setTop (mkF m 180 #[.val (.long q0), .second, .val (.long q1), .second, .val (.int p2), .val (.int p3), .val (.int p4), .val (.long q5), .second, .val (.int kk), .val (.ref b74_y0), .val (.ref b75_y0), .val (.int lf), .val (.int ex), .val (.int ab), .val (.int ba), .val (.int se), .val (.int (0 : Int32)), .val (.int (0 : Int32))] [(.int ab)])) _
    refine XS.iload X95.here hx rfl (hb hby at_180) rfl  ?_
    show Steps p.tables e below (T95.setTop (mkF m 182 #[.val (.long q0), .second, .val (.long q1), .second, .val (.int p2), .val (.int p3), .val (.int p4), .val (.long q5), .second, .val (.int kk), .val (.ref b74_y0), .val (.ref b75_y0), .val (.int lf), .val (.int ex), .val (.int ab), .val (.int ba), .val (.int se), .val (.int (0 : Int32)), .val (.int (0 : Int32))] [(.int ex), (.int ab)])) _
    refine XS.icmpNo X95.here hx rfl (hb hby at_182) rfl (teq (by rw [h_ab, h_ex]; exact own_ab s_icache cl_icache hrg_kk)).2 ?_
    show Steps p.tables e below (T95.setTop (mkF m 185 #[.val (.long q0), .second, .val (.long q1), .second, .val (.int p2), .val (.int p3), .val (.int p4), .val (.long q5), .second, .val (.int kk), .val (.ref b74_y0), .val (.ref b75_y0), .val (.int lf), .val (.int ex), .val (.int ab), .val (.int ba), .val (.int se), .val (.int (0 : Int32)), .val (.int (0 : Int32))] [])) _
    refine XS.iload X95.here hx rfl (hb hby at_185) rfl  ?_
    show Steps p.tables e below (T95.setTop (mkF m 187 #[.val (.long q0), .second, .val (.long q1), .second, .val (.int p2), .val (.int p3), .val (.int p4), .val (.long q5), .second, .val (.int kk), .val (.ref b74_y0), .val (.ref b75_y0), .val (.int lf), .val (.int ex), .val (.int ab), .val (.int ba), .val (.int se), .val (.int (0 : Int32)), .val (.int (0 : Int32))] [(.int ba)])) _
    refine XS.iload X95.here hx rfl (hb hby at_187) rfl  ?_
    show Steps p.tables e below (T95.setTop (mkF m 189 #[.val (.long q0), .second, .val (.long q1), .second, .val (.int p2), .val (.int p3), .val (.int p4), .val (.long q5), .second, .val (.int kk), .val (.ref b74_y0), .val (.ref b75_y0), .val (.int lf), .val (.int ex), .val (.int ab), .val (.int ba), .val (.int se), .val (.int (0 : Int32)), .val (.int (0 : Int32))] [(.int ex), (.int ba)])) _
    refine XS.icmpNo X95.here hx rfl (hb hby at_189) rfl (teq (by rw [h_ba, h_ex]; exact own_ba s_icache cl_icache hrg_kk)).2 ?_
    show Steps p.tables e below (T95.setTop (mkF m 192 #[.val (.long q0), .second, .val (.long q1), .second, .val (.int p2), .val (.int p3), .val (.int p4), .val (.long q5), .second, .val (.int kk), .val (.ref b74_y0), .val (.ref b75_y0), .val (.int lf), .val (.int ex), .val (.int ab), .val (.int ba), .val (.int se), .val (.int (0 : Int32)), .val (.int (0 : Int32))] [])) _
    refine XS.iload X95.here hx rfl (hb hby at_192) rfl  ?_
    show Steps p.tables e below (T95.setTop (mkF m 194 #[.val (.long q0), .second, .val (.long q1), .second, .val (.int p2), .val (.int p3), .val (.int p4), .val (.long q5), .second, .val (.int kk), .val (.ref b74_y0), .val (.ref b75_y0), .val (.int lf), .val (.int ex), .val (.int ab), .val (.int ba), .val (.int se), .val (.int (0 : Int32)), .val (.int (0 : Int32))] [(.int se)])) _
    refine XS.ifNo X95.here hx rfl (hb hby at_194) rfl ((if0 _ _).trans (feq (by rw [h_se]; simp [f4])).1) ?_
    show Steps p.tables e below (T95.setTop (mkF m 197 #[.val (.long q0), .second, .val (.long q1), .second, .val (.int p2), .val (.int p3), .val (.int p4), .val (.long q5), .second, .val (.int kk), .val (.ref b74_y0), .val (.ref b75_y0), .val (.int lf), .val (.int ex), .val (.int ab), .val (.int ba), .val (.int se), .val (.int (0 : Int32)), .val (.int (0 : Int32))] [])) _
    refine XS.iload X95.here hx rfl (hb hby at_197) rfl  ?_
    show Steps p.tables e below (T95.setTop (mkF m 199 #[.val (.long q0), .second, .val (.long q1), .second, .val (.int p2), .val (.int p3), .val (.int p4), .val (.long q5), .second, .val (.int kk), .val (.ref b74_y0), .val (.ref b75_y0), .val (.int lf), .val (.int ex), .val (.int ab), .val (.int ba), .val (.int se), .val (.int (0 : Int32)), .val (.int (0 : Int32))] [(.int (0 : Int32))])) _
    refine XS.ifNo X95.here hx rfl (hb hby at_199) rfl ((if0 _ _).trans (teq (by decide : ((0 : Int32) = (0 : Int32)))).2) ?_
    show Steps p.tables e below (T95.setTop (mkF m 202 #[.val (.long q0), .second, .val (.long q1), .second, .val (.int p2), .val (.int p3), .val (.int p4), .val (.long q5), .second, .val (.int kk), .val (.ref b74_y0), .val (.ref b75_y0), .val (.int lf), .val (.int ex), .val (.int ab), .val (.int ba), .val (.int se), .val (.int (0 : Int32)), .val (.int (0 : Int32))] [])) _
    refine XS.iload X95.here hx rfl (hb hby at_202) rfl  ?_
    show Steps p.tables e below (T95.setTop (mkF m 204 #[.val (.long q0), .second, .val (.long q1), .second, .val (.int p2), .val (.int p3), .val (.int p4), .val (.long q5), .second, .val (.int kk), .val (.ref b74_y0), .val (.ref b75_y0), .val (.int lf), .val (.int ex), .val (.int ab), .val (.int ba), .val (.int se), .val (.int (0 : Int32)), .val (.int (0 : Int32))] [(.int (0 : Int32))])) _
    refine XS.ifNo X95.here hx rfl (hb hby at_204) rfl ((if0 _ _).trans (teq (by decide : ((0 : Int32) = (0 : Int32)))).2) ?_
    show Steps p.tables e below (T95.setTop (mkF m 207 #[.val (.long q0), .second, .val (.long q1), .second, .val (.int p2), .val (.int p3), .val (.int p4), .val (.long q5), .second, .val (.int kk), .val (.ref b74_y0), .val (.ref b75_y0), .val (.int lf), .val (.int ex), .val (.int ab), .val (.int ba), .val (.int se), .val (.int (0 : Int32)), .val (.int (0 : Int32))] [])) _
    refine XS.iconst X95.here hx rfl (hb hby at_207) ?_
    show Steps p.tables e below (T95.setTop (mkF m 208 #[.val (.long q0), .second, .val (.long q1), .second, .val (.int p2), .val (.int p3), .val (.int p4), .val (.long q5), .second, .val (.int kk), .val (.ref b74_y0), .val (.ref b75_y0), .val (.int lf), .val (.int ex), .val (.int ab), .val (.int ba), .val (.int se), .val (.int (0 : Int32)), .val (.int (0 : Int32))] [(.int (1 : Int32))])) _
    refine XS.goto X95.here hx rfl (pc0 := 208) (pc' := 212) rfl (hb hby at_208) (by decide) (by decide) ?_
    show Steps p.tables e below (T95.setTop (mkF m 212 #[.val (.long q0), .second, .val (.long q1), .second, .val (.int p2), .val (.int p3), .val (.int p4), .val (.long q5), .second, .val (.int kk), .val (.ref b74_y0), .val (.ref b75_y0), .val (.int lf), .val (.int ex), .val (.int ab), .val (.int ba), .val (.int se), .val (.int (0 : Int32)), .val (.int (0 : Int32))] [(.int (1 : Int32))])) _
    exact k
  obtain ⟨fs, hr, hrun, hended, hW, hsame⟩ := X95.leave (v := some (.int (1 : Int32))) (fun h => by rw [Bd.returns] at h; cases h)
  refine Go.mk' ⟨_, _, retN X95 hx (t := .boolean) Bd.returns (by simp) (hb hby at_212) hr, hrun, hended, _, _, rfl, ?_, ⟨_, rfl⟩, hW, hsame.mono (by decide) (by decide)⟩
  show Q0 Z q0 q1 p2 p3 p4 q5 h0 n0 _ T95.heap _
  rw [e95]
  exact ⟨rfl, N95⟩
set_option maxRecDepth 65536 in
set_option maxHeartbeats 40000000 in
theorem comes_1 {Post : Tables → Env → Array Value → State → Outcome → State → Prop} (hpost : ∀ tb e args s v u, (limb_1_1.after args s (.returned v) u = true ∧ limb_1_2.after args s (.returned v) u = true ∧ True) → FrameEnd s (.returned v) u (Jvm.fieldLocs frame_1_writes args s ++ Jvm.arrayLocs frame_1_arrays args s ++ Jvm.staticLocs frame_1_statics s) 16 128 → Post tb e args s (.returned v) u) :
    ArmFor flags0 classFile x code maxLocals ret World_1 tables_1 room_1 Calls_1 rest_1 Pre_1 Post := by
  intro l hfl _ _ p e ha hc hk s m args below hf hA hF happ hP
  obtain ⟨hcalls, hrest, hpre⟩ := hP
  obtain ⟨-, -, -, hnamed, -, -, -, hat⟩ := (Spec.applies_iff hf).mp happ
  obtain ⟨hg, hn⟩ := and_e (Cond.before_iff.mp (show (Jvm.Cond.and given_1 narrow_1).before args s = true from hpre))
  obtain ⟨gg0, hg⟩ := and_e hg
  obtain ⟨gg1, hg⟩ := and_e hg
  obtain ⟨gg2, hg⟩ := and_e hg
  obtain ⟨gg3, hg⟩ := and_e hg
  obtain ⟨gg4, hg⟩ := and_e hg
  obtain ⟨gg5, hg⟩ := and_e hg
  have gg6 := hg
  obtain ⟨w0, w1, w2, w3, w4, w5, rfl⟩ : ∃ w0 w1 w2 w3 w4 w5 : Value, args = #[w0, w1, w2, w3, w4, w5] := by
    have hs : args.size = 6 := by simpa [Cond.value, given_1] using gg0
    obtain ⟨L⟩ := args
    match L, hs with
    | [w0, w1, w2, w3, w4, w5], _ => exact ⟨w0, w1, w2, w3, w4, w5, rfl⟩
  have hw := fun d (hd : d ∈ tables_1) => atoms_spec (ws := Jvm.Cond.code x code maxLocals ret :: tables_1) hat d (List.mem_cons_of_mem _ hd)
  have hfit : Fit s := fun {y c} hc i hi => by
    obtain ⟨ha, rfl⟩ := Array.getElem?_eq_some_iff.mp hc
    have q := List.all_eq_true.mp ((Array.all_eq_true_iff_forall_mem.mp hF) _ (Array.getElem_mem ha)) i (List.mem_range.mpr hi)
    simpa [Array.getElem?_eq_getElem hi] using q
  obtain ⟨hsets, hown0⟩ := atoms_of _ (rest_1_c_eq ▸ (show rest_1_c.before _ s = true from hrest))
  obtain ⟨i0, ei0⟩ := isL_v gg1
  obtain rfl : w0 = (.long i0) := Option.some.inj ei0
  obtain ⟨i1, ei1⟩ := isL_v gg2
  obtain rfl : w1 = (.long i1) := Option.some.inj ei1
  obtain ⟨i2, ei2⟩ := is_v gg3
  obtain rfl : w2 = (.int i2) := Option.some.inj ei2
  obtain ⟨i3, ei3⟩ := is_v gg4
  obtain rfl : w3 = (.int i3) := Option.some.inj ei3
  obtain ⟨i4, ei4⟩ := is_v gg5
  obtain rfl : w4 = (.int i4) := Option.some.inj ei4
  obtain ⟨i5, ei5⟩ := isL_v gg6
  obtain rfl : w5 = (.long i5) := Option.some.inj ei5
  have S_ihigh : Sta s s.heap "java/lang/Integer$IntegerCache" "high" "I" (.int (127 : Int32)) := Sta.start (eqv_i (Term.int_eval _) (Cond.before_iff.mp (hsets _ (List.mem_of_getElem? (i := 3) rfl)))) (Or.inl (hsets _ (List.mem_of_getElem? (i := 1) rfl)))
  obtain ⟨s_icache, ev_icache⟩ := arr_v (Cond.before_iff.mp (hsets _ (List.mem_of_getElem? (i := 4) rfl)))
  obtain ⟨cl_icache, A_icache⟩ := Arr.start ev_icache (Cond.before_iff.mp (hsets _ (List.mem_of_getElem? (i := 4) rfl)))
  obtain ⟨sz_icache, ln_icache⟩ := own_len ev_icache A_icache (Cond.before_iff.mp (hsets _ (List.mem_of_getElem? (i := 6) rfl)))
  have B_icache := Bxs.start (val := fun j => .int (j - 128)) (fun _ => ev_icache) A_icache sz_icache ln_icache (by decide) (Cond.before_iff.mp (hsets _ (List.mem_of_getElem? (i := 7) rfl))) (fun X j hj h => own_sub128 hj h)
  have S_icache := Sta.start ev_icache (Or.inr ⟨(hw _ (List.mem_of_getElem? (i := 49) rfl)), (hsets _ (List.mem_of_getElem? (i := 2) rfl))⟩)
  obtain ⟨n, o, h1, h2, h3, _, L, rfl, ⟨rfl, N⟩, hq⟩ := rm0 l s _ hw tables_1 s_icache cl_icache (show W0 s s_icache cl_icache from ⟨S_ihigh, B_icache, S_icache⟩) i0 i1 i2 i3 i4 i5 s.heap s.heap.size (Old.start s) p e ha hc hk s m _ below hf ((Spec.applies_iff_loose hf).mp happ).1 ⟨rfl, State.Warmed39.refl s, rfl⟩ trivial
  refine ⟨n, _, h1, h2, h3, hpost _ _ _ _ _ _ ⟨Cond.after_iff.mpr rfl, Cond.after_iff.mpr (eq_i res_at (Term.int_eval (1)) rfl), trivial⟩ ⟨hq.1, hq.2.1, (hq.2.2.sift fun y hy => Or.inr (N y hy)).mono (by decide) (by decide)⟩⟩
theorem main_1_1 : Claimed_1_1 := comes_1 fun _ _ _ _ _ _ h hF => ⟨h.1, hF⟩
theorem main_1_2 : Claimed_1_2 := comes_1 fun _ _ _ _ _ _ h hF => ⟨h.2.1, hF⟩
end Jvm.Pilot.@@N@@
namespace Jvm.Pilot.@@N@@
open Jvm Jvm.ClassFile Sem Op Lib Jvm.Free Jvm.Stand Jvm.Pilot.@@N@@.Jvm.D
/-! MADE BY PROGRAM (witnessworld.py) out of the Statement's table words and the real class files: 16 classes; the members and pool entries that the words name. The judged class is class 1, her method 2. -/
namespace start1
open Jvm.ClassFile
def u (s : String) : CpInfo := .utf8 (stringToUtf16 s)
/-- a pool by its gaps: so many unusable entries, then the entry; so many at the end -/
def gap : Nat → List CpInfo → List CpInfo
  | 0, r => r
  | n + 1, r => .unusable :: gap n r
def poolList (es : List (Nat × CpInfo)) (last : Nat) : List CpInfo := es.foldr (fun e r => gap e.1 (e.2 :: r)) (gap last [])
def pool (es : List (Nat × CpInfo)) (last : Nat) : Array CpInfo := ⟨poolList es last⟩
def fileOf (pool : Array CpInfo) (this : Nat) (attrs : Array Attribute := #[]) (ms : Array MethodInfo := #[]) (fl : Nat := 33) (sup : Nat := 0) (ifs : Array Nat := #[]) (fds : Array FieldInfo := #[]) : ClassFile where
  minorVersion := 0
  majorVersion := 65
  constantPool := pool
  accessFlags := fl
  thisClass := this
  superClass := sup
  interfaces := ifs
  fields := fds
  methods := ms
  attributes := attrs
def plain (name : String) (sup : Option ClassId) : Class where
  name := name
  kind := .ordinary
  loader := none
  accessFlags := 33
  super := sup
  interfaces := #[]
  cf := none
  fields := #[]
  methods := #[]
  instanceTypes := #[]
  staticTypes := #[]
  resolved := #[]
  callSites := []
  init := .initialized
  statics := none
  mirror := none

def pool0 : Array CpInfo := pool [(5, u "<init>"), (0, u "()V"), (1, .class_ 10), (1, u "java/lang/Object")] 113

def k0c0 : Code := { maxStack := 0, maxLocals := 1, code := object_method_1_code, exceptionTable := #[], attributes := #[] }
def k0m0 : Method := { name := "<init>", desc := "()V", sig := { parameters := [], returnType := none }, accessFlags := 1, code := some k0c0 }
/-- java/lang/Object -/
def k0 : Class := { plain "java/lang/Object" none with
  accessFlags := 33
  interfaces := #[]
  cf := some (fileOf pool0 8 #[] #[{ accessFlags := 1, nameIndex := 5, descriptorIndex := 6, attributes := #[] }] 33 0 #[] #[])
  fields := #[]
  methods := #[k0m0]
  instanceTypes := #[]
  staticTypes := #[]
  resolved := Array.replicate 124 none
  statics := none }

def pool1 : Array CpInfo := pool [(2, .class_ 4), (1, u "java/lang/Object"), (0, u "<init>"), (0, u "()V"), (0, .class_ 8), (0, u "com/example/numtick/numtick/protocol/Stat"), (0, .long 18446744073709551615), (1, .methodref 7 12), (0, .nameAndType 5 13), (0, u "(JJJJIIIJIIJ)V"), (0, .integer 2147483647), (0, .methodref 16 17), (0, .class_ 18), (0, .nameAndType 19 20), (0, u "com/example/numtick/numtick/protocol/StatEqualsPinLaw"), (0, u "make"), (0, u "(JJIIIJ)Lcom/example/numtick/numtick/protocol/Stat;"), (0, .methodref 7 22), (0, .nameAndType 23 24), (0, u "equals"), (0, u "(Ljava/lang/Object;)Z"), (0, .methodref 26 27), (0, .class_ 28), (0, .nameAndType 29 30), (0, u "java/lang/Integer"), (0, u "valueOf"), (0, u "(I)Ljava/lang/Integer;"), (3, u "law"), (0, u "(JJIIIJ)Z")] 2

def k1m0 : Method := { name := "<init>", desc := "()V", sig := { parameters := [], returnType := none }, accessFlags := 1, code := none }
def k1c1 : Code := { maxStack := 21, maxLocals := 10, code := method_2_code, exceptionTable := #[], attributes := #[] }
def k1m1 : Method := { name := "make", desc := "(JJIIIJ)Lcom/example/numtick/numtick/protocol/Stat;", sig := { parameters := [.long, .long, .int, .int, .int, .long], returnType := some (.object "com/example/numtick/numtick/protocol/Stat") }, accessFlags := 10, code := some k1c1 }
def k1c2 : Code := { maxStack := 9, maxLocals := 19, code := code, exceptionTable := #[], attributes := #[] }
def k1m2 : Method := { name := "law", desc := "(JJIIIJ)Z", sig := { parameters := [.long, .long, .int, .int, .int, .long], returnType := some .boolean }, accessFlags := 9, code := some k1c2 }
/-- com/example/numtick/numtick/protocol/StatEqualsPinLaw -/
def k1 : Class := { plain "com/example/numtick/numtick/protocol/StatEqualsPinLaw" (some 0) with
  accessFlags := 49
  interfaces := #[]
  cf := some (fileOf pool1 16 #[] #[{ accessFlags := 1, nameIndex := 5, descriptorIndex := 6, attributes := #[] }, { accessFlags := 10, nameIndex := 19, descriptorIndex := 20, attributes := #[] }, { accessFlags := 9, nameIndex := 34, descriptorIndex := 35, attributes := #[] }] 49 2 #[] #[])
  fields := #[]
  methods := #[k1m0, k1m1, k1m2]
  instanceTypes := #[]
  staticTypes := #[]
  resolved := Array.replicate 38 none
  statics := none }

def pool2 : Array CpInfo := pool [(1, .methodref 2 3), (0, .class_ 4), (0, .nameAndType 5 6), (0, u "java/lang/Object"), (0, u "<init>"), (0, u "()V"), (0, .fieldref 8 9), (0, .class_ 10), (0, .nameAndType 11 12), (0, u "com/example/numtick/numtick/protocol/Stat"), (0, u "czxid"), (0, u "J"), (0, .fieldref 8 14), (0, .nameAndType 15 12), (0, u "mzxid"), (0, .fieldref 8 17), (0, .nameAndType 18 12), (0, u "ctime"), (0, .fieldref 8 20), (0, .nameAndType 21 12), (0, u "mtime"), (0, .fieldref 8 23), (0, .nameAndType 24 25), (0, u "version"), (0, u "I"), (0, .fieldref 8 27), (0, .nameAndType 28 25), (0, u "cversion"), (0, .fieldref 8 30), (0, .nameAndType 31 25), (0, u "aversion"), (0, .fieldref 8 33), (0, .nameAndType 34 12), (0, u "ephemeralOwner"), (0, .fieldref 8 36), (0, .nameAndType 37 25), (0, u "dataLength"), (0, .fieldref 8 39), (0, .nameAndType 40 25), (0, u "numChildren"), (0, .fieldref 8 42), (0, .nameAndType 43 12), (0, u "pzxid"), (12, u "(JJJJIIIJIIJ)V"), (31, u "ANY_VERSION"), (9, u "equals"), (0, u "(Ljava/lang/Object;)Z")] 23

def k2c0 : Code := { maxStack := 3, maxLocals := 18, code := prog_57_method_1_code, exceptionTable := #[], attributes := #[] }
def k2m0 : Method := { name := "<init>", desc := "(JJJJIIIJIIJ)V", sig := { parameters := [.long, .long, .long, .long, .int, .int, .int, .long, .int, .int, .long], returnType := none }, accessFlags := 1, code := some k2c0 }
def k2c1 : Code := { maxStack := 4, maxLocals := 3, code := prog_57_method_14_code, exceptionTable := #[], attributes := #[] }
def k2m1 : Method := { name := "equals", desc := "(Ljava/lang/Object;)Z", sig := { parameters := [(.object "java/lang/Object")], returnType := some .boolean }, accessFlags := 1, code := some k2c1 }
/-- com/example/numtick/numtick/protocol/Stat -/
def k2 : Class := { plain "com/example/numtick/numtick/protocol/Stat" (some 0) with
  accessFlags := 49
  interfaces := #[]
  cf := some (fileOf pool2 8 #[] #[{ accessFlags := 1, nameIndex := 5, descriptorIndex := 56, attributes := #[] }, { accessFlags := 1, nameIndex := 98, descriptorIndex := 99, attributes := #[] }] 49 2 #[] #[{ accessFlags := 25, nameIndex := 88, descriptorIndex := 25, attributes := #[] }, { accessFlags := 18, nameIndex := 11, descriptorIndex := 12, attributes := #[] }, { accessFlags := 18, nameIndex := 15, descriptorIndex := 12, attributes := #[] }, { accessFlags := 18, nameIndex := 18, descriptorIndex := 12, attributes := #[] }, { accessFlags := 18, nameIndex := 21, descriptorIndex := 12, attributes := #[] }, { accessFlags := 18, nameIndex := 24, descriptorIndex := 25, attributes := #[] }, { accessFlags := 18, nameIndex := 28, descriptorIndex := 25, attributes := #[] }, { accessFlags := 18, nameIndex := 31, descriptorIndex := 25, attributes := #[] }, { accessFlags := 18, nameIndex := 34, descriptorIndex := 12, attributes := #[] }, { accessFlags := 18, nameIndex := 37, descriptorIndex := 25, attributes := #[] }, { accessFlags := 18, nameIndex := 40, descriptorIndex := 25, attributes := #[] }, { accessFlags := 18, nameIndex := 43, descriptorIndex := 12, attributes := #[] }])
  fields := #[{ name := "ANY_VERSION", type := .int, accessFlags := 25, slot := 0, constantValue := 0 }, { name := "czxid", type := .long, accessFlags := 18, slot := 0, constantValue := 0 }, { name := "mzxid", type := .long, accessFlags := 18, slot := 1, constantValue := 0 }, { name := "ctime", type := .long, accessFlags := 18, slot := 2, constantValue := 0 }, { name := "mtime", type := .long, accessFlags := 18, slot := 3, constantValue := 0 }, { name := "version", type := .int, accessFlags := 18, slot := 4, constantValue := 0 }, { name := "cversion", type := .int, accessFlags := 18, slot := 5, constantValue := 0 }, { name := "aversion", type := .int, accessFlags := 18, slot := 6, constantValue := 0 }, { name := "ephemeralOwner", type := .long, accessFlags := 18, slot := 7, constantValue := 0 }, { name := "dataLength", type := .int, accessFlags := 18, slot := 8, constantValue := 0 }, { name := "numChildren", type := .int, accessFlags := 18, slot := 9, constantValue := 0 }, { name := "pzxid", type := .long, accessFlags := 18, slot := 10, constantValue := 0 }]
  methods := #[k2m0, k2m1]
  instanceTypes := #[.long, .long, .long, .long, .int, .int, .int, .long, .int, .int, .long]
  staticTypes := #[.int]
  resolved := Array.replicate 123 none
  statics := none }

def pool3 : Array CpInfo := pool [(1, .class_ 2), (0, u "java/io/Serializable"), (0, .class_ 4), (0, u "java/lang/Object")] 2

/-- java/io/Serializable -/
def k3 : Class := { plain "java/io/Serializable" (some 0) with
  accessFlags := 1537
  interfaces := #[]
  cf := some (fileOf pool3 1 #[] #[] 1537 3 #[] #[])
  fields := #[]
  methods := #[]
  instanceTypes := #[]
  staticTypes := #[]
  resolved := Array.replicate 7 none
  statics := none }

def pool4 : Array CpInfo := pool [(1, .methodref 2 3), (0, .class_ 4), (0, .nameAndType 5 6), (0, u "java/lang/Object"), (0, u "<init>"), (0, u "()V"), (1, .class_ 10), (1, u "java/lang/Number"), (2, .class_ 14), (0, u "java/io/Serializable"), (0, u "serialVersionUID"), (0, u "J")] 20

def k4c0 : Code := { maxStack := 1, maxLocals := 1, code := jdk_18_method_1_code, exceptionTable := #[], attributes := #[] }
def k4m0 : Method := { name := "<init>", desc := "()V", sig := { parameters := [], returnType := none }, accessFlags := 1, code := some k4c0 }
/-- java/lang/Number -/
def k4 : Class := { plain "java/lang/Number" (some 0) with
  accessFlags := 1057
  interfaces := #[3]
  cf := some (fileOf pool4 8 #[] #[{ accessFlags := 1, nameIndex := 5, descriptorIndex := 6, attributes := #[] }] 1057 2 #[13] #[{ accessFlags := 26, nameIndex := 15, descriptorIndex := 16, attributes := #[] }])
  fields := #[{ name := "serialVersionUID", type := .long, accessFlags := 26, slot := 0, constantValue := 0 }]
  methods := #[k4m0]
  instanceTypes := #[]
  staticTypes := #[.long]
  resolved := Array.replicate 37 none
  statics := none }

def pool5 : Array CpInfo := pool [(1, .class_ 2), (0, u "java/lang/Comparable"), (0, .class_ 4), (0, u "java/lang/Object")] 7

/-- java/lang/Comparable -/
def k5 : Class := { plain "java/lang/Comparable" (some 0) with
  accessFlags := 1537
  interfaces := #[]
  cf := some (fileOf pool5 1 #[] #[] 1537 3 #[] #[])
  fields := #[]
  methods := #[]
  instanceTypes := #[]
  staticTypes := #[]
  resolved := Array.replicate 12 none
  statics := none }

def pool6 : Array CpInfo := pool [(1, .class_ 2), (0, u "java/lang/constant/Constable"), (0, .class_ 4), (0, u "java/lang/Object")] 6

/-- java/lang/constant/Constable -/
def k6 : Class := { plain "java/lang/constant/Constable" (some 0) with
  accessFlags := 1537
  interfaces := #[]
  cf := some (fileOf pool6 1 #[] #[] 1537 3 #[] #[])
  fields := #[]
  methods := #[]
  instanceTypes := #[]
  staticTypes := #[]
  resolved := Array.replicate 11 none
  statics := none }

def pool7 : Array CpInfo := pool [(1, .class_ 2), (0, u "java/lang/constant/ConstantDesc"), (0, .class_ 4), (0, u "java/lang/Object")] 32

/-- java/lang/constant/ConstantDesc -/
def k7 : Class := { plain "java/lang/constant/ConstantDesc" (some 0) with
  accessFlags := 1537
  interfaces := #[]
  cf := some (fileOf pool7 1 #[] #[] 1537 3 #[] #[])
  fields := #[]
  methods := #[]
  instanceTypes := #[]
  staticTypes := #[]
  resolved := Array.replicate 37 none
  statics := none }

def pool8 : Array CpInfo := pool [(1, .class_ 2), (0, u "java/lang/Integer"), (16, u "digits"), (0, u "[C"), (46, u "<init>"), (17, u "DigitOnes"), (0, u "[B"), (2, u "DigitTens"), (10, .nameAndType 67 101), (0, u "()V"), (85, u "valueOf"), (0, u "(I)Ljava/lang/Integer;"), (0, .class_ 190), (0, u "java/lang/Integer$IntegerCache"), (0, .fieldref 189 192), (0, .nameAndType 193 194), (0, u "high"), (0, u "I"), (0, .fieldref 189 196), (0, .nameAndType 197 198), (0, u "cache"), (0, u "[Ljava/lang/Integer;"), (0, .methodref 1 200), (0, .nameAndType 67 201), (0, u "(I)V"), (0, .methodref 203 100), (0, .class_ 204), (0, u "java/lang/Number"), (0, .fieldref 1 206), (0, .nameAndType 207 194), (0, u "value"), (94, u "TYPE"), (0, u "Ljava/lang/Class;"), (0, .class_ 305), (0, u "java/lang/Comparable"), (0, .class_ 307), (0, u "java/lang/constant/Constable"), (0, .class_ 309), (0, u "java/lang/constant/ConstantDesc"), (0, u "MIN_VALUE"), (1, u "MAX_VALUE"), (3, u "SIZE"), (1, u "BYTES"), (1, u "serialVersionUID"), (0, u "J")] 131

def k8c0 : Code := { maxStack := 3, maxLocals := 1, code := jdk_33_method_22_code, exceptionTable := #[], attributes := #[] }
def k8m0 : Method := { name := "valueOf", desc := "(I)Ljava/lang/Integer;", sig := { parameters := [.int], returnType := some (.object "java/lang/Integer") }, accessFlags := 9, code := some k8c0 }
def k8c1 : Code := { maxStack := 2, maxLocals := 2, code := jdk_33_method_23_code, exceptionTable := #[], attributes := #[] }
def k8m1 : Method := { name := "<init>", desc := "(I)V", sig := { parameters := [.int], returnType := none }, accessFlags := 1, code := some k8c1 }
/-- java/lang/Integer -/
def k8 : Class := { plain "java/lang/Integer" (some 4) with
  accessFlags := 49
  interfaces := #[5, 6, 7]
  cf := some (fileOf pool8 1 #[.nestMembers #[189]] #[{ accessFlags := 9, nameIndex := 187, descriptorIndex := 188, attributes := #[] }, { accessFlags := 1, nameIndex := 67, descriptorIndex := 201, attributes := #[] }] 49 203 #[304, 306, 308] #[{ accessFlags := 25, nameIndex := 310, descriptorIndex := 194, attributes := #[] }, { accessFlags := 25, nameIndex := 312, descriptorIndex := 194, attributes := #[] }, { accessFlags := 25, nameIndex := 302, descriptorIndex := 303, attributes := #[] }, { accessFlags := 24, nameIndex := 19, descriptorIndex := 20, attributes := #[] }, { accessFlags := 24, nameIndex := 89, descriptorIndex := 86, attributes := #[] }, { accessFlags := 24, nameIndex := 85, descriptorIndex := 86, attributes := #[] }, { accessFlags := 18, nameIndex := 207, descriptorIndex := 194, attributes := #[] }, { accessFlags := 25, nameIndex := 316, descriptorIndex := 194, attributes := #[] }, { accessFlags := 25, nameIndex := 318, descriptorIndex := 194, attributes := #[] }, { accessFlags := 26, nameIndex := 320, descriptorIndex := 321, attributes := #[] }])
  fields := #[{ name := "MIN_VALUE", type := .int, accessFlags := 25, slot := 0, constantValue := 0 }, { name := "MAX_VALUE", type := .int, accessFlags := 25, slot := 1, constantValue := 0 }, { name := "TYPE", type := (.object "java/lang/Class"), accessFlags := 25, slot := 2, constantValue := 0 }, { name := "digits", type := (.array .char), accessFlags := 24, slot := 3, constantValue := 0 }, { name := "DigitTens", type := (.array .byte), accessFlags := 24, slot := 4, constantValue := 0 }, { name := "DigitOnes", type := (.array .byte), accessFlags := 24, slot := 5, constantValue := 0 }, { name := "value", type := .int, accessFlags := 18, slot := 0, constantValue := 0 }, { name := "SIZE", type := .int, accessFlags := 25, slot := 6, constantValue := 0 }, { name := "BYTES", type := .int, accessFlags := 25, slot := 7, constantValue := 0 }, { name := "serialVersionUID", type := .long, accessFlags := 26, slot := 8, constantValue := 0 }]
  methods := #[k8m0, k8m1]
  instanceTypes := #[.int]
  staticTypes := #[.int, .int, (.object "java/lang/Class"), (.array .char), (.array .byte), (.array .byte), .int, .int, .long]
  resolved := Array.replicate 453 none
  statics := none }

def pool9 : Array CpInfo := pool [(2, .class_ 4), (1, u "java/lang/Object"), (0, u "<init>"), (0, u "()V"), (0, .class_ 8), (0, u "java/lang/Integer"), (7, .class_ 18), (1, u "java/lang/Integer$IntegerCache"), (0, u "$assertionsDisabled"), (0, u "Z"), (26, u "high"), (0, u "I"), (8, u "archivedCache"), (0, u "[Ljava/lang/Integer;"), (12, u "cache"), (0, u "low")] 27

def k9m0 : Method := { name := "<init>", desc := "()V", sig := { parameters := [], returnType := none }, accessFlags := 2, code := none }
/-- java/lang/Integer$IntegerCache -/
def k9 : Class := { plain "java/lang/Integer$IntegerCache" (some 0) with
  accessFlags := 48
  interfaces := #[]
  cf := some (fileOf pool9 16 #[.nestHost 7] #[{ accessFlags := 2, nameIndex := 5, descriptorIndex := 6, attributes := #[] }] 48 2 #[] #[{ accessFlags := 24, nameIndex := 72, descriptorIndex := 48, attributes := #[] }, { accessFlags := 24, nameIndex := 47, descriptorIndex := 48, attributes := #[] }, { accessFlags := 24, nameIndex := 71, descriptorIndex := 58, attributes := #[] }, { accessFlags := 8, nameIndex := 57, descriptorIndex := 58, attributes := #[] }, { accessFlags := 4120, nameIndex := 19, descriptorIndex := 20, attributes := #[] }])
  fields := #[{ name := "low", type := .int, accessFlags := 24, slot := 0, constantValue := 0 }, { name := "high", type := .int, accessFlags := 24, slot := 1, constantValue := 0 }, { name := "cache", type := (.array (.object "java/lang/Integer")), accessFlags := 24, slot := 2, constantValue := 0 }, { name := "archivedCache", type := (.array (.object "java/lang/Integer")), accessFlags := 8, slot := 3, constantValue := 0 }, { name := "$assertionsDisabled", type := .boolean, accessFlags := 4120, slot := 4, constantValue := 0 }]
  methods := #[k9m0]
  instanceTypes := #[]
  staticTypes := #[.int, .int, (.array (.object "java/lang/Integer")), (.array (.object "java/lang/Integer")), .boolean]
  resolved := Array.replicate 100 none
  statics := some 0 }

def pool10 : Array CpInfo := pool [(1, u "java/lang/Cloneable"), (0, .class_ 1), (0, u "java/lang/Object"), (0, .class_ 3)] 3

/-- java/lang/Cloneable -/
def k10 : Class := { plain "java/lang/Cloneable" (some 0) with
  accessFlags := 1537
  interfaces := #[]
  cf := some (fileOf pool10 2 #[] #[] 1537 4 #[] #[])
  fields := #[]
  methods := #[]
  instanceTypes := #[]
  staticTypes := #[]
  resolved := Array.replicate 8 none
  statics := none }

/-- the primitive byte -/
def k11 : Class := { plain "byte" none with kind := .primitive 'B', accessFlags := 0x411 }
/-- [B -/
def k12 : Class := { plain "[B" (some 0) with kind := .array 11 .byte, interfaces := #[10, 3], accessFlags := 1041 }

/-- the primitive int -/
def k13 : Class := { plain "int" none with kind := .primitive 'I', accessFlags := 0x411 }
/-- [I -/
def k14 : Class := { plain "[I" (some 0) with kind := .array 13 .int, interfaces := #[10, 3], accessFlags := 1041 }

/-- [Ljava/lang/Integer; -/
def k15 : Class := { plain "[Ljava/lang/Integer;" (some 0) with kind := .array 8 (.object "java/lang/Integer"), interfaces := #[10, 3], accessFlags := 1041 }

def heap : Heap := #[{ cls := 9, slots := #[.int 0, .int 127, .ref 1, .null, .int 0], vm := .statics 9 },
  { cls := 15, slots := #[.ref 2, .ref 3, .ref 4, .ref 5, .ref 6, .ref 7, .ref 8, .ref 9, .ref 10, .ref 11, .ref 12, .ref 13, .ref 14, .ref 15, .ref 16, .ref 17, .ref 18, .ref 19, .ref 20, .ref 21, .ref 22, .ref 23, .ref 24, .ref 25, .ref 26, .ref 27, .ref 28, .ref 29, .ref 30, .ref 31, .ref 32, .ref 33, .ref 34, .ref 35, .ref 36, .ref 37, .ref 38, .ref 39, .ref 40, .ref 41, .ref 42, .ref 43, .ref 44, .ref 45, .ref 46, .ref 47, .ref 48, .ref 49, .ref 50, .ref 51, .ref 52, .ref 53, .ref 54, .ref 55, .ref 56, .ref 57, .ref 58, .ref 59, .ref 60, .ref 61, .ref 62, .ref 63, .ref 64, .ref 65, .ref 66, .ref 67, .ref 68, .ref 69, .ref 70, .ref 71, .ref 72, .ref 73, .ref 74, .ref 75, .ref 76, .ref 77, .ref 78, .ref 79, .ref 80, .ref 81, .ref 82, .ref 83, .ref 84, .ref 85, .ref 86, .ref 87, .ref 88, .ref 89, .ref 90, .ref 91, .ref 92, .ref 93, .ref 94, .ref 95, .ref 96, .ref 97, .ref 98, .ref 99, .ref 100, .ref 101, .ref 102, .ref 103, .ref 104, .ref 105, .ref 106, .ref 107, .ref 108, .ref 109, .ref 110, .ref 111, .ref 112, .ref 113, .ref 114, .ref 115, .ref 116, .ref 117, .ref 118, .ref 119, .ref 120, .ref 121, .ref 122, .ref 123, .ref 124, .ref 125, .ref 126, .ref 127, .ref 128, .ref 129, .ref 130, .ref 131, .ref 132, .ref 133, .ref 134, .ref 135, .ref 136, .ref 137, .ref 138, .ref 139, .ref 140, .ref 141, .ref 142, .ref 143, .ref 144, .ref 145, .ref 146, .ref 147, .ref 148, .ref 149, .ref 150, .ref 151, .ref 152, .ref 153, .ref 154, .ref 155, .ref 156, .ref 157, .ref 158, .ref 159, .ref 160, .ref 161, .ref 162, .ref 163, .ref 164, .ref 165, .ref 166, .ref 167, .ref 168, .ref 169, .ref 170, .ref 171, .ref 172, .ref 173, .ref 174, .ref 175, .ref 176, .ref 177, .ref 178, .ref 179, .ref 180, .ref 181, .ref 182, .ref 183, .ref 184, .ref 185, .ref 186, .ref 187, .ref 188, .ref 189, .ref 190, .ref 191, .ref 192, .ref 193, .ref 194, .ref 195, .ref 196, .ref 197, .ref 198, .ref 199, .ref 200, .ref 201, .ref 202, .ref 203, .ref 204, .ref 205, .ref 206, .ref 207, .ref 208, .ref 209, .ref 210, .ref 211, .ref 212, .ref 213, .ref 214, .ref 215, .ref 216, .ref 217, .ref 218, .ref 219, .ref 220, .ref 221, .ref 222, .ref 223, .ref 224, .ref 225, .ref 226, .ref 227, .ref 228, .ref 229, .ref 230, .ref 231, .ref 232, .ref 233, .ref 234, .ref 235, .ref 236, .ref 237, .ref 238, .ref 239, .ref 240, .ref 241, .ref 242, .ref 243, .ref 244, .ref 245, .ref 246, .ref 247, .ref 248, .ref 249, .ref 250, .ref 251, .ref 252, .ref 253, .ref 254, .ref 255, .ref 256, .ref 257], vm := .none },
  { cls := 8, slots := #[.int (-128)], vm := .none },
  { cls := 8, slots := #[.int (-127)], vm := .none },
  { cls := 8, slots := #[.int (-126)], vm := .none },
  { cls := 8, slots := #[.int (-125)], vm := .none },
  { cls := 8, slots := #[.int (-124)], vm := .none },
  { cls := 8, slots := #[.int (-123)], vm := .none },
  { cls := 8, slots := #[.int (-122)], vm := .none },
  { cls := 8, slots := #[.int (-121)], vm := .none },
  { cls := 8, slots := #[.int (-120)], vm := .none },
  { cls := 8, slots := #[.int (-119)], vm := .none },
  { cls := 8, slots := #[.int (-118)], vm := .none },
  { cls := 8, slots := #[.int (-117)], vm := .none },
  { cls := 8, slots := #[.int (-116)], vm := .none },
  { cls := 8, slots := #[.int (-115)], vm := .none },
  { cls := 8, slots := #[.int (-114)], vm := .none },
  { cls := 8, slots := #[.int (-113)], vm := .none },
  { cls := 8, slots := #[.int (-112)], vm := .none },
  { cls := 8, slots := #[.int (-111)], vm := .none },
  { cls := 8, slots := #[.int (-110)], vm := .none },
  { cls := 8, slots := #[.int (-109)], vm := .none },
  { cls := 8, slots := #[.int (-108)], vm := .none },
  { cls := 8, slots := #[.int (-107)], vm := .none },
  { cls := 8, slots := #[.int (-106)], vm := .none },
  { cls := 8, slots := #[.int (-105)], vm := .none },
  { cls := 8, slots := #[.int (-104)], vm := .none },
  { cls := 8, slots := #[.int (-103)], vm := .none },
  { cls := 8, slots := #[.int (-102)], vm := .none },
  { cls := 8, slots := #[.int (-101)], vm := .none },
  { cls := 8, slots := #[.int (-100)], vm := .none },
  { cls := 8, slots := #[.int (-99)], vm := .none },
  { cls := 8, slots := #[.int (-98)], vm := .none },
  { cls := 8, slots := #[.int (-97)], vm := .none },
  { cls := 8, slots := #[.int (-96)], vm := .none },
  { cls := 8, slots := #[.int (-95)], vm := .none },
  { cls := 8, slots := #[.int (-94)], vm := .none },
  { cls := 8, slots := #[.int (-93)], vm := .none },
  { cls := 8, slots := #[.int (-92)], vm := .none },
  { cls := 8, slots := #[.int (-91)], vm := .none },
  { cls := 8, slots := #[.int (-90)], vm := .none },
  { cls := 8, slots := #[.int (-89)], vm := .none },
  { cls := 8, slots := #[.int (-88)], vm := .none },
  { cls := 8, slots := #[.int (-87)], vm := .none },
  { cls := 8, slots := #[.int (-86)], vm := .none },
  { cls := 8, slots := #[.int (-85)], vm := .none },
  { cls := 8, slots := #[.int (-84)], vm := .none },
  { cls := 8, slots := #[.int (-83)], vm := .none },
  { cls := 8, slots := #[.int (-82)], vm := .none },
  { cls := 8, slots := #[.int (-81)], vm := .none },
  { cls := 8, slots := #[.int (-80)], vm := .none },
  { cls := 8, slots := #[.int (-79)], vm := .none },
  { cls := 8, slots := #[.int (-78)], vm := .none },
  { cls := 8, slots := #[.int (-77)], vm := .none },
  { cls := 8, slots := #[.int (-76)], vm := .none },
  { cls := 8, slots := #[.int (-75)], vm := .none },
  { cls := 8, slots := #[.int (-74)], vm := .none },
  { cls := 8, slots := #[.int (-73)], vm := .none },
  { cls := 8, slots := #[.int (-72)], vm := .none },
  { cls := 8, slots := #[.int (-71)], vm := .none },
  { cls := 8, slots := #[.int (-70)], vm := .none },
  { cls := 8, slots := #[.int (-69)], vm := .none },
  { cls := 8, slots := #[.int (-68)], vm := .none },
  { cls := 8, slots := #[.int (-67)], vm := .none },
  { cls := 8, slots := #[.int (-66)], vm := .none },
  { cls := 8, slots := #[.int (-65)], vm := .none },
  { cls := 8, slots := #[.int (-64)], vm := .none },
  { cls := 8, slots := #[.int (-63)], vm := .none },
  { cls := 8, slots := #[.int (-62)], vm := .none },
  { cls := 8, slots := #[.int (-61)], vm := .none },
  { cls := 8, slots := #[.int (-60)], vm := .none },
  { cls := 8, slots := #[.int (-59)], vm := .none },
  { cls := 8, slots := #[.int (-58)], vm := .none },
  { cls := 8, slots := #[.int (-57)], vm := .none },
  { cls := 8, slots := #[.int (-56)], vm := .none },
  { cls := 8, slots := #[.int (-55)], vm := .none },
  { cls := 8, slots := #[.int (-54)], vm := .none },
  { cls := 8, slots := #[.int (-53)], vm := .none },
  { cls := 8, slots := #[.int (-52)], vm := .none },
  { cls := 8, slots := #[.int (-51)], vm := .none },
  { cls := 8, slots := #[.int (-50)], vm := .none },
  { cls := 8, slots := #[.int (-49)], vm := .none },
  { cls := 8, slots := #[.int (-48)], vm := .none },
  { cls := 8, slots := #[.int (-47)], vm := .none },
  { cls := 8, slots := #[.int (-46)], vm := .none },
  { cls := 8, slots := #[.int (-45)], vm := .none },
  { cls := 8, slots := #[.int (-44)], vm := .none },
  { cls := 8, slots := #[.int (-43)], vm := .none },
  { cls := 8, slots := #[.int (-42)], vm := .none },
  { cls := 8, slots := #[.int (-41)], vm := .none },
  { cls := 8, slots := #[.int (-40)], vm := .none },
  { cls := 8, slots := #[.int (-39)], vm := .none },
  { cls := 8, slots := #[.int (-38)], vm := .none },
  { cls := 8, slots := #[.int (-37)], vm := .none },
  { cls := 8, slots := #[.int (-36)], vm := .none },
  { cls := 8, slots := #[.int (-35)], vm := .none },
  { cls := 8, slots := #[.int (-34)], vm := .none },
  { cls := 8, slots := #[.int (-33)], vm := .none },
  { cls := 8, slots := #[.int (-32)], vm := .none },
  { cls := 8, slots := #[.int (-31)], vm := .none },
  { cls := 8, slots := #[.int (-30)], vm := .none },
  { cls := 8, slots := #[.int (-29)], vm := .none },
  { cls := 8, slots := #[.int (-28)], vm := .none },
  { cls := 8, slots := #[.int (-27)], vm := .none },
  { cls := 8, slots := #[.int (-26)], vm := .none },
  { cls := 8, slots := #[.int (-25)], vm := .none },
  { cls := 8, slots := #[.int (-24)], vm := .none },
  { cls := 8, slots := #[.int (-23)], vm := .none },
  { cls := 8, slots := #[.int (-22)], vm := .none },
  { cls := 8, slots := #[.int (-21)], vm := .none },
  { cls := 8, slots := #[.int (-20)], vm := .none },
  { cls := 8, slots := #[.int (-19)], vm := .none },
  { cls := 8, slots := #[.int (-18)], vm := .none },
  { cls := 8, slots := #[.int (-17)], vm := .none },
  { cls := 8, slots := #[.int (-16)], vm := .none },
  { cls := 8, slots := #[.int (-15)], vm := .none },
  { cls := 8, slots := #[.int (-14)], vm := .none },
  { cls := 8, slots := #[.int (-13)], vm := .none },
  { cls := 8, slots := #[.int (-12)], vm := .none },
  { cls := 8, slots := #[.int (-11)], vm := .none },
  { cls := 8, slots := #[.int (-10)], vm := .none },
  { cls := 8, slots := #[.int (-9)], vm := .none },
  { cls := 8, slots := #[.int (-8)], vm := .none },
  { cls := 8, slots := #[.int (-7)], vm := .none },
  { cls := 8, slots := #[.int (-6)], vm := .none },
  { cls := 8, slots := #[.int (-5)], vm := .none },
  { cls := 8, slots := #[.int (-4)], vm := .none },
  { cls := 8, slots := #[.int (-3)], vm := .none },
  { cls := 8, slots := #[.int (-2)], vm := .none },
  { cls := 8, slots := #[.int (-1)], vm := .none },
  { cls := 8, slots := #[.int 0], vm := .none },
  { cls := 8, slots := #[.int 1], vm := .none },
  { cls := 8, slots := #[.int 2], vm := .none },
  { cls := 8, slots := #[.int 3], vm := .none },
  { cls := 8, slots := #[.int 4], vm := .none },
  { cls := 8, slots := #[.int 5], vm := .none },
  { cls := 8, slots := #[.int 6], vm := .none },
  { cls := 8, slots := #[.int 7], vm := .none },
  { cls := 8, slots := #[.int 8], vm := .none },
  { cls := 8, slots := #[.int 9], vm := .none },
  { cls := 8, slots := #[.int 10], vm := .none },
  { cls := 8, slots := #[.int 11], vm := .none },
  { cls := 8, slots := #[.int 12], vm := .none },
  { cls := 8, slots := #[.int 13], vm := .none },
  { cls := 8, slots := #[.int 14], vm := .none },
  { cls := 8, slots := #[.int 15], vm := .none },
  { cls := 8, slots := #[.int 16], vm := .none },
  { cls := 8, slots := #[.int 17], vm := .none },
  { cls := 8, slots := #[.int 18], vm := .none },
  { cls := 8, slots := #[.int 19], vm := .none },
  { cls := 8, slots := #[.int 20], vm := .none },
  { cls := 8, slots := #[.int 21], vm := .none },
  { cls := 8, slots := #[.int 22], vm := .none },
  { cls := 8, slots := #[.int 23], vm := .none },
  { cls := 8, slots := #[.int 24], vm := .none },
  { cls := 8, slots := #[.int 25], vm := .none },
  { cls := 8, slots := #[.int 26], vm := .none },
  { cls := 8, slots := #[.int 27], vm := .none },
  { cls := 8, slots := #[.int 28], vm := .none },
  { cls := 8, slots := #[.int 29], vm := .none },
  { cls := 8, slots := #[.int 30], vm := .none },
  { cls := 8, slots := #[.int 31], vm := .none },
  { cls := 8, slots := #[.int 32], vm := .none },
  { cls := 8, slots := #[.int 33], vm := .none },
  { cls := 8, slots := #[.int 34], vm := .none },
  { cls := 8, slots := #[.int 35], vm := .none },
  { cls := 8, slots := #[.int 36], vm := .none },
  { cls := 8, slots := #[.int 37], vm := .none },
  { cls := 8, slots := #[.int 38], vm := .none },
  { cls := 8, slots := #[.int 39], vm := .none },
  { cls := 8, slots := #[.int 40], vm := .none },
  { cls := 8, slots := #[.int 41], vm := .none },
  { cls := 8, slots := #[.int 42], vm := .none },
  { cls := 8, slots := #[.int 43], vm := .none },
  { cls := 8, slots := #[.int 44], vm := .none },
  { cls := 8, slots := #[.int 45], vm := .none },
  { cls := 8, slots := #[.int 46], vm := .none },
  { cls := 8, slots := #[.int 47], vm := .none },
  { cls := 8, slots := #[.int 48], vm := .none },
  { cls := 8, slots := #[.int 49], vm := .none },
  { cls := 8, slots := #[.int 50], vm := .none },
  { cls := 8, slots := #[.int 51], vm := .none },
  { cls := 8, slots := #[.int 52], vm := .none },
  { cls := 8, slots := #[.int 53], vm := .none },
  { cls := 8, slots := #[.int 54], vm := .none },
  { cls := 8, slots := #[.int 55], vm := .none },
  { cls := 8, slots := #[.int 56], vm := .none },
  { cls := 8, slots := #[.int 57], vm := .none },
  { cls := 8, slots := #[.int 58], vm := .none },
  { cls := 8, slots := #[.int 59], vm := .none },
  { cls := 8, slots := #[.int 60], vm := .none },
  { cls := 8, slots := #[.int 61], vm := .none },
  { cls := 8, slots := #[.int 62], vm := .none },
  { cls := 8, slots := #[.int 63], vm := .none },
  { cls := 8, slots := #[.int 64], vm := .none },
  { cls := 8, slots := #[.int 65], vm := .none },
  { cls := 8, slots := #[.int 66], vm := .none },
  { cls := 8, slots := #[.int 67], vm := .none },
  { cls := 8, slots := #[.int 68], vm := .none },
  { cls := 8, slots := #[.int 69], vm := .none },
  { cls := 8, slots := #[.int 70], vm := .none },
  { cls := 8, slots := #[.int 71], vm := .none },
  { cls := 8, slots := #[.int 72], vm := .none },
  { cls := 8, slots := #[.int 73], vm := .none },
  { cls := 8, slots := #[.int 74], vm := .none },
  { cls := 8, slots := #[.int 75], vm := .none },
  { cls := 8, slots := #[.int 76], vm := .none },
  { cls := 8, slots := #[.int 77], vm := .none },
  { cls := 8, slots := #[.int 78], vm := .none },
  { cls := 8, slots := #[.int 79], vm := .none },
  { cls := 8, slots := #[.int 80], vm := .none },
  { cls := 8, slots := #[.int 81], vm := .none },
  { cls := 8, slots := #[.int 82], vm := .none },
  { cls := 8, slots := #[.int 83], vm := .none },
  { cls := 8, slots := #[.int 84], vm := .none },
  { cls := 8, slots := #[.int 85], vm := .none },
  { cls := 8, slots := #[.int 86], vm := .none },
  { cls := 8, slots := #[.int 87], vm := .none },
  { cls := 8, slots := #[.int 88], vm := .none },
  { cls := 8, slots := #[.int 89], vm := .none },
  { cls := 8, slots := #[.int 90], vm := .none },
  { cls := 8, slots := #[.int 91], vm := .none },
  { cls := 8, slots := #[.int 92], vm := .none },
  { cls := 8, slots := #[.int 93], vm := .none },
  { cls := 8, slots := #[.int 94], vm := .none },
  { cls := 8, slots := #[.int 95], vm := .none },
  { cls := 8, slots := #[.int 96], vm := .none },
  { cls := 8, slots := #[.int 97], vm := .none },
  { cls := 8, slots := #[.int 98], vm := .none },
  { cls := 8, slots := #[.int 99], vm := .none },
  { cls := 8, slots := #[.int 100], vm := .none },
  { cls := 8, slots := #[.int 101], vm := .none },
  { cls := 8, slots := #[.int 102], vm := .none },
  { cls := 8, slots := #[.int 103], vm := .none },
  { cls := 8, slots := #[.int 104], vm := .none },
  { cls := 8, slots := #[.int 105], vm := .none },
  { cls := 8, slots := #[.int 106], vm := .none },
  { cls := 8, slots := #[.int 107], vm := .none },
  { cls := 8, slots := #[.int 108], vm := .none },
  { cls := 8, slots := #[.int 109], vm := .none },
  { cls := 8, slots := #[.int 110], vm := .none },
  { cls := 8, slots := #[.int 111], vm := .none },
  { cls := 8, slots := #[.int 112], vm := .none },
  { cls := 8, slots := #[.int 113], vm := .none },
  { cls := 8, slots := #[.int 114], vm := .none },
  { cls := 8, slots := #[.int 115], vm := .none },
  { cls := 8, slots := #[.int 116], vm := .none },
  { cls := 8, slots := #[.int 117], vm := .none },
  { cls := 8, slots := #[.int 118], vm := .none },
  { cls := 8, slots := #[.int 119], vm := .none },
  { cls := 8, slots := #[.int 120], vm := .none },
  { cls := 8, slots := #[.int 121], vm := .none },
  { cls := 8, slots := #[.int 122], vm := .none },
  { cls := 8, slots := #[.int 123], vm := .none },
  { cls := 8, slots := #[.int 124], vm := .none },
  { cls := 8, slots := #[.int 125], vm := .none },
  { cls := 8, slots := #[.int 126], vm := .none },
  { cls := 8, slots := #[.int 127], vm := .none }]
def classes : Array Class := #[k0, k1, k2, k3, k4, k5, k6, k7, k8, k9, k10, k11, k12, k13, k14, k15]
def interned : List (Array UInt16 × Addr) := []
def slotsUsed : Nat := 517
def theMethod : MethodId := ⟨1, 2⟩
def args0 : Array Value := #[.long 5, .long 7, .int 3, .int 4, .int 8, .long 9]
def aboutOver (below : List Frame) : State where
  vm := { classes := classes, interned := interned.toArray }
  heap := heap
  slotsUsed := slotsUsed
  threads := #[{ frames := .invoking theMethod args0 :: below }]
def below0 : List Frame := [.native { method := ⟨0, 0⟩, args := #[] }]
def about1 : State := aboutOver below0
def p0 : Program := .bare "" "" ""
def e0 : Env := launch0.env 0 0 0
theorem w_frames : about1.frames = Frame.invoking theMethod args0 :: below0 := rfl
set_option maxRecDepth 65536 in
theorem w_args : argsFit about1.vm theMethod args0 = true := by decide +kernel
set_option maxRecDepth 65536 in
theorem w_heap : heapFits about1 = true := by decide +kernel
set_option maxRecDepth 65536 in
theorem w_runnable : about1.curStatus? = some .runnable := by decide +kernel
set_option maxRecDepth 65536 in
theorem w_alone : about1.alone = true := by decide +kernel
set_option maxRecDepth 65536 in
theorem w_named : about1.methodNamed? x = some theMethod := by decide +kernel
set_option maxRecDepth 65536 in
theorem w_hears : about1.hears theMethod below0 = true := by decide +kernel
set_option maxRecDepth 65536 in
theorem w_ripe : about1.ripe theMethod args0 below0 = true := by decide +kernel
theorem w_running : about1.status = .running := rfl
set_option maxRecDepth 65536 in
theorem w_room : about1.hasRoom e0.platform room_1 = true :=
  launch0.hasRoom_least _ room_1 (by decide +kernel) (by decide +kernel) (by decide +kernel) (by decide +kernel) (by decide +kernel) (by decide +kernel)
theorem allAtoms_all (ts : List Jvm.Cond) (a : Array Jvm.Value) (st : Jvm.State) : (allAtoms ts).before a st = ts.all (fun c => c.before a st) := by
  induction ts with
  | nil => rfl
  | cons c t ih =>
    show (Jvm.Cond.and c (allAtoms t)).before a st = _
    rw [Jvm.Cond.before_and, ih, List.all_cons]
def words1 : List Jvm.Cond := Jvm.Cond.code x code maxLocals ret :: tables_1
/-- a 'code' word, met by the world's own term for the bytes: nothing is compared byte by byte -/
theorem code_word {y : MethodName} {bytes : ByteArray} {mx : Nat} {rt : Option FieldType} {a : Array Value} {s : State} {m : MethodId} {meth : Method} {c : Code} (h1 : s.methodNamed? y = some m) (h2 : s.vm.method? m = some meth) (h3 : meth.code = some c) (h4 : c.code = bytes)
    (h5 : (c.maxLocals == mx && c.exceptionTable.isEmpty && decide (c.maxStack ≤ mostOperands) && decide (meth.sig.returnType = rt) && !meth.locks && decide (parseMethodDescriptor y.desc = some meth.sig)) = true) : (Jvm.Cond.code y bytes mx rt).before a s = true := by
  simp only [Bool.and_eq_true, beq_iff_eq, Bool.not_eq_true', decide_eq_true_eq] at h5
  obtain ⟨⟨⟨⟨⟨g1, g2⟩, g3⟩, g4⟩, g5⟩, g6⟩ := h5
  simp [Cond.before, Cond.holds, Cond.value, h1, h2, h3, h4, g1, g2, g3, g4, g5, g6]
def isCode : Jvm.Cond → Bool
  | .code _ _ _ _ => true
  | _ => false
theorem all_split {L : List Jvm.Cond} {P : Jvm.Cond → Bool} (h1 : L.all (fun c => isCode c || P c) = true) (h2 : ∀ c ∈ L.filter isCode, P c = true) : L.all P = true := by
  refine List.all_eq_true.mpr fun c hc => ?_
  have h := List.all_eq_true.mp h1 c hc
  rcases Bool.eq_false_or_eq_true (isCode c) with hi | hi
  · exact h2 c (List.mem_filter.mpr ⟨hc, hi⟩)
  · simpa [hi] using h
set_option maxRecDepth 65536 in
theorem w_c0 : (Jvm.Cond.code x code maxLocals ret).before args0 about1 = true := code_word (m := ⟨1, 2⟩) (meth := k1m2) (c := k1c2) (by decide +kernel) rfl rfl rfl (by decide +kernel)
set_option maxRecDepth 65536 in
theorem w_c1 : (Jvm.Cond.code ({ cls := "com/example/numtick/numtick/protocol/StatEqualsPinLaw", name := "make", desc := "(JJIIIJ)Lcom/example/numtick/numtick/protocol/Stat;" } : Jvm.MethodName) method_2_code (10 : Nat) (Option.some (Jvm.ClassFile.FieldType.object "com/example/numtick/numtick/protocol/Stat"))).before args0 about1 = true := code_word (m := ⟨1, 1⟩) (meth := k1m1) (c := k1c1) (by decide +kernel) rfl rfl rfl (by decide +kernel)
set_option maxRecDepth 65536 in
theorem w_c2 : (Jvm.Cond.code ({ cls := "com/example/numtick/numtick/protocol/Stat", name := "<init>", desc := "(JJJJIIIJIIJ)V" } : Jvm.MethodName) prog_57_method_1_code (18 : Nat) (Option.none : Option Jvm.ClassFile.FieldType)).before args0 about1 = true := code_word (m := ⟨2, 0⟩) (meth := k2m0) (c := k2c0) (by decide +kernel) rfl rfl rfl (by decide +kernel)
set_option maxRecDepth 65536 in
theorem w_c3 : (Jvm.Cond.code ({ cls := "java/lang/Object", name := "<init>", desc := "()V" } : Jvm.MethodName) object_method_1_code (1 : Nat) (Option.none : Option Jvm.ClassFile.FieldType)).before args0 about1 = true := code_word (m := ⟨0, 0⟩) (meth := k0m0) (c := k0c0) (by decide +kernel) rfl rfl rfl (by decide +kernel)
set_option maxRecDepth 65536 in
theorem w_c4 : (Jvm.Cond.code ({ cls := "com/example/numtick/numtick/protocol/Stat", name := "equals", desc := "(Ljava/lang/Object;)Z" } : Jvm.MethodName) prog_57_method_14_code (3 : Nat) (Option.some Jvm.ClassFile.FieldType.boolean)).before args0 about1 = true := code_word (m := ⟨2, 1⟩) (meth := k2m1) (c := k2c1) (by decide +kernel) rfl rfl rfl (by decide +kernel)
set_option maxRecDepth 65536 in
theorem w_c5 : (Jvm.Cond.code ({ cls := "java/lang/Integer", name := "valueOf", desc := "(I)Ljava/lang/Integer;" } : Jvm.MethodName) jdk_33_method_22_code (1 : Nat) (Option.some (Jvm.ClassFile.FieldType.object "java/lang/Integer"))).before args0 about1 = true := code_word (m := ⟨8, 0⟩) (meth := k8m0) (c := k8c0) (by decide +kernel) rfl rfl rfl (by decide +kernel)
set_option maxRecDepth 65536 in
theorem w_c6 : (Jvm.Cond.code ({ cls := "java/lang/Integer", name := "<init>", desc := "(I)V" } : Jvm.MethodName) jdk_33_method_23_code (2 : Nat) (Option.none : Option Jvm.ClassFile.FieldType)).before args0 about1 = true := code_word (m := ⟨8, 1⟩) (meth := k8m1) (c := k8c1) (by decide +kernel) rfl rfl rfl (by decide +kernel)
set_option maxRecDepth 65536 in
theorem w_c7 : (Jvm.Cond.code ({ cls := "java/lang/Number", name := "<init>", desc := "()V" } : Jvm.MethodName) jdk_18_method_1_code (1 : Nat) (Option.none : Option Jvm.ClassFile.FieldType)).before args0 about1 = true := code_word (m := ⟨4, 0⟩) (meth := k4m0) (c := k4c0) (by decide +kernel) rfl rfl rfl (by decide +kernel)
def codes1 : List Jvm.Cond := [Jvm.Cond.code x code maxLocals ret, Jvm.Cond.code ({ cls := "com/example/numtick/numtick/protocol/StatEqualsPinLaw", name := "make", desc := "(JJIIIJ)Lcom/example/numtick/numtick/protocol/Stat;" } : Jvm.MethodName) method_2_code (10 : Nat) (Option.some (Jvm.ClassFile.FieldType.object "com/example/numtick/numtick/protocol/Stat")), Jvm.Cond.code ({ cls := "com/example/numtick/numtick/protocol/Stat", name := "<init>", desc := "(JJJJIIIJIIJ)V" } : Jvm.MethodName) prog_57_method_1_code (18 : Nat) (Option.none : Option Jvm.ClassFile.FieldType), Jvm.Cond.code ({ cls := "java/lang/Object", name := "<init>", desc := "()V" } : Jvm.MethodName) object_method_1_code (1 : Nat) (Option.none : Option Jvm.ClassFile.FieldType), Jvm.Cond.code ({ cls := "com/example/numtick/numtick/protocol/Stat", name := "equals", desc := "(Ljava/lang/Object;)Z" } : Jvm.MethodName) prog_57_method_14_code (3 : Nat) (Option.some Jvm.ClassFile.FieldType.boolean), Jvm.Cond.code ({ cls := "java/lang/Integer", name := "valueOf", desc := "(I)Ljava/lang/Integer;" } : Jvm.MethodName) jdk_33_method_22_code (1 : Nat) (Option.some (Jvm.ClassFile.FieldType.object "java/lang/Integer")), Jvm.Cond.code ({ cls := "java/lang/Integer", name := "<init>", desc := "(I)V" } : Jvm.MethodName) jdk_33_method_23_code (2 : Nat) (Option.none : Option Jvm.ClassFile.FieldType), Jvm.Cond.code ({ cls := "java/lang/Number", name := "<init>", desc := "()V" } : Jvm.MethodName) jdk_18_method_1_code (1 : Nat) (Option.none : Option Jvm.ClassFile.FieldType)]
set_option maxRecDepth 65536 in
theorem codes_eq : words1.filter isCode = codes1 := rfl
theorem w_codes : ∀ c ∈ words1.filter isCode, c.before args0 about1 = true := by
  rw [codes_eq]
  intro c hc
  simp only [codes1, List.mem_cons, List.not_mem_nil, or_false] at hc
  rcases hc with rfl | rfl | rfl | rfl | rfl | rfl | rfl | rfl
  · exact w_c0
  · exact w_c1
  · exact w_c2
  · exact w_c3
  · exact w_c4
  · exact w_c5
  · exact w_c6
  · exact w_c7
set_option maxRecDepth 65536 in
theorem w_t1 : (words1.take 24).all (fun c => isCode c || c.before args0 about1) = true := by decide +kernel
set_option maxRecDepth 65536 in
theorem w_t2 : ((words1.drop 24).take 24).all (fun c => isCode c || c.before args0 about1) = true := by decide +kernel
set_option maxRecDepth 65536 in
theorem w_t3 : ((words1.drop 24).drop 24).all (fun c => isCode c || c.before args0 about1) = true := by decide +kernel
theorem w_tables : (allAtoms (Jvm.Cond.code x code maxLocals ret :: tables_1)).before args0 about1 = true := by
  rw [allAtoms_all]
  show words1.all (fun c => c.before args0 about1) = true
  refine all_split ?_ w_codes
  rw [← List.take_append_drop 24 words1, List.all_append, w_t1, ← List.take_append_drop 24 (words1.drop 24), List.all_append, w_t2, w_t3]
  rfl
set_option maxRecDepth 65536 in
theorem w_rest : rest_1_c.before args0 about1 = true := by decide +kernel
set_option maxRecDepth 65536 in
theorem w_case : (Jvm.Cond.and given_1 narrow_1).before args0 about1 = true := by decide +kernel
theorem w_applies : (headSpec (Jvm.Cond.code x code maxLocals ret :: tables_1) room_1).applies x e0.platform about1 = true :=
  (Spec.applies_iff w_frames).mpr ⟨w_running, w_runnable, w_alone, w_named, w_hears, w_ripe, w_room, w_tables⟩
theorem atStart : AtStart classFile x code maxLocals ret World_1 tables_1 room_1 Calls_1 rest_1 Pre_1 launch0 p0 e0 about1 theMethod args0 below0 :=
  ⟨lists_1, trivial, launch0.admits_env _ _ _, launch0.least_env, fairChoices_fair.cas, fairChoices_fair.clock, w_frames, w_args, w_heap, w_applies, trivial, w_rest, w_case⟩
end start1
theorem witness_1 : WitnessClaimed_1 := ⟨start1.p0, start1.e0, start1.about1, start1.theMethod, start1.args0, start1.below0, start1.atStart⟩
end Jvm.Pilot.@@N@@
