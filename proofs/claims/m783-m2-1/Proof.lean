import JvmDerived
import JvmDerived.Pilot.@@N@@Statement
import JvmDerived.Pilot.@@N@@Code
set_option linter.unusedVariables false
set_option linter.unusedSimpArgs false
namespace Jvm.RoadKit
open Sem ClassFile Op Lib Jvm.Stand Jvm.Free Jvm.LawKit
section New
variable {p : Program} {l : Launch} {e : Env} {R : Room} {s : State} {m : MethodId} {args : Array Value} {below : List Frame} {meth : Method} {c : Code} {T : State} {locs : List Loc} {cells slots : Nat}
theorem retI (X : Stand p l e R s m args below meth c T locs cells slots) (hx : p.tables.exec = Jvm.exec) {pc : Nat} {Ls : Array Slot} {z : Int32} {rest : List Value} (hret : meth.sig.returnType = some .int) (hd : decode c.code pc = .ok (.ireturn, 1)) {fs : List Frame}
    (hl : ∀ (f : JFrame) (acts : List Action), f.method = m → f.locked = none → f.entered = [] → (doReturn e (T.setTop f) acts (some (.int z))).1 = T.setFrames fs) : Steps p.tables e below (T.setTop (mkF m pc Ls (.int z :: rest))) (T.setFrames fs) := by
  have hm' : T.vm.method? m = some meth := X.method'
  have hn : narrow .int (.int z) = .int z := rfl
  show Steps p.tables e below (T.setTop { method := m, pc := pc, locals := Ls, stack := _ :: rest, locked := none }) _
  jvm_step X.here [X.here.top, hx, hd, hm', hret, hn]
  first | (intro acts; rw [hl _ acts rfl rfl rfl]) | rw [hl _ _ rfl rfl rfl]
  exact Steps.refl _
theorem eqv_r {Z : State} {args : Array Value} {X F : Term} {idx : List Nat} {y : Addr} (hF : F.eval args Z none idx Z = some (.ref y)) (h : (Cond.eq X F).value args Z none Z idx = some true) : X.eval args Z none idx Z = some (.ref y) := by
  obtain ⟨x, y', e1, e2, k1, k2⟩ := cmp_v (Or.inl h)
  cases hF.symm.trans e2
  have hx : x.isRef = true := k2.2
  have q : x = .ref y := gotT (eq_R e1 hF hx rfl) h
  rw [e1, q]
end New
end Jvm.RoadKit
namespace Jvm.Pilot.@@N@@
open Jvm Jvm.ClassFile Sem Op Lib Jvm.Free Jvm.Stand Jvm.LawKit Jvm.RoadKit Bundle Jvm.Pilot.@@N@@.Jvm.D
theorem own_eT {Z T : State} {h : Heap} {a : Addr} {c : Cell} {ty : FieldType} (e : T.heap = h) (A : Arr Z h a c ty) : T.heap[a]? = some c := by rw [e]; exact A.1
def Go (p : Program) (e : Env) (below : List Frame) (Qf : Outcome → State → Prop) (W : State) : Prop := ∃ s₂ o, Steps p.tables e below W s₂ ∧ s₂.status = .running ∧ Ended s₂ below o ∧ Qf o s₂
theorem Go.st {p : Program} {e : Env} {below : List Frame} {Qf : Outcome → State → Prop} {W V' : State} (h : ∀ t, Steps p.tables e below V' t → Steps p.tables e below W t) (g : Go p e below Qf V') : Go p e below Qf W := by
  obtain ⟨s₂, o, g1, g2⟩ := g
  exact ⟨s₂, o, h _ g1, g2⟩
theorem Go.out {p : Program} {e : Env} {below : List Frame} {Qf : Outcome → State → Prop} {W : State} (g : Go p e below Qf W) : ∃ s₂ o, Steps p.tables e below W s₂ ∧ s₂.status = .running ∧ Ended s₂ below o ∧ Qf o s₂ := g
theorem Go.mk' {p : Program} {e : Env} {below : List Frame} {Qf : Outcome → State → Prop} {W : State} (g : ∃ s₂ o, Steps p.tables e below W s₂ ∧ s₂.status = .running ∧ Ended s₂ below o ∧ Qf o s₂) : Go p e below Qf W := g
theorem own_rng (x d : Int32) (D : Int) (hd : d.toInt = D) (h0 : 0 < D) : 0 ≤ ((x &&& (2147483647 : Int32)) % d).toInt ∧ ((x &&& (2147483647 : Int32)) % d).toInt < D := by
  have a := c_and x 2147483647 (by decide)
  have b := (c_irem (x &&& 2147483647) d D hd).1 a.1
  rw [b]
  exact ⟨Int.emod_nonneg _ (by omega), Int.emod_lt_of_pos _ h0⟩
theorem own_cases22 {k : Int32} (h : 0 ≤ k.toInt ∧ k.toInt < 22) : k = (0 : Int32) ∨ k = (1 : Int32) ∨ k = (2 : Int32) ∨ k = (3 : Int32) ∨ k = (4 : Int32) ∨ k = (5 : Int32) ∨ k = (6 : Int32) ∨ k = (7 : Int32) ∨ k = (8 : Int32) ∨ k = (9 : Int32) ∨ k = (10 : Int32) ∨ k = (11 : Int32) ∨ k = (12 : Int32) ∨ k = (13 : Int32) ∨ k = (14 : Int32) ∨ k = (15 : Int32) ∨ k = (16 : Int32) ∨ k = (17 : Int32) ∨ k = (18 : Int32) ∨ k = (19 : Int32) ∨ k = (20 : Int32) ∨ k = (21 : Int32) := by
  have e : ∀ n : Int32, k.toInt = n.toInt → k = n := fun n h => Int32.toInt_inj.mp h
  have q : k.toInt = 0 ∨ k.toInt = 1 ∨ k.toInt = 2 ∨ k.toInt = 3 ∨ k.toInt = 4 ∨ k.toInt = 5 ∨ k.toInt = 6 ∨ k.toInt = 7 ∨ k.toInt = 8 ∨ k.toInt = 9 ∨ k.toInt = 10 ∨ k.toInt = 11 ∨ k.toInt = 12 ∨ k.toInt = 13 ∨ k.toInt = 14 ∨ k.toInt = 15 ∨ k.toInt = 16 ∨ k.toInt = 17 ∨ k.toInt = 18 ∨ k.toInt = 19 ∨ k.toInt = 20 ∨ k.toInt = 21 := by omega
  rcases q with q | q | q | q | q | q | q | q | q | q | q | q | q | q | q | q | q | q | q | q | q | q
  · exact Or.inl (e 0 (q.trans (by decide)))
  · exact Or.inr (Or.inl (e 1 (q.trans (by decide))))
  · exact Or.inr (Or.inr (Or.inl (e 2 (q.trans (by decide)))))
  · exact Or.inr (Or.inr (Or.inr (Or.inl (e 3 (q.trans (by decide))))))
  · exact Or.inr (Or.inr (Or.inr (Or.inr (Or.inl (e 4 (q.trans (by decide)))))))
  · exact Or.inr (Or.inr (Or.inr (Or.inr (Or.inr (Or.inl (e 5 (q.trans (by decide))))))))
  · exact Or.inr (Or.inr (Or.inr (Or.inr (Or.inr (Or.inr (Or.inl (e 6 (q.trans (by decide)))))))))
  · exact Or.inr (Or.inr (Or.inr (Or.inr (Or.inr (Or.inr (Or.inr (Or.inl (e 7 (q.trans (by decide))))))))))
  · exact Or.inr (Or.inr (Or.inr (Or.inr (Or.inr (Or.inr (Or.inr (Or.inr (Or.inl (e 8 (q.trans (by decide)))))))))))
  · exact Or.inr (Or.inr (Or.inr (Or.inr (Or.inr (Or.inr (Or.inr (Or.inr (Or.inr (Or.inl (e 9 (q.trans (by decide))))))))))))
  · exact Or.inr (Or.inr (Or.inr (Or.inr (Or.inr (Or.inr (Or.inr (Or.inr (Or.inr (Or.inr (Or.inl (e 10 (q.trans (by decide)))))))))))))
  · exact Or.inr (Or.inr (Or.inr (Or.inr (Or.inr (Or.inr (Or.inr (Or.inr (Or.inr (Or.inr (Or.inr (Or.inl (e 11 (q.trans (by decide))))))))))))))
  · exact Or.inr (Or.inr (Or.inr (Or.inr (Or.inr (Or.inr (Or.inr (Or.inr (Or.inr (Or.inr (Or.inr (Or.inr (Or.inl (e 12 (q.trans (by decide)))))))))))))))
  · exact Or.inr (Or.inr (Or.inr (Or.inr (Or.inr (Or.inr (Or.inr (Or.inr (Or.inr (Or.inr (Or.inr (Or.inr (Or.inr (Or.inl (e 13 (q.trans (by decide))))))))))))))))
  · exact Or.inr (Or.inr (Or.inr (Or.inr (Or.inr (Or.inr (Or.inr (Or.inr (Or.inr (Or.inr (Or.inr (Or.inr (Or.inr (Or.inr (Or.inl (e 14 (q.trans (by decide)))))))))))))))))
  · exact Or.inr (Or.inr (Or.inr (Or.inr (Or.inr (Or.inr (Or.inr (Or.inr (Or.inr (Or.inr (Or.inr (Or.inr (Or.inr (Or.inr (Or.inr (Or.inl (e 15 (q.trans (by decide))))))))))))))))))
  · exact Or.inr (Or.inr (Or.inr (Or.inr (Or.inr (Or.inr (Or.inr (Or.inr (Or.inr (Or.inr (Or.inr (Or.inr (Or.inr (Or.inr (Or.inr (Or.inr (Or.inl (e 16 (q.trans (by decide)))))))))))))))))))
  · exact Or.inr (Or.inr (Or.inr (Or.inr (Or.inr (Or.inr (Or.inr (Or.inr (Or.inr (Or.inr (Or.inr (Or.inr (Or.inr (Or.inr (Or.inr (Or.inr (Or.inr (Or.inl (e 17 (q.trans (by decide))))))))))))))))))))
  · exact Or.inr (Or.inr (Or.inr (Or.inr (Or.inr (Or.inr (Or.inr (Or.inr (Or.inr (Or.inr (Or.inr (Or.inr (Or.inr (Or.inr (Or.inr (Or.inr (Or.inr (Or.inr (Or.inl (e 18 (q.trans (by decide)))))))))))))))))))))
  · exact Or.inr (Or.inr (Or.inr (Or.inr (Or.inr (Or.inr (Or.inr (Or.inr (Or.inr (Or.inr (Or.inr (Or.inr (Or.inr (Or.inr (Or.inr (Or.inr (Or.inr (Or.inr (Or.inr (Or.inl (e 19 (q.trans (by decide))))))))))))))))))))))
  · exact Or.inr (Or.inr (Or.inr (Or.inr (Or.inr (Or.inr (Or.inr (Or.inr (Or.inr (Or.inr (Or.inr (Or.inr (Or.inr (Or.inr (Or.inr (Or.inr (Or.inr (Or.inr (Or.inr (Or.inr (Or.inl (e 20 (q.trans (by decide)))))))))))))))))))))))
  · exact Or.inr (Or.inr (Or.inr (Or.inr (Or.inr (Or.inr (Or.inr (Or.inr (Or.inr (Or.inr (Or.inr (Or.inr (Or.inr (Or.inr (Or.inr (Or.inr (Or.inr (Or.inr (Or.inr (Or.inr (Or.inr (e 21 (q.trans (by decide)))))))))))))))))))))))
def W0 (Z : State) (s_NULL : Addr) (s_LONG : Addr) (s_DOUBLE : Addr) (s_BOOLEAN : Addr) (s_STRING : Addr) (s_DATE : Addr) (s_TEXT : Addr) (s_BLOB : Addr) (s_SHORT_BLOB : Addr) (s_GEO_PT : Addr) (s_POSTAL_ADDRESS : Addr) (s_PHONE_NUMBER : Addr) (s_EMAIL : Addr) (s_IM_HANDLE : Addr) (s_LINK : Addr) (s_CATEGORY : Addr) (s_RATING : Addr) (s_USER : Addr) (s_BLOB_KEY : Addr) (s_KEY : Addr) (s_EMBEDDED_ENTITY : Addr) (s_LIST : Addr) (s_Representation_NULL : Addr) (s_Representation_BOOLEAN : Addr) (s_Representation_STRING : Addr) (s_Representation_DOUBLE : Addr) (s_INT64 : Addr) (s_POINT : Addr) (s_REFERENCE : Addr) (s_Representation_USER : Addr) : Prop :=
  (Exa Z Z.heap s_NULL "com/example/rooted_kinds/rootedkinds/model/ValueType") ∧
  (Sta Z Z.heap "com/example/rooted_kinds/rootedkinds/model/ValueType" "NULL" "Lcom/example/rooted_kinds/rootedkinds/model/ValueType;" (.ref s_NULL)) ∧
  (Exa Z Z.heap s_LONG "com/example/rooted_kinds/rootedkinds/model/ValueType") ∧
  (Sta Z Z.heap "com/example/rooted_kinds/rootedkinds/model/ValueType" "LONG" "Lcom/example/rooted_kinds/rootedkinds/model/ValueType;" (.ref s_LONG)) ∧
  (Exa Z Z.heap s_DOUBLE "com/example/rooted_kinds/rootedkinds/model/ValueType") ∧
  (Sta Z Z.heap "com/example/rooted_kinds/rootedkinds/model/ValueType" "DOUBLE" "Lcom/example/rooted_kinds/rootedkinds/model/ValueType;" (.ref s_DOUBLE)) ∧
  (Exa Z Z.heap s_BOOLEAN "com/example/rooted_kinds/rootedkinds/model/ValueType") ∧
  (Sta Z Z.heap "com/example/rooted_kinds/rootedkinds/model/ValueType" "BOOLEAN" "Lcom/example/rooted_kinds/rootedkinds/model/ValueType;" (.ref s_BOOLEAN)) ∧
  (Exa Z Z.heap s_STRING "com/example/rooted_kinds/rootedkinds/model/ValueType") ∧
  (Sta Z Z.heap "com/example/rooted_kinds/rootedkinds/model/ValueType" "STRING" "Lcom/example/rooted_kinds/rootedkinds/model/ValueType;" (.ref s_STRING)) ∧
  (Exa Z Z.heap s_DATE "com/example/rooted_kinds/rootedkinds/model/ValueType") ∧
  (Sta Z Z.heap "com/example/rooted_kinds/rootedkinds/model/ValueType" "DATE" "Lcom/example/rooted_kinds/rootedkinds/model/ValueType;" (.ref s_DATE)) ∧
  (Exa Z Z.heap s_TEXT "com/example/rooted_kinds/rootedkinds/model/ValueType") ∧
  (Sta Z Z.heap "com/example/rooted_kinds/rootedkinds/model/ValueType" "TEXT" "Lcom/example/rooted_kinds/rootedkinds/model/ValueType;" (.ref s_TEXT)) ∧
  (Exa Z Z.heap s_BLOB "com/example/rooted_kinds/rootedkinds/model/ValueType") ∧
  (Sta Z Z.heap "com/example/rooted_kinds/rootedkinds/model/ValueType" "BLOB" "Lcom/example/rooted_kinds/rootedkinds/model/ValueType;" (.ref s_BLOB)) ∧
  (Exa Z Z.heap s_SHORT_BLOB "com/example/rooted_kinds/rootedkinds/model/ValueType") ∧
  (Sta Z Z.heap "com/example/rooted_kinds/rootedkinds/model/ValueType" "SHORT_BLOB" "Lcom/example/rooted_kinds/rootedkinds/model/ValueType;" (.ref s_SHORT_BLOB)) ∧
  (Exa Z Z.heap s_GEO_PT "com/example/rooted_kinds/rootedkinds/model/ValueType") ∧
  (Sta Z Z.heap "com/example/rooted_kinds/rootedkinds/model/ValueType" "GEO_PT" "Lcom/example/rooted_kinds/rootedkinds/model/ValueType;" (.ref s_GEO_PT)) ∧
  (Exa Z Z.heap s_POSTAL_ADDRESS "com/example/rooted_kinds/rootedkinds/model/ValueType") ∧
  (Sta Z Z.heap "com/example/rooted_kinds/rootedkinds/model/ValueType" "POSTAL_ADDRESS" "Lcom/example/rooted_kinds/rootedkinds/model/ValueType;" (.ref s_POSTAL_ADDRESS)) ∧
  (Exa Z Z.heap s_PHONE_NUMBER "com/example/rooted_kinds/rootedkinds/model/ValueType") ∧
  (Sta Z Z.heap "com/example/rooted_kinds/rootedkinds/model/ValueType" "PHONE_NUMBER" "Lcom/example/rooted_kinds/rootedkinds/model/ValueType;" (.ref s_PHONE_NUMBER)) ∧
  (Exa Z Z.heap s_EMAIL "com/example/rooted_kinds/rootedkinds/model/ValueType") ∧
  (Sta Z Z.heap "com/example/rooted_kinds/rootedkinds/model/ValueType" "EMAIL" "Lcom/example/rooted_kinds/rootedkinds/model/ValueType;" (.ref s_EMAIL)) ∧
  (Exa Z Z.heap s_IM_HANDLE "com/example/rooted_kinds/rootedkinds/model/ValueType") ∧
  (Sta Z Z.heap "com/example/rooted_kinds/rootedkinds/model/ValueType" "IM_HANDLE" "Lcom/example/rooted_kinds/rootedkinds/model/ValueType;" (.ref s_IM_HANDLE)) ∧
  (Exa Z Z.heap s_LINK "com/example/rooted_kinds/rootedkinds/model/ValueType") ∧
  (Sta Z Z.heap "com/example/rooted_kinds/rootedkinds/model/ValueType" "LINK" "Lcom/example/rooted_kinds/rootedkinds/model/ValueType;" (.ref s_LINK)) ∧
  (Exa Z Z.heap s_CATEGORY "com/example/rooted_kinds/rootedkinds/model/ValueType") ∧
  (Sta Z Z.heap "com/example/rooted_kinds/rootedkinds/model/ValueType" "CATEGORY" "Lcom/example/rooted_kinds/rootedkinds/model/ValueType;" (.ref s_CATEGORY)) ∧
  (Exa Z Z.heap s_RATING "com/example/rooted_kinds/rootedkinds/model/ValueType") ∧
  (Sta Z Z.heap "com/example/rooted_kinds/rootedkinds/model/ValueType" "RATING" "Lcom/example/rooted_kinds/rootedkinds/model/ValueType;" (.ref s_RATING)) ∧
  (Exa Z Z.heap s_USER "com/example/rooted_kinds/rootedkinds/model/ValueType") ∧
  (Sta Z Z.heap "com/example/rooted_kinds/rootedkinds/model/ValueType" "USER" "Lcom/example/rooted_kinds/rootedkinds/model/ValueType;" (.ref s_USER)) ∧
  (Exa Z Z.heap s_BLOB_KEY "com/example/rooted_kinds/rootedkinds/model/ValueType") ∧
  (Sta Z Z.heap "com/example/rooted_kinds/rootedkinds/model/ValueType" "BLOB_KEY" "Lcom/example/rooted_kinds/rootedkinds/model/ValueType;" (.ref s_BLOB_KEY)) ∧
  (Exa Z Z.heap s_KEY "com/example/rooted_kinds/rootedkinds/model/ValueType") ∧
  (Sta Z Z.heap "com/example/rooted_kinds/rootedkinds/model/ValueType" "KEY" "Lcom/example/rooted_kinds/rootedkinds/model/ValueType;" (.ref s_KEY)) ∧
  (Exa Z Z.heap s_EMBEDDED_ENTITY "com/example/rooted_kinds/rootedkinds/model/ValueType") ∧
  (Sta Z Z.heap "com/example/rooted_kinds/rootedkinds/model/ValueType" "EMBEDDED_ENTITY" "Lcom/example/rooted_kinds/rootedkinds/model/ValueType;" (.ref s_EMBEDDED_ENTITY)) ∧
  (Exa Z Z.heap s_LIST "com/example/rooted_kinds/rootedkinds/model/ValueType") ∧
  (Sta Z Z.heap "com/example/rooted_kinds/rootedkinds/model/ValueType" "LIST" "Lcom/example/rooted_kinds/rootedkinds/model/ValueType;" (.ref s_LIST)) ∧
  (Exa Z Z.heap s_Representation_NULL "com/example/rooted_kinds/rootedkinds/model/ValueType$Representation") ∧
  (Sta Z Z.heap "com/example/rooted_kinds/rootedkinds/model/ValueType$Representation" "NULL" "Lcom/example/rooted_kinds/rootedkinds/model/ValueType$Representation;" (.ref s_Representation_NULL)) ∧
  (Exa Z Z.heap s_Representation_BOOLEAN "com/example/rooted_kinds/rootedkinds/model/ValueType$Representation") ∧
  (Sta Z Z.heap "com/example/rooted_kinds/rootedkinds/model/ValueType$Representation" "BOOLEAN" "Lcom/example/rooted_kinds/rootedkinds/model/ValueType$Representation;" (.ref s_Representation_BOOLEAN)) ∧
  (Exa Z Z.heap s_Representation_STRING "com/example/rooted_kinds/rootedkinds/model/ValueType$Representation") ∧
  (Sta Z Z.heap "com/example/rooted_kinds/rootedkinds/model/ValueType$Representation" "STRING" "Lcom/example/rooted_kinds/rootedkinds/model/ValueType$Representation;" (.ref s_Representation_STRING)) ∧
  (Exa Z Z.heap s_Representation_DOUBLE "com/example/rooted_kinds/rootedkinds/model/ValueType$Representation") ∧
  (Sta Z Z.heap "com/example/rooted_kinds/rootedkinds/model/ValueType$Representation" "DOUBLE" "Lcom/example/rooted_kinds/rootedkinds/model/ValueType$Representation;" (.ref s_Representation_DOUBLE)) ∧
  (Exa Z Z.heap s_INT64 "com/example/rooted_kinds/rootedkinds/model/ValueType$Representation") ∧
  (Sta Z Z.heap "com/example/rooted_kinds/rootedkinds/model/ValueType$Representation" "INT64" "Lcom/example/rooted_kinds/rootedkinds/model/ValueType$Representation;" (.ref s_INT64)) ∧
  (Exa Z Z.heap s_POINT "com/example/rooted_kinds/rootedkinds/model/ValueType$Representation") ∧
  (Sta Z Z.heap "com/example/rooted_kinds/rootedkinds/model/ValueType$Representation" "POINT" "Lcom/example/rooted_kinds/rootedkinds/model/ValueType$Representation;" (.ref s_POINT)) ∧
  (Exa Z Z.heap s_REFERENCE "com/example/rooted_kinds/rootedkinds/model/ValueType$Representation") ∧
  (Sta Z Z.heap "com/example/rooted_kinds/rootedkinds/model/ValueType$Representation" "REFERENCE" "Lcom/example/rooted_kinds/rootedkinds/model/ValueType$Representation;" (.ref s_REFERENCE)) ∧
  (Exa Z Z.heap s_Representation_USER "com/example/rooted_kinds/rootedkinds/model/ValueType$Representation") ∧
  (Sta Z Z.heap "com/example/rooted_kinds/rootedkinds/model/ValueType$Representation" "USER" "Lcom/example/rooted_kinds/rootedkinds/model/ValueType$Representation;" (.ref s_Representation_USER)) ∧
  (Fld Z Z.heap s_NULL "java/lang/Enum" "ordinal" "I" (.int (0 : Int32))) ∧
  (Fld Z Z.heap s_TEXT "java/lang/Enum" "ordinal" "I" (.int (6 : Int32))) ∧
  (Fld Z Z.heap s_BLOB "java/lang/Enum" "ordinal" "I" (.int (7 : Int32))) ∧
  (Fld Z Z.heap s_EMBEDDED_ENTITY "java/lang/Enum" "ordinal" "I" (.int (20 : Int32))) ∧
  (Fld Z Z.heap s_LIST "java/lang/Enum" "ordinal" "I" (.int (21 : Int32))) ∧
  (Fld Z Z.heap s_NULL "com/example/rooted_kinds/rootedkinds/model/ValueType" "representation" "Lcom/example/rooted_kinds/rootedkinds/model/ValueType$Representation;" (.ref s_Representation_NULL)) ∧
  (Fld Z Z.heap s_BOOLEAN "java/lang/Enum" "ordinal" "I" (.int (3 : Int32))) ∧
  (Fld Z Z.heap s_BOOLEAN "com/example/rooted_kinds/rootedkinds/model/ValueType" "representation" "Lcom/example/rooted_kinds/rootedkinds/model/ValueType$Representation;" (.ref s_Representation_BOOLEAN)) ∧
  (Fld Z Z.heap s_BLOB "com/example/rooted_kinds/rootedkinds/model/ValueType" "representation" "Lcom/example/rooted_kinds/rootedkinds/model/ValueType$Representation;" .null) ∧
  (Fld Z Z.heap s_SHORT_BLOB "java/lang/Enum" "ordinal" "I" (.int (8 : Int32))) ∧
  (Fld Z Z.heap s_SHORT_BLOB "com/example/rooted_kinds/rootedkinds/model/ValueType" "representation" "Lcom/example/rooted_kinds/rootedkinds/model/ValueType$Representation;" (.ref s_Representation_STRING)) ∧
  (Fld Z Z.heap s_DOUBLE "java/lang/Enum" "ordinal" "I" (.int (2 : Int32))) ∧
  (Fld Z Z.heap s_DOUBLE "com/example/rooted_kinds/rootedkinds/model/ValueType" "representation" "Lcom/example/rooted_kinds/rootedkinds/model/ValueType$Representation;" (.ref s_Representation_DOUBLE)) ∧
  (Fld Z Z.heap s_PHONE_NUMBER "java/lang/Enum" "ordinal" "I" (.int (11 : Int32))) ∧
  (Fld Z Z.heap s_PHONE_NUMBER "com/example/rooted_kinds/rootedkinds/model/ValueType" "representation" "Lcom/example/rooted_kinds/rootedkinds/model/ValueType$Representation;" (.ref s_Representation_STRING)) ∧
  (Fld Z Z.heap s_POSTAL_ADDRESS "java/lang/Enum" "ordinal" "I" (.int (10 : Int32))) ∧
  (Fld Z Z.heap s_POSTAL_ADDRESS "com/example/rooted_kinds/rootedkinds/model/ValueType" "representation" "Lcom/example/rooted_kinds/rootedkinds/model/ValueType$Representation;" (.ref s_Representation_STRING)) ∧
  (Fld Z Z.heap s_LONG "java/lang/Enum" "ordinal" "I" (.int (1 : Int32))) ∧
  (Fld Z Z.heap s_LONG "com/example/rooted_kinds/rootedkinds/model/ValueType" "representation" "Lcom/example/rooted_kinds/rootedkinds/model/ValueType$Representation;" (.ref s_INT64)) ∧
  (Fld Z Z.heap s_GEO_PT "java/lang/Enum" "ordinal" "I" (.int (9 : Int32))) ∧
  (Fld Z Z.heap s_GEO_PT "com/example/rooted_kinds/rootedkinds/model/ValueType" "representation" "Lcom/example/rooted_kinds/rootedkinds/model/ValueType$Representation;" (.ref s_POINT)) ∧
  (Fld Z Z.heap s_DATE "java/lang/Enum" "ordinal" "I" (.int (5 : Int32))) ∧
  (Fld Z Z.heap s_DATE "com/example/rooted_kinds/rootedkinds/model/ValueType" "representation" "Lcom/example/rooted_kinds/rootedkinds/model/ValueType$Representation;" (.ref s_INT64)) ∧
  (Fld Z Z.heap s_RATING "java/lang/Enum" "ordinal" "I" (.int (16 : Int32))) ∧
  (Fld Z Z.heap s_RATING "com/example/rooted_kinds/rootedkinds/model/ValueType" "representation" "Lcom/example/rooted_kinds/rootedkinds/model/ValueType$Representation;" (.ref s_INT64)) ∧
  (Fld Z Z.heap s_TEXT "com/example/rooted_kinds/rootedkinds/model/ValueType" "representation" "Lcom/example/rooted_kinds/rootedkinds/model/ValueType$Representation;" .null) ∧
  (Fld Z Z.heap s_KEY "java/lang/Enum" "ordinal" "I" (.int (19 : Int32))) ∧
  (Fld Z Z.heap s_KEY "com/example/rooted_kinds/rootedkinds/model/ValueType" "representation" "Lcom/example/rooted_kinds/rootedkinds/model/ValueType$Representation;" (.ref s_REFERENCE)) ∧
  (Fld Z Z.heap s_BLOB_KEY "java/lang/Enum" "ordinal" "I" (.int (18 : Int32))) ∧
  (Fld Z Z.heap s_BLOB_KEY "com/example/rooted_kinds/rootedkinds/model/ValueType" "representation" "Lcom/example/rooted_kinds/rootedkinds/model/ValueType$Representation;" (.ref s_Representation_STRING)) ∧
  (Fld Z Z.heap s_CATEGORY "java/lang/Enum" "ordinal" "I" (.int (15 : Int32))) ∧
  (Fld Z Z.heap s_CATEGORY "com/example/rooted_kinds/rootedkinds/model/ValueType" "representation" "Lcom/example/rooted_kinds/rootedkinds/model/ValueType$Representation;" (.ref s_Representation_STRING)) ∧
  (Fld Z Z.heap s_STRING "java/lang/Enum" "ordinal" "I" (.int (4 : Int32))) ∧
  (Fld Z Z.heap s_STRING "com/example/rooted_kinds/rootedkinds/model/ValueType" "representation" "Lcom/example/rooted_kinds/rootedkinds/model/ValueType$Representation;" (.ref s_Representation_STRING)) ∧
  (Fld Z Z.heap s_LINK "java/lang/Enum" "ordinal" "I" (.int (14 : Int32))) ∧
  (Fld Z Z.heap s_LINK "com/example/rooted_kinds/rootedkinds/model/ValueType" "representation" "Lcom/example/rooted_kinds/rootedkinds/model/ValueType$Representation;" (.ref s_Representation_STRING)) ∧
  (Fld Z Z.heap s_EMAIL "java/lang/Enum" "ordinal" "I" (.int (12 : Int32))) ∧
  (Fld Z Z.heap s_EMAIL "com/example/rooted_kinds/rootedkinds/model/ValueType" "representation" "Lcom/example/rooted_kinds/rootedkinds/model/ValueType$Representation;" (.ref s_Representation_STRING)) ∧
  (Fld Z Z.heap s_IM_HANDLE "java/lang/Enum" "ordinal" "I" (.int (13 : Int32))) ∧
  (Fld Z Z.heap s_IM_HANDLE "com/example/rooted_kinds/rootedkinds/model/ValueType" "representation" "Lcom/example/rooted_kinds/rootedkinds/model/ValueType$Representation;" (.ref s_Representation_STRING)) ∧
  (Fld Z Z.heap s_USER "java/lang/Enum" "ordinal" "I" (.int (17 : Int32))) ∧
  (Fld Z Z.heap s_USER "com/example/rooted_kinds/rootedkinds/model/ValueType" "representation" "Lcom/example/rooted_kinds/rootedkinds/model/ValueType$Representation;" (.ref s_Representation_USER)) ∧
  (Fld Z Z.heap s_EMBEDDED_ENTITY "com/example/rooted_kinds/rootedkinds/model/ValueType" "representation" "Lcom/example/rooted_kinds/rootedkinds/model/ValueType$Representation;" .null) ∧
  (Fld Z Z.heap s_LIST "com/example/rooted_kinds/rootedkinds/model/ValueType" "representation" "Lcom/example/rooted_kinds/rootedkinds/model/ValueType$Representation;" .null)
theorem own_d1_0 : decode prog_64_method_6_code 0 = .ok (.aload_n 0, 1) := by decide +kernel
theorem own_d1_1 : decode prog_64_method_6_code 1 = .ok (.getstatic 67, 3) := by decide +kernel
theorem own_d1_4 : decode prog_64_method_6_code 4 = .ok (.if_acmp .eq 10, 3) := by decide +kernel
theorem own_d1_14 : decode prog_64_method_6_code 14 = .ok (.iconst 1, 1) := by decide +kernel
theorem own_d1_15 : decode prog_64_method_6_code 15 = .ok (.goto 4, 3) := by decide +kernel
theorem own_d1_19 : decode prog_64_method_6_code 19 = .ok (.ireturn, 1) := by decide +kernel
theorem own_d1_7 : decode prog_64_method_6_code 7 = .ok (.aload_n 0, 1) := by decide +kernel
theorem own_d1_8 : decode prog_64_method_6_code 8 = .ok (.getfield 89, 3) := by decide +kernel
theorem own_d1_11 : decode prog_64_method_6_code 11 = .ok (.ifnull 7, 3) := by decide +kernel
theorem own_d1_18 : decode prog_64_method_6_code 18 = .ok (.iconst 0, 1) := by decide +kernel
theorem own_pn0 : plainName "com/example/rooted_kinds/rootedkinds/model/ValueType" = true := by first | (simp [plainName, overriddenIn]; done) | decide +kernel
theorem ef1n (m : MethodId) (r0 : Addr) : entryFrame m #[(.ref r0)] 1 = mkF m 0 #[.val (.ref r0)] [] := by first | (simp [entryFrame, mkF, argsToLocals, Value.category]; done) | rfl
def f1n (s_LIST : Addr) (r0 : Addr) : Int32 := (if r0 = s_LIST then (1 : Int32) else (0 : Int32))
def Q1n (Z : State) (s_LIST : Addr) (r0 : Addr) (h0 : Heap) (n0 : Nat) (v : Option Value) (h : Heap) (L : List Loc) : Prop := v = some (.int (f1n s_LIST r0)) ∧ Fr n0 L ∧ h = h0
set_option maxRecDepth 65536 in
set_option maxHeartbeats 40000000 in
theorem rm1n (l : Launch) (Z : State) (a0 : Array Value) (hw : ∀ d ∈ tables_1, d.before a0 Z = true) (ws : List Jvm.Cond) (s_NULL : Addr) (s_LONG : Addr) (s_DOUBLE : Addr) (s_BOOLEAN : Addr) (s_STRING : Addr) (s_DATE : Addr) (s_TEXT : Addr) (s_BLOB : Addr) (s_SHORT_BLOB : Addr) (s_GEO_PT : Addr) (s_POSTAL_ADDRESS : Addr) (s_PHONE_NUMBER : Addr) (s_EMAIL : Addr) (s_IM_HANDLE : Addr) (s_LINK : Addr) (s_CATEGORY : Addr) (s_RATING : Addr) (s_USER : Addr) (s_BLOB_KEY : Addr) (s_KEY : Addr) (s_EMBEDDED_ENTITY : Addr) (s_LIST : Addr) (s_Representation_NULL : Addr) (s_Representation_BOOLEAN : Addr) (s_Representation_STRING : Addr) (s_Representation_DOUBLE : Addr) (s_INT64 : Addr) (s_POINT : Addr) (s_REFERENCE : Addr) (s_Representation_USER : Addr) (HW : W0 Z s_NULL s_LONG s_DOUBLE s_BOOLEAN s_STRING s_DATE s_TEXT s_BLOB s_SHORT_BLOB s_GEO_PT s_POSTAL_ADDRESS s_PHONE_NUMBER s_EMAIL s_IM_HANDLE s_LINK s_CATEGORY s_RATING s_USER s_BLOB_KEY s_KEY s_EMBEDDED_ENTITY s_LIST s_Representation_NULL s_Representation_BOOLEAN s_Representation_STRING s_Representation_DOUBLE s_INT64 s_POINT s_REFERENCE s_Representation_USER) (r0 : Addr) (h0 : Heap) (n0 : Nat) (O0 : Old Z n0 h0) (F_representation_r0 : Fld Z h0 r0 "com/example/rooted_kinds/rootedkinds/model/ValueType" "representation" "Lcom/example/rooted_kinds/rootedkinds/model/ValueType$Representation;" .null) :
    MetFree l (⟨"com/example/rooted_kinds/rootedkinds/model/ValueType", "isIndexed", "()Z"⟩ : MethodName) (head1 (Jvm.Cond.code (⟨"com/example/rooted_kinds/rootedkinds/model/ValueType", "isIndexed", "()Z"⟩ : MethodName) prog_64_method_6_code 1 (some .boolean) :: ws) ({ frames := 0, cells := 0, slots := 0, locals := 0 } : Room)) (fun a U => a = #[(.ref r0)] ∧ Z.Warmed39 U.vm ∧ U.heap = h0) (fun _ _ _ _ _ => True) (fun _ U o U' => ∃ v L, o = .returned v ∧ Q1n Z s_LIST r0 h0 n0 v U'.heap L ∧ FrameEnd U o U' L ({ frames := 0, cells := 0, slots := 0, locals := 0 } : Room).cells ({ frames := 0, cells := 0, slots := 0, locals := 0 } : Room).slots) := by
  refine MetFree.of_bodySF (plainFor_of_name own_pn0) hisR ?_
  intro p e s m args below meth c s₁ Bd hml0 hP hK
  obtain ⟨rfl, hZ, hh⟩ := hP
  obtain ⟨E_NULL, S_NULL, E_LONG, S_LONG, E_DOUBLE, S_DOUBLE, E_BOOLEAN, S_BOOLEAN, E_STRING, S_STRING, E_DATE, S_DATE, E_TEXT, S_TEXT, E_BLOB, S_BLOB, E_SHORT_BLOB, S_SHORT_BLOB, E_GEO_PT, S_GEO_PT, E_POSTAL_ADDRESS, S_POSTAL_ADDRESS, E_PHONE_NUMBER, S_PHONE_NUMBER, E_EMAIL, S_EMAIL, E_IM_HANDLE, S_IM_HANDLE, E_LINK, S_LINK, E_CATEGORY, S_CATEGORY, E_RATING, S_RATING, E_USER, S_USER, E_BLOB_KEY, S_BLOB_KEY, E_KEY, S_KEY, E_EMBEDDED_ENTITY, S_EMBEDDED_ENTITY, E_LIST, S_LIST, E_Representation_NULL, S_Representation_NULL, E_Representation_BOOLEAN, S_Representation_BOOLEAN, E_Representation_STRING, S_Representation_STRING, E_Representation_DOUBLE, S_Representation_DOUBLE, E_INT64, S_INT64, E_POINT, S_POINT, E_REFERENCE, S_REFERENCE, E_Representation_USER, S_Representation_USER, F_NULL_ordinal, F_TEXT_ordinal, F_BLOB_ordinal, F_EMBEDDED_ENTITY_ordinal, F_LIST_ordinal, F_NULL_representation, F_BOOLEAN_ordinal, F_BOOLEAN_representation, F_BLOB_representation, F_SHORT_BLOB_ordinal, F_SHORT_BLOB_representation, F_DOUBLE_ordinal, F_DOUBLE_representation, F_PHONE_NUMBER_ordinal, F_PHONE_NUMBER_representation, F_POSTAL_ADDRESS_ordinal, F_POSTAL_ADDRESS_representation, F_LONG_ordinal, F_LONG_representation, F_GEO_PT_ordinal, F_GEO_PT_representation, F_DATE_ordinal, F_DATE_representation, F_RATING_ordinal, F_RATING_representation, F_TEXT_representation, F_KEY_ordinal, F_KEY_representation, F_BLOB_KEY_ordinal, F_BLOB_KEY_representation, F_CATEGORY_ordinal, F_CATEGORY_representation, F_STRING_ordinal, F_STRING_representation, F_LINK_ordinal, F_LINK_representation, F_EMAIL_ordinal, F_EMAIL_representation, F_IM_HANDLE_ordinal, F_IM_HANDLE_representation, F_USER_ordinal, F_USER_representation, F_EMBEDDED_ENTITY_representation, F_LIST_representation⟩ := id HW
  have hx := Bd.exec
  have hby := Bd.bytes
  have hml : c.maxLocals = 1 := hml0
  have hown : s.vm.findClass "com/example/rooted_kinds/rootedkinds/model/ValueType" = some m.cls := findClass_of_methodNamed Bd.named
  have hnm := (name_of_methodNamed Bd.named Bd.method).1
  have X0 : Stand p l e ({ frames := 0, cells := 0, slots := 0, locals := 0 } : Room) s m #[(.ref r0)] below meth c s₁ [] 0 0 := Stand.of_body Bd
  have e0 : s₁.heap = h0 := by rw [← hh, Bd.state]; rfl
  have N0 := Fr.nil n0
  have K0 := Keep.refl h0 []
  refine Go.out ?_
  refine Go.st (V' := s₁.setTop (mkF m 0 #[.val (.ref r0)] [])) (fun t k => castTop (ef1n m r0) k) ?_
  refine Go.st (V' := s₁.setTop (mkF m 1 #[.val (.ref r0)] [(.ref r0)])) (fun t k => ?_) ?_
  · refine XS.aloadN X0.here hx rfl (hb hby own_d1_0) rfl rfl ?_
    show Steps p.tables e below (s₁.setTop (mkF m 1 #[.val (.ref r0)] [(.ref r0)])) _
    exact k
  obtain ⟨T1, X1, e1, st1⟩ := getS2 X0 hx hZ hown (host := "") (Or.inl (hw _ (List.mem_of_getElem? (i := 54) rfl))) Via.refl e0 (S_LIST.ext O0.2) (g := (mkF m 1 #[.val (.ref r0)] [(.ref r0)])) rfl (hb hby own_d1_1)
  refine Go.st (V' := T1.setTop (mkF m 4 #[.val (.ref r0)] [(.ref s_LIST), (.ref r0)])) (fun t k => st1 t k) ?_
  by_cases hc2 : r0 = s_LIST
  · refine Go.st (V' := T1.setTop (mkF m 19 #[.val (.ref r0)] [(.int (1 : Int32))])) (fun t k => ?_) ?_
    · refine Jvm.RoadKit.acmp (g := (mkF m 4 #[.val (.ref r0)] [(.ref s_LIST), (.ref r0)])) X1 hx rfl rfl rfl (pc0 := 4) (pc' := 14) (same := true) rfl (hb hby own_d1_4) rfl (decide_eq_true (congrArg Value.ref hc2)) (by decide) (by decide) ?_
      show Steps p.tables e below (T1.setTop (mkF m 14 #[.val (.ref r0)] [])) _
      refine XS.iconst X1.here hx rfl (hb hby own_d1_14) ?_
      show Steps p.tables e below (T1.setTop (mkF m 15 #[.val (.ref r0)] [(.int (1 : Int32))])) _
      refine XS.goto X1.here hx rfl (pc0 := 15) (pc' := 19) rfl (hb hby own_d1_15) (by decide) (by decide) ?_
      show Steps p.tables e below (T1.setTop (mkF m 19 #[.val (.ref r0)] [(.int (1 : Int32))])) _
      exact k
    obtain ⟨fs, hr, hrun, hended, hW, hsame⟩ := X1.leave (v := some (.int (1 : Int32))) (fun h => by rw [Bd.returns] at h; cases h)
    refine Go.mk' ⟨_, _, retN X1 hx (t := .boolean) Bd.returns (by simp) (hb hby own_d1_19) hr, hrun, hended, _, _, rfl, ?_, ⟨_, rfl⟩, hW, hsame.mono (by decide) (by decide)⟩
    show Q1n Z s_LIST r0 h0 n0 _ T1.heap _
    rw [e1]
    exact ⟨(by rw [f1n, if_pos hc2]), N0, rfl⟩
  · refine Go.st (V' := T1.setTop (mkF m 8 #[.val (.ref r0)] [(.ref r0)])) (fun t k => ?_) ?_
    · refine Jvm.RoadKit.acmp (g := (mkF m 4 #[.val (.ref r0)] [(.ref s_LIST), (.ref r0)])) X1 hx rfl rfl rfl (pc0 := 4) (pc' := 7) (same := false) rfl (hb hby own_d1_4) rfl (decide_eq_false fun q => hc2 (Value.ref.inj q)) (by decide) (by decide) ?_
      show Steps p.tables e below (T1.setTop (mkF m 7 #[.val (.ref r0)] [])) _
      refine XS.aloadN X1.here hx rfl (hb hby own_d1_7) rfl rfl ?_
      show Steps p.tables e below (T1.setTop (mkF m 8 #[.val (.ref r0)] [(.ref r0)])) _
      exact k
    obtain ⟨T3, X3, e3, st3⟩ := getF X1 hx hZ hown (host := "") (Or.inl (hw _ (List.mem_of_getElem? (i := 55) rfl))) Via.refl e1 F_representation_r0 (g := (mkF m 8 #[.val (.ref r0)] [(.ref r0)])) rfl rfl (hb hby own_d1_8)
    refine Go.st (V' := T3.setTop (mkF m 11 #[.val (.ref r0)] [.null])) (fun t k => st3 t k) ?_
    refine Go.st (V' := T3.setTop (mkF m 19 #[.val (.ref r0)] [(.int (0 : Int32))])) (fun t k => ?_) ?_
    · refine XS.ifnullYes X3.here hx rfl (pc0 := 11) (pc' := 18) rfl (hb hby own_d1_11) rfl (by decide) (by decide) ?_
      show Steps p.tables e below (T3.setTop (mkF m 18 #[.val (.ref r0)] [])) _
      refine XS.iconst X3.here hx rfl (hb hby own_d1_18) ?_
      show Steps p.tables e below (T3.setTop (mkF m 19 #[.val (.ref r0)] [(.int (0 : Int32))])) _
      exact k
    obtain ⟨fs, hr, hrun, hended, hW, hsame⟩ := X3.leave (v := some (.int (0 : Int32))) (fun h => by rw [Bd.returns] at h; cases h)
    refine Go.mk' ⟨_, _, retN X3 hx (t := .boolean) Bd.returns (by simp) (hb hby own_d1_19) hr, hrun, hended, _, _, rfl, ?_, ⟨_, rfl⟩, hW, hsame.mono (by decide) (by decide)⟩
    show Q1n Z s_LIST r0 h0 n0 _ T3.heap _
    rw [e3]
    exact ⟨(by rw [f1n, if_neg hc2]), N0, rfl⟩
theorem ef1r (m : MethodId) (r0 : Addr) : entryFrame m #[(.ref r0)] 1 = mkF m 0 #[.val (.ref r0)] [] := by first | (simp [entryFrame, mkF, argsToLocals, Value.category]; done) | rfl
def Q1r (Z : State) (s_LIST : Addr) (r0 : Addr) (h0 : Heap) (n0 : Nat) (v : Option Value) (h : Heap) (L : List Loc) : Prop := v = some (.int (1 : Int32)) ∧ Fr n0 L ∧ h = h0
set_option maxRecDepth 65536 in
set_option maxHeartbeats 40000000 in
theorem rm1r (l : Launch) (Z : State) (a0 : Array Value) (hw : ∀ d ∈ tables_1, d.before a0 Z = true) (ws : List Jvm.Cond) (s_NULL : Addr) (s_LONG : Addr) (s_DOUBLE : Addr) (s_BOOLEAN : Addr) (s_STRING : Addr) (s_DATE : Addr) (s_TEXT : Addr) (s_BLOB : Addr) (s_SHORT_BLOB : Addr) (s_GEO_PT : Addr) (s_POSTAL_ADDRESS : Addr) (s_PHONE_NUMBER : Addr) (s_EMAIL : Addr) (s_IM_HANDLE : Addr) (s_LINK : Addr) (s_CATEGORY : Addr) (s_RATING : Addr) (s_USER : Addr) (s_BLOB_KEY : Addr) (s_KEY : Addr) (s_EMBEDDED_ENTITY : Addr) (s_LIST : Addr) (s_Representation_NULL : Addr) (s_Representation_BOOLEAN : Addr) (s_Representation_STRING : Addr) (s_Representation_DOUBLE : Addr) (s_INT64 : Addr) (s_POINT : Addr) (s_REFERENCE : Addr) (s_Representation_USER : Addr) (HW : W0 Z s_NULL s_LONG s_DOUBLE s_BOOLEAN s_STRING s_DATE s_TEXT s_BLOB s_SHORT_BLOB s_GEO_PT s_POSTAL_ADDRESS s_PHONE_NUMBER s_EMAIL s_IM_HANDLE s_LINK s_CATEGORY s_RATING s_USER s_BLOB_KEY s_KEY s_EMBEDDED_ENTITY s_LIST s_Representation_NULL s_Representation_BOOLEAN s_Representation_STRING s_Representation_DOUBLE s_INT64 s_POINT s_REFERENCE s_Representation_USER) (r0 : Addr) (w_representation_r0 : Addr) (h0 : Heap) (n0 : Nat) (O0 : Old Z n0 h0) (F_representation_r0 : Fld Z h0 r0 "com/example/rooted_kinds/rootedkinds/model/ValueType" "representation" "Lcom/example/rooted_kinds/rootedkinds/model/ValueType$Representation;" (.ref w_representation_r0)) :
    MetFree l (⟨"com/example/rooted_kinds/rootedkinds/model/ValueType", "isIndexed", "()Z"⟩ : MethodName) (head1 (Jvm.Cond.code (⟨"com/example/rooted_kinds/rootedkinds/model/ValueType", "isIndexed", "()Z"⟩ : MethodName) prog_64_method_6_code 1 (some .boolean) :: ws) ({ frames := 0, cells := 0, slots := 0, locals := 0 } : Room)) (fun a U => a = #[(.ref r0)] ∧ Z.Warmed39 U.vm ∧ U.heap = h0) (fun _ _ _ _ _ => True) (fun _ U o U' => ∃ v L, o = .returned v ∧ Q1r Z s_LIST r0 h0 n0 v U'.heap L ∧ FrameEnd U o U' L ({ frames := 0, cells := 0, slots := 0, locals := 0 } : Room).cells ({ frames := 0, cells := 0, slots := 0, locals := 0 } : Room).slots) := by
  refine MetFree.of_bodySF (plainFor_of_name own_pn0) hisR ?_
  intro p e s m args below meth c s₁ Bd hml0 hP hK
  obtain ⟨rfl, hZ, hh⟩ := hP
  obtain ⟨E_NULL, S_NULL, E_LONG, S_LONG, E_DOUBLE, S_DOUBLE, E_BOOLEAN, S_BOOLEAN, E_STRING, S_STRING, E_DATE, S_DATE, E_TEXT, S_TEXT, E_BLOB, S_BLOB, E_SHORT_BLOB, S_SHORT_BLOB, E_GEO_PT, S_GEO_PT, E_POSTAL_ADDRESS, S_POSTAL_ADDRESS, E_PHONE_NUMBER, S_PHONE_NUMBER, E_EMAIL, S_EMAIL, E_IM_HANDLE, S_IM_HANDLE, E_LINK, S_LINK, E_CATEGORY, S_CATEGORY, E_RATING, S_RATING, E_USER, S_USER, E_BLOB_KEY, S_BLOB_KEY, E_KEY, S_KEY, E_EMBEDDED_ENTITY, S_EMBEDDED_ENTITY, E_LIST, S_LIST, E_Representation_NULL, S_Representation_NULL, E_Representation_BOOLEAN, S_Representation_BOOLEAN, E_Representation_STRING, S_Representation_STRING, E_Representation_DOUBLE, S_Representation_DOUBLE, E_INT64, S_INT64, E_POINT, S_POINT, E_REFERENCE, S_REFERENCE, E_Representation_USER, S_Representation_USER, F_NULL_ordinal, F_TEXT_ordinal, F_BLOB_ordinal, F_EMBEDDED_ENTITY_ordinal, F_LIST_ordinal, F_NULL_representation, F_BOOLEAN_ordinal, F_BOOLEAN_representation, F_BLOB_representation, F_SHORT_BLOB_ordinal, F_SHORT_BLOB_representation, F_DOUBLE_ordinal, F_DOUBLE_representation, F_PHONE_NUMBER_ordinal, F_PHONE_NUMBER_representation, F_POSTAL_ADDRESS_ordinal, F_POSTAL_ADDRESS_representation, F_LONG_ordinal, F_LONG_representation, F_GEO_PT_ordinal, F_GEO_PT_representation, F_DATE_ordinal, F_DATE_representation, F_RATING_ordinal, F_RATING_representation, F_TEXT_representation, F_KEY_ordinal, F_KEY_representation, F_BLOB_KEY_ordinal, F_BLOB_KEY_representation, F_CATEGORY_ordinal, F_CATEGORY_representation, F_STRING_ordinal, F_STRING_representation, F_LINK_ordinal, F_LINK_representation, F_EMAIL_ordinal, F_EMAIL_representation, F_IM_HANDLE_ordinal, F_IM_HANDLE_representation, F_USER_ordinal, F_USER_representation, F_EMBEDDED_ENTITY_representation, F_LIST_representation⟩ := id HW
  have hx := Bd.exec
  have hby := Bd.bytes
  have hml : c.maxLocals = 1 := hml0
  have hown : s.vm.findClass "com/example/rooted_kinds/rootedkinds/model/ValueType" = some m.cls := findClass_of_methodNamed Bd.named
  have hnm := (name_of_methodNamed Bd.named Bd.method).1
  have X0 : Stand p l e ({ frames := 0, cells := 0, slots := 0, locals := 0 } : Room) s m #[(.ref r0)] below meth c s₁ [] 0 0 := Stand.of_body Bd
  have e0 : s₁.heap = h0 := by rw [← hh, Bd.state]; rfl
  have N0 := Fr.nil n0
  have K0 := Keep.refl h0 []
  refine Go.out ?_
  refine Go.st (V' := s₁.setTop (mkF m 0 #[.val (.ref r0)] [])) (fun t k => castTop (ef1r m r0) k) ?_
  refine Go.st (V' := s₁.setTop (mkF m 1 #[.val (.ref r0)] [(.ref r0)])) (fun t k => ?_) ?_
  · refine XS.aloadN X0.here hx rfl (hb hby own_d1_0) rfl rfl ?_
    show Steps p.tables e below (s₁.setTop (mkF m 1 #[.val (.ref r0)] [(.ref r0)])) _
    exact k
  obtain ⟨T4, X4, e4, st4⟩ := getS2 X0 hx hZ hown (host := "") (Or.inl (hw _ (List.mem_of_getElem? (i := 54) rfl))) Via.refl e0 (S_LIST.ext O0.2) (g := (mkF m 1 #[.val (.ref r0)] [(.ref r0)])) rfl (hb hby own_d1_1)
  refine Go.st (V' := T4.setTop (mkF m 4 #[.val (.ref r0)] [(.ref s_LIST), (.ref r0)])) (fun t k => st4 t k) ?_
  by_cases hc5 : r0 = s_LIST
  · refine Go.st (V' := T4.setTop (mkF m 19 #[.val (.ref r0)] [(.int (1 : Int32))])) (fun t k => ?_) ?_
    · refine Jvm.RoadKit.acmp (g := (mkF m 4 #[.val (.ref r0)] [(.ref s_LIST), (.ref r0)])) X4 hx rfl rfl rfl (pc0 := 4) (pc' := 14) (same := true) rfl (hb hby own_d1_4) rfl (decide_eq_true (congrArg Value.ref hc5)) (by decide) (by decide) ?_
      show Steps p.tables e below (T4.setTop (mkF m 14 #[.val (.ref r0)] [])) _
      refine XS.iconst X4.here hx rfl (hb hby own_d1_14) ?_
      show Steps p.tables e below (T4.setTop (mkF m 15 #[.val (.ref r0)] [(.int (1 : Int32))])) _
      refine XS.goto X4.here hx rfl (pc0 := 15) (pc' := 19) rfl (hb hby own_d1_15) (by decide) (by decide) ?_
      show Steps p.tables e below (T4.setTop (mkF m 19 #[.val (.ref r0)] [(.int (1 : Int32))])) _
      exact k
    obtain ⟨fs, hr, hrun, hended, hW, hsame⟩ := X4.leave (v := some (.int (1 : Int32))) (fun h => by rw [Bd.returns] at h; cases h)
    refine Go.mk' ⟨_, _, retN X4 hx (t := .boolean) Bd.returns (by simp) (hb hby own_d1_19) hr, hrun, hended, _, _, rfl, ?_, ⟨_, rfl⟩, hW, hsame.mono (by decide) (by decide)⟩
    show Q1r Z s_LIST r0 h0 n0 _ T4.heap _
    rw [e4]
    exact ⟨rfl, N0, rfl⟩
  · refine Go.st (V' := T4.setTop (mkF m 8 #[.val (.ref r0)] [(.ref r0)])) (fun t k => ?_) ?_
    · refine Jvm.RoadKit.acmp (g := (mkF m 4 #[.val (.ref r0)] [(.ref s_LIST), (.ref r0)])) X4 hx rfl rfl rfl (pc0 := 4) (pc' := 7) (same := false) rfl (hb hby own_d1_4) rfl (decide_eq_false fun q => hc5 (Value.ref.inj q)) (by decide) (by decide) ?_
      show Steps p.tables e below (T4.setTop (mkF m 7 #[.val (.ref r0)] [])) _
      refine XS.aloadN X4.here hx rfl (hb hby own_d1_7) rfl rfl ?_
      show Steps p.tables e below (T4.setTop (mkF m 8 #[.val (.ref r0)] [(.ref r0)])) _
      exact k
    obtain ⟨T6, X6, e6, st6⟩ := getF X4 hx hZ hown (host := "") (Or.inl (hw _ (List.mem_of_getElem? (i := 55) rfl))) Via.refl e4 F_representation_r0 (g := (mkF m 8 #[.val (.ref r0)] [(.ref r0)])) rfl rfl (hb hby own_d1_8)
    refine Go.st (V' := T6.setTop (mkF m 11 #[.val (.ref r0)] [(.ref w_representation_r0)])) (fun t k => st6 t k) ?_
    refine Go.st (V' := T6.setTop (mkF m 19 #[.val (.ref r0)] [(.int (1 : Int32))])) (fun t k => ?_) ?_
    · refine XS.ifnullNo X6.here hx rfl (hb hby own_d1_11) rfl ?_
      show Steps p.tables e below (T6.setTop (mkF m 14 #[.val (.ref r0)] [])) _
      refine XS.iconst X6.here hx rfl (hb hby own_d1_14) ?_
      show Steps p.tables e below (T6.setTop (mkF m 15 #[.val (.ref r0)] [(.int (1 : Int32))])) _
      refine XS.goto X6.here hx rfl (pc0 := 15) (pc' := 19) rfl (hb hby own_d1_15) (by decide) (by decide) ?_
      show Steps p.tables e below (T6.setTop (mkF m 19 #[.val (.ref r0)] [(.int (1 : Int32))])) _
      exact k
    obtain ⟨fs, hr, hrun, hended, hW, hsame⟩ := X6.leave (v := some (.int (1 : Int32))) (fun h => by rw [Bd.returns] at h; cases h)
    refine Go.mk' ⟨_, _, retN X6 hx (t := .boolean) Bd.returns (by simp) (hb hby own_d1_19) hr, hrun, hended, _, _, rfl, ?_, ⟨_, rfl⟩, hW, hsame.mono (by decide) (by decide)⟩
    show Q1r Z s_LIST r0 h0 n0 _ T6.heap _
    rw [e6]
    exact ⟨rfl, N0, rfl⟩
theorem own_pd10 : parseMethodDescriptor "()Z" = some ⟨[], some .boolean⟩ := by decide +kernel
theorem own_pn1 : plainName "com/example/rooted_kinds/rootedkinds/model/ValueTypeIsIndexedPinLaw" = true := by first | (simp [plainName, overriddenIn]; done) | decide +kernel
theorem ef0 (m : MethodId) (p0 : Int32) : entryFrame m #[(.int p0)] maxLocals = mkF m 0 #[.val (.int p0), .unset, .unset, .unset, .unset] [] := by first | (simp [entryFrame, mkF, argsToLocals, Value.category, maxLocals]; done) | rfl
def Q0 (Z : State) (p0 : Int32) (h0 : Heap) (n0 : Nat) (v : Option Value) (h : Heap) (L : List Loc) : Prop := v = some (.int 1) ∧ Fr n0 L
set_option maxRecDepth 65536 in
set_option maxHeartbeats 40000000 in
theorem rm0 (l : Launch) (Z : State) (a0 : Array Value) (hw : ∀ d ∈ tables_1, d.before a0 Z = true) (ws : List Jvm.Cond) (s_NULL : Addr) (s_LONG : Addr) (s_DOUBLE : Addr) (s_BOOLEAN : Addr) (s_STRING : Addr) (s_DATE : Addr) (s_TEXT : Addr) (s_BLOB : Addr) (s_SHORT_BLOB : Addr) (s_GEO_PT : Addr) (s_POSTAL_ADDRESS : Addr) (s_PHONE_NUMBER : Addr) (s_EMAIL : Addr) (s_IM_HANDLE : Addr) (s_LINK : Addr) (s_CATEGORY : Addr) (s_RATING : Addr) (s_USER : Addr) (s_BLOB_KEY : Addr) (s_KEY : Addr) (s_EMBEDDED_ENTITY : Addr) (s_LIST : Addr) (s_Representation_NULL : Addr) (s_Representation_BOOLEAN : Addr) (s_Representation_STRING : Addr) (s_Representation_DOUBLE : Addr) (s_INT64 : Addr) (s_POINT : Addr) (s_REFERENCE : Addr) (s_Representation_USER : Addr) (HW : W0 Z s_NULL s_LONG s_DOUBLE s_BOOLEAN s_STRING s_DATE s_TEXT s_BLOB s_SHORT_BLOB s_GEO_PT s_POSTAL_ADDRESS s_PHONE_NUMBER s_EMAIL s_IM_HANDLE s_LINK s_CATEGORY s_RATING s_USER s_BLOB_KEY s_KEY s_EMBEDDED_ENTITY s_LIST s_Representation_NULL s_Representation_BOOLEAN s_Representation_STRING s_Representation_DOUBLE s_INT64 s_POINT s_REFERENCE s_Representation_USER) (p0 : Int32) (h0 : Heap) (n0 : Nat) (O0 : Old Z n0 h0) :
    MetFree l x (head1 (Jvm.Cond.code x code maxLocals ret :: ws) room_1) (fun a U => a = #[(.int p0)] ∧ Z.Warmed39 U.vm ∧ U.heap = h0) (fun _ _ _ _ _ => True) (fun _ U o U' => ∃ v L, o = .returned v ∧ Q0 Z p0 h0 n0 v U'.heap L ∧ FrameEnd U o U' L room_1.cells room_1.slots) := by
  refine MetFree.of_bodySF (plainFor_of_name own_pn1) hisR ?_
  intro p e s m args below meth c s₁ Bd hml0 hP hK
  obtain ⟨rfl, hZ, hh⟩ := hP
  obtain ⟨E_NULL, S_NULL, E_LONG, S_LONG, E_DOUBLE, S_DOUBLE, E_BOOLEAN, S_BOOLEAN, E_STRING, S_STRING, E_DATE, S_DATE, E_TEXT, S_TEXT, E_BLOB, S_BLOB, E_SHORT_BLOB, S_SHORT_BLOB, E_GEO_PT, S_GEO_PT, E_POSTAL_ADDRESS, S_POSTAL_ADDRESS, E_PHONE_NUMBER, S_PHONE_NUMBER, E_EMAIL, S_EMAIL, E_IM_HANDLE, S_IM_HANDLE, E_LINK, S_LINK, E_CATEGORY, S_CATEGORY, E_RATING, S_RATING, E_USER, S_USER, E_BLOB_KEY, S_BLOB_KEY, E_KEY, S_KEY, E_EMBEDDED_ENTITY, S_EMBEDDED_ENTITY, E_LIST, S_LIST, E_Representation_NULL, S_Representation_NULL, E_Representation_BOOLEAN, S_Representation_BOOLEAN, E_Representation_STRING, S_Representation_STRING, E_Representation_DOUBLE, S_Representation_DOUBLE, E_INT64, S_INT64, E_POINT, S_POINT, E_REFERENCE, S_REFERENCE, E_Representation_USER, S_Representation_USER, F_NULL_ordinal, F_TEXT_ordinal, F_BLOB_ordinal, F_EMBEDDED_ENTITY_ordinal, F_LIST_ordinal, F_NULL_representation, F_BOOLEAN_ordinal, F_BOOLEAN_representation, F_BLOB_representation, F_SHORT_BLOB_ordinal, F_SHORT_BLOB_representation, F_DOUBLE_ordinal, F_DOUBLE_representation, F_PHONE_NUMBER_ordinal, F_PHONE_NUMBER_representation, F_POSTAL_ADDRESS_ordinal, F_POSTAL_ADDRESS_representation, F_LONG_ordinal, F_LONG_representation, F_GEO_PT_ordinal, F_GEO_PT_representation, F_DATE_ordinal, F_DATE_representation, F_RATING_ordinal, F_RATING_representation, F_TEXT_representation, F_KEY_ordinal, F_KEY_representation, F_BLOB_KEY_ordinal, F_BLOB_KEY_representation, F_CATEGORY_ordinal, F_CATEGORY_representation, F_STRING_ordinal, F_STRING_representation, F_LINK_ordinal, F_LINK_representation, F_EMAIL_ordinal, F_EMAIL_representation, F_IM_HANDLE_ordinal, F_IM_HANDLE_representation, F_USER_ordinal, F_USER_representation, F_EMBEDDED_ENTITY_representation, F_LIST_representation⟩ := id HW
  have hx := Bd.exec
  have hby := Bd.bytes
  have hml : c.maxLocals = 5 := hml0
  have hown : s.vm.findClass "com/example/rooted_kinds/rootedkinds/model/ValueTypeIsIndexedPinLaw" = some m.cls := findClass_of_methodNamed Bd.named
  have hnm := (name_of_methodNamed Bd.named Bd.method).1
  have X0 : Stand p l e room_1 s m #[(.int p0)] below meth c s₁ [] 0 0 := Stand.of_body Bd
  have e0 : s₁.heap = h0 := by rw [← hh, Bd.state]; rfl
  have N0 := Fr.nil n0
  refine Go.out ?_
  refine Go.st (V' := s₁.setTop (mkF m 0 #[.val (.int p0), .unset, .unset, .unset, .unset] [])) (fun t k => castTop (ef0 m p0) k) ?_
  refine Go.st (V' := s₁.setTop (mkF m 2 #[.val (.int p0), .unset, .unset, .unset, .unset] [(.int (22 : Int32))])) (fun t k => ?_) ?_
  · refine XS.bipush X0.here hx rfl (hb hby at_0) ?_
    show Steps p.tables e below (s₁.setTop (mkF m 2 #[.val (.int p0), .unset, .unset, .unset, .unset] [(.int (22 : Int32))])) _
    exact k
  obtain ⟨T7, h7, k7, X7, e7, E7, A7, XA7, Ov7, st7⟩ := newRE X0 hx hZ hown (hw _ (List.mem_of_getElem? (i := 0) rfl)) (hw _ (List.mem_of_getElem? (i := 1) rfl)) e0 (g := (mkF m 2 #[.val (.int p0), .unset, .unset, .unset, .unset] [(.int (22 : Int32))])) rfl (hb hby at_2) rfl (by decide) (cap := 22) (by decide) (by decide) (by decide) (by decide) (ad := "[Lcom/example/rooted_kinds/rootedkinds/model/ValueType;") (by decide)
  obtain ⟨b7, g7⟩ : ∃ z, z = h0.size := ⟨_, rfl⟩
  rw [← g7] at A7 XA7 st7
  have g_b7 : n0 ≤ b7 := Nat.le_trans (Nat.le_trans (Nat.le_of_eq O0.1.symm) O0.2.1) (Nat.le_of_eq g7.symm)
  have O7 := O0.ext E7
  have V7 : Arv Z h7 b7 k7 (.object "com/example/rooted_kinds/rootedkinds/model/ValueType") (22 : Int32) [.null, .null, .null, .null, .null, .null, .null, .null, .null, .null, .null, .null, .null, .null, .null, .null, .null, .null, .null, .null, .null, .null] .null := (Arv.new A7 (by decide)).pad (pad_rep [] .null 22)
  refine Go.st (V' := T7.setTop (mkF m 5 #[.val (.int p0), .unset, .unset, .unset, .unset] [(.ref b7)])) (fun t k => st7 t k) ?_
  refine Go.st (V' := T7.setTop (mkF m 7 #[.val (.int p0), .unset, .unset, .unset, .unset] [(.int (0 : Int32)), (.ref b7), (.ref b7)])) (fun t k => ?_) ?_
  · refine XS.dup X7.here hx rfl (hb hby at_5) rfl rfl ?_
    show Steps p.tables e below (T7.setTop (mkF m 6 #[.val (.int p0), .unset, .unset, .unset, .unset] [(.ref b7), (.ref b7)])) _
    refine XS.iconst X7.here hx rfl (hb hby at_6) ?_
    show Steps p.tables e below (T7.setTop (mkF m 7 #[.val (.int p0), .unset, .unset, .unset, .unset] [(.int (0 : Int32)), (.ref b7), (.ref b7)])) _
    exact k
  obtain ⟨T8, X8, e8, st8⟩ := getS2 X7 hx hZ hown (host := "") (Or.inl (hw _ (List.mem_of_getElem? (i := 2) rfl))) Via.refl e7 (S_NULL.ext O7.2) (g := (mkF m 7 #[.val (.int p0), .unset, .unset, .unset, .unset] [(.int (0 : Int32)), (.ref b7), (.ref b7)])) rfl (hb hby at_7)
  refine Go.st (V' := T8.setTop (mkF m 10 #[.val (.int p0), .unset, .unset, .unset, .unset] [(.ref s_NULL), (.int (0 : Int32)), (.ref b7), (.ref b7)])) (fun t k => st8 t k) ?_
  obtain ⟨cl9, Ar9, q9, Sz9, Nn9, Ha9, Ga9⟩ := id (V7)
  obtain ⟨T10, h10, X10, e10, W10, st10⟩ := stR X8 hx hZ e8 Ar9 (j := (0 : Int32)) (inb_of Sz9 ⟨by decide, by decide⟩) rfl (Sto.ofV Ar9 q9 Ov7 (Ins.self (E_NULL.ext O7.2))) (g := (mkF m 10 #[.val (.int p0), .unset, .unset, .unset, .unset] [(.ref s_NULL), (.int (0 : Int32)), (.ref b7), (.ref b7)])) rfl rfl (hb hby at_10)
  have V10 : Arv Z h10 b7 k7 (.object "com/example/rooted_kinds/rootedkinds/model/ValueType") (22 : Int32) [(.ref s_NULL), .null, .null, .null, .null, .null, .null, .null, .null, .null, .null, .null, .null, .null, .null, .null, .null, .null, .null, .null, .null, .null] .null := Arv.set Ar9 q9 Sz9 Nn9 Ha9 Ga9 rfl W10 0 rfl (Nat.le_of_ble_eq_true rfl)
  have O10 := O7.wr W10 g_b7
  have N10 := Fr.snoc X10 N0 g_b7
  refine Go.st (V' := T10.setTop (mkF m 11 #[.val (.int p0), .unset, .unset, .unset, .unset] [(.ref b7)])) (fun t k => st10 t k) ?_
  refine Go.st (V' := T10.setTop (mkF m 13 #[.val (.int p0), .unset, .unset, .unset, .unset] [(.int (1 : Int32)), (.ref b7), (.ref b7)])) (fun t k => ?_) ?_
  · refine XS.dup X10.here hx rfl (hb hby at_11) rfl rfl ?_
    show Steps p.tables e below (T10.setTop (mkF m 12 #[.val (.int p0), .unset, .unset, .unset, .unset] [(.ref b7), (.ref b7)])) _
    refine XS.iconst X10.here hx rfl (hb hby at_12) ?_
    show Steps p.tables e below (T10.setTop (mkF m 13 #[.val (.int p0), .unset, .unset, .unset, .unset] [(.int (1 : Int32)), (.ref b7), (.ref b7)])) _
    exact k
  obtain ⟨T11, X11, e11, st11⟩ := getS2 X10 hx hZ hown (host := "") (Or.inl (hw _ (List.mem_of_getElem? (i := 6) rfl))) Via.refl e10 (S_LONG.ext O10.2) (g := (mkF m 13 #[.val (.int p0), .unset, .unset, .unset, .unset] [(.int (1 : Int32)), (.ref b7), (.ref b7)])) rfl (hb hby at_13)
  refine Go.st (V' := T11.setTop (mkF m 16 #[.val (.int p0), .unset, .unset, .unset, .unset] [(.ref s_LONG), (.int (1 : Int32)), (.ref b7), (.ref b7)])) (fun t k => st11 t k) ?_
  obtain ⟨cl12, Ar12, q12, Sz12, Nn12, Ha12, Ga12⟩ := id (V10)
  obtain ⟨T13, h13, X13, e13, W13, st13⟩ := stR X11 hx hZ e11 Ar12 (j := (1 : Int32)) (inb_of Sz12 ⟨by decide, by decide⟩) rfl (Sto.ofV Ar12 q12 Ov7 (Ins.self (E_LONG.ext O10.2))) (g := (mkF m 16 #[.val (.int p0), .unset, .unset, .unset, .unset] [(.ref s_LONG), (.int (1 : Int32)), (.ref b7), (.ref b7)])) rfl rfl (hb hby at_16)
  have V13 : Arv Z h13 b7 k7 (.object "com/example/rooted_kinds/rootedkinds/model/ValueType") (22 : Int32) [(.ref s_NULL), (.ref s_LONG), .null, .null, .null, .null, .null, .null, .null, .null, .null, .null, .null, .null, .null, .null, .null, .null, .null, .null, .null, .null] .null := Arv.set Ar12 q12 Sz12 Nn12 Ha12 Ga12 rfl W13 1 rfl (Nat.le_of_ble_eq_true rfl)
  have O13 := O10.wr W13 g_b7
  have N13 := Fr.snoc X13 N10 g_b7
  refine Go.st (V' := T13.setTop (mkF m 17 #[.val (.int p0), .unset, .unset, .unset, .unset] [(.ref b7)])) (fun t k => st13 t k) ?_
  refine Go.st (V' := T13.setTop (mkF m 19 #[.val (.int p0), .unset, .unset, .unset, .unset] [(.int (2 : Int32)), (.ref b7), (.ref b7)])) (fun t k => ?_) ?_
  · refine XS.dup X13.here hx rfl (hb hby at_17) rfl rfl ?_
    show Steps p.tables e below (T13.setTop (mkF m 18 #[.val (.int p0), .unset, .unset, .unset, .unset] [(.ref b7), (.ref b7)])) _
    refine XS.iconst X13.here hx rfl (hb hby at_18) ?_
    show Steps p.tables e below (T13.setTop (mkF m 19 #[.val (.int p0), .unset, .unset, .unset, .unset] [(.int (2 : Int32)), (.ref b7), (.ref b7)])) _
    exact k
  obtain ⟨T14, X14, e14, st14⟩ := getS2 X13 hx hZ hown (host := "") (Or.inl (hw _ (List.mem_of_getElem? (i := 8) rfl))) Via.refl e13 (S_DOUBLE.ext O13.2) (g := (mkF m 19 #[.val (.int p0), .unset, .unset, .unset, .unset] [(.int (2 : Int32)), (.ref b7), (.ref b7)])) rfl (hb hby at_19)
  refine Go.st (V' := T14.setTop (mkF m 22 #[.val (.int p0), .unset, .unset, .unset, .unset] [(.ref s_DOUBLE), (.int (2 : Int32)), (.ref b7), (.ref b7)])) (fun t k => st14 t k) ?_
  obtain ⟨cl15, Ar15, q15, Sz15, Nn15, Ha15, Ga15⟩ := id (V13)
  obtain ⟨T16, h16, X16, e16, W16, st16⟩ := stR X14 hx hZ e14 Ar15 (j := (2 : Int32)) (inb_of Sz15 ⟨by decide, by decide⟩) rfl (Sto.ofV Ar15 q15 Ov7 (Ins.self (E_DOUBLE.ext O13.2))) (g := (mkF m 22 #[.val (.int p0), .unset, .unset, .unset, .unset] [(.ref s_DOUBLE), (.int (2 : Int32)), (.ref b7), (.ref b7)])) rfl rfl (hb hby at_22)
  have V16 : Arv Z h16 b7 k7 (.object "com/example/rooted_kinds/rootedkinds/model/ValueType") (22 : Int32) [(.ref s_NULL), (.ref s_LONG), (.ref s_DOUBLE), .null, .null, .null, .null, .null, .null, .null, .null, .null, .null, .null, .null, .null, .null, .null, .null, .null, .null, .null] .null := Arv.set Ar15 q15 Sz15 Nn15 Ha15 Ga15 rfl W16 2 rfl (Nat.le_of_ble_eq_true rfl)
  have O16 := O13.wr W16 g_b7
  have N16 := Fr.snoc X16 N13 g_b7
  refine Go.st (V' := T16.setTop (mkF m 23 #[.val (.int p0), .unset, .unset, .unset, .unset] [(.ref b7)])) (fun t k => st16 t k) ?_
  refine Go.st (V' := T16.setTop (mkF m 25 #[.val (.int p0), .unset, .unset, .unset, .unset] [(.int (3 : Int32)), (.ref b7), (.ref b7)])) (fun t k => ?_) ?_
  · refine XS.dup X16.here hx rfl (hb hby at_23) rfl rfl ?_
    show Steps p.tables e below (T16.setTop (mkF m 24 #[.val (.int p0), .unset, .unset, .unset, .unset] [(.ref b7), (.ref b7)])) _
    refine XS.iconst X16.here hx rfl (hb hby at_24) ?_
    show Steps p.tables e below (T16.setTop (mkF m 25 #[.val (.int p0), .unset, .unset, .unset, .unset] [(.int (3 : Int32)), (.ref b7), (.ref b7)])) _
    exact k
  obtain ⟨T17, X17, e17, st17⟩ := getS2 X16 hx hZ hown (host := "") (Or.inl (hw _ (List.mem_of_getElem? (i := 10) rfl))) Via.refl e16 (S_BOOLEAN.ext O16.2) (g := (mkF m 25 #[.val (.int p0), .unset, .unset, .unset, .unset] [(.int (3 : Int32)), (.ref b7), (.ref b7)])) rfl (hb hby at_25)
  refine Go.st (V' := T17.setTop (mkF m 28 #[.val (.int p0), .unset, .unset, .unset, .unset] [(.ref s_BOOLEAN), (.int (3 : Int32)), (.ref b7), (.ref b7)])) (fun t k => st17 t k) ?_
  obtain ⟨cl18, Ar18, q18, Sz18, Nn18, Ha18, Ga18⟩ := id (V16)
  obtain ⟨T19, h19, X19, e19, W19, st19⟩ := stR X17 hx hZ e17 Ar18 (j := (3 : Int32)) (inb_of Sz18 ⟨by decide, by decide⟩) rfl (Sto.ofV Ar18 q18 Ov7 (Ins.self (E_BOOLEAN.ext O16.2))) (g := (mkF m 28 #[.val (.int p0), .unset, .unset, .unset, .unset] [(.ref s_BOOLEAN), (.int (3 : Int32)), (.ref b7), (.ref b7)])) rfl rfl (hb hby at_28)
  have V19 : Arv Z h19 b7 k7 (.object "com/example/rooted_kinds/rootedkinds/model/ValueType") (22 : Int32) [(.ref s_NULL), (.ref s_LONG), (.ref s_DOUBLE), (.ref s_BOOLEAN), .null, .null, .null, .null, .null, .null, .null, .null, .null, .null, .null, .null, .null, .null, .null, .null, .null, .null] .null := Arv.set Ar18 q18 Sz18 Nn18 Ha18 Ga18 rfl W19 3 rfl (Nat.le_of_ble_eq_true rfl)
  have O19 := O16.wr W19 g_b7
  have N19 := Fr.snoc X19 N16 g_b7
  refine Go.st (V' := T19.setTop (mkF m 29 #[.val (.int p0), .unset, .unset, .unset, .unset] [(.ref b7)])) (fun t k => st19 t k) ?_
  refine Go.st (V' := T19.setTop (mkF m 31 #[.val (.int p0), .unset, .unset, .unset, .unset] [(.int (4 : Int32)), (.ref b7), (.ref b7)])) (fun t k => ?_) ?_
  · refine XS.dup X19.here hx rfl (hb hby at_29) rfl rfl ?_
    show Steps p.tables e below (T19.setTop (mkF m 30 #[.val (.int p0), .unset, .unset, .unset, .unset] [(.ref b7), (.ref b7)])) _
    refine XS.iconst X19.here hx rfl (hb hby at_30) ?_
    show Steps p.tables e below (T19.setTop (mkF m 31 #[.val (.int p0), .unset, .unset, .unset, .unset] [(.int (4 : Int32)), (.ref b7), (.ref b7)])) _
    exact k
  obtain ⟨T20, X20, e20, st20⟩ := getS2 X19 hx hZ hown (host := "") (Or.inl (hw _ (List.mem_of_getElem? (i := 12) rfl))) Via.refl e19 (S_STRING.ext O19.2) (g := (mkF m 31 #[.val (.int p0), .unset, .unset, .unset, .unset] [(.int (4 : Int32)), (.ref b7), (.ref b7)])) rfl (hb hby at_31)
  refine Go.st (V' := T20.setTop (mkF m 34 #[.val (.int p0), .unset, .unset, .unset, .unset] [(.ref s_STRING), (.int (4 : Int32)), (.ref b7), (.ref b7)])) (fun t k => st20 t k) ?_
  obtain ⟨cl21, Ar21, q21, Sz21, Nn21, Ha21, Ga21⟩ := id (V19)
  obtain ⟨T22, h22, X22, e22, W22, st22⟩ := stR X20 hx hZ e20 Ar21 (j := (4 : Int32)) (inb_of Sz21 ⟨by decide, by decide⟩) rfl (Sto.ofV Ar21 q21 Ov7 (Ins.self (E_STRING.ext O19.2))) (g := (mkF m 34 #[.val (.int p0), .unset, .unset, .unset, .unset] [(.ref s_STRING), (.int (4 : Int32)), (.ref b7), (.ref b7)])) rfl rfl (hb hby at_34)
  have V22 : Arv Z h22 b7 k7 (.object "com/example/rooted_kinds/rootedkinds/model/ValueType") (22 : Int32) [(.ref s_NULL), (.ref s_LONG), (.ref s_DOUBLE), (.ref s_BOOLEAN), (.ref s_STRING), .null, .null, .null, .null, .null, .null, .null, .null, .null, .null, .null, .null, .null, .null, .null, .null, .null] .null := Arv.set Ar21 q21 Sz21 Nn21 Ha21 Ga21 rfl W22 4 rfl (Nat.le_of_ble_eq_true rfl)
  have O22 := O19.wr W22 g_b7
  have N22 := Fr.snoc X22 N19 g_b7
  refine Go.st (V' := T22.setTop (mkF m 35 #[.val (.int p0), .unset, .unset, .unset, .unset] [(.ref b7)])) (fun t k => st22 t k) ?_
  refine Go.st (V' := T22.setTop (mkF m 37 #[.val (.int p0), .unset, .unset, .unset, .unset] [(.int (5 : Int32)), (.ref b7), (.ref b7)])) (fun t k => ?_) ?_
  · refine XS.dup X22.here hx rfl (hb hby at_35) rfl rfl ?_
    show Steps p.tables e below (T22.setTop (mkF m 36 #[.val (.int p0), .unset, .unset, .unset, .unset] [(.ref b7), (.ref b7)])) _
    refine XS.iconst X22.here hx rfl (hb hby at_36) ?_
    show Steps p.tables e below (T22.setTop (mkF m 37 #[.val (.int p0), .unset, .unset, .unset, .unset] [(.int (5 : Int32)), (.ref b7), (.ref b7)])) _
    exact k
  obtain ⟨T23, X23, e23, st23⟩ := getS2 X22 hx hZ hown (host := "") (Or.inl (hw _ (List.mem_of_getElem? (i := 14) rfl))) Via.refl e22 (S_DATE.ext O22.2) (g := (mkF m 37 #[.val (.int p0), .unset, .unset, .unset, .unset] [(.int (5 : Int32)), (.ref b7), (.ref b7)])) rfl (hb hby at_37)
  refine Go.st (V' := T23.setTop (mkF m 40 #[.val (.int p0), .unset, .unset, .unset, .unset] [(.ref s_DATE), (.int (5 : Int32)), (.ref b7), (.ref b7)])) (fun t k => st23 t k) ?_
  obtain ⟨cl24, Ar24, q24, Sz24, Nn24, Ha24, Ga24⟩ := id (V22)
  obtain ⟨T25, h25, X25, e25, W25, st25⟩ := stR X23 hx hZ e23 Ar24 (j := (5 : Int32)) (inb_of Sz24 ⟨by decide, by decide⟩) rfl (Sto.ofV Ar24 q24 Ov7 (Ins.self (E_DATE.ext O22.2))) (g := (mkF m 40 #[.val (.int p0), .unset, .unset, .unset, .unset] [(.ref s_DATE), (.int (5 : Int32)), (.ref b7), (.ref b7)])) rfl rfl (hb hby at_40)
  have V25 : Arv Z h25 b7 k7 (.object "com/example/rooted_kinds/rootedkinds/model/ValueType") (22 : Int32) [(.ref s_NULL), (.ref s_LONG), (.ref s_DOUBLE), (.ref s_BOOLEAN), (.ref s_STRING), (.ref s_DATE), .null, .null, .null, .null, .null, .null, .null, .null, .null, .null, .null, .null, .null, .null, .null, .null] .null := Arv.set Ar24 q24 Sz24 Nn24 Ha24 Ga24 rfl W25 5 rfl (Nat.le_of_ble_eq_true rfl)
  have O25 := O22.wr W25 g_b7
  have N25 := Fr.snoc X25 N22 g_b7
  refine Go.st (V' := T25.setTop (mkF m 41 #[.val (.int p0), .unset, .unset, .unset, .unset] [(.ref b7)])) (fun t k => st25 t k) ?_
  refine Go.st (V' := T25.setTop (mkF m 44 #[.val (.int p0), .unset, .unset, .unset, .unset] [(.int (6 : Int32)), (.ref b7), (.ref b7)])) (fun t k => ?_) ?_
  · refine XS.dup X25.here hx rfl (hb hby at_41) rfl rfl ?_
    show Steps p.tables e below (T25.setTop (mkF m 42 #[.val (.int p0), .unset, .unset, .unset, .unset] [(.ref b7), (.ref b7)])) _
    refine XS.bipush X25.here hx rfl (hb hby at_42) ?_
    show Steps p.tables e below (T25.setTop (mkF m 44 #[.val (.int p0), .unset, .unset, .unset, .unset] [(.int (6 : Int32)), (.ref b7), (.ref b7)])) _
    exact k
  obtain ⟨T26, X26, e26, st26⟩ := getS2 X25 hx hZ hown (host := "") (Or.inl (hw _ (List.mem_of_getElem? (i := 16) rfl))) Via.refl e25 (S_TEXT.ext O25.2) (g := (mkF m 44 #[.val (.int p0), .unset, .unset, .unset, .unset] [(.int (6 : Int32)), (.ref b7), (.ref b7)])) rfl (hb hby at_44)
  refine Go.st (V' := T26.setTop (mkF m 47 #[.val (.int p0), .unset, .unset, .unset, .unset] [(.ref s_TEXT), (.int (6 : Int32)), (.ref b7), (.ref b7)])) (fun t k => st26 t k) ?_
  obtain ⟨cl27, Ar27, q27, Sz27, Nn27, Ha27, Ga27⟩ := id (V25)
  obtain ⟨T28, h28, X28, e28, W28, st28⟩ := stR X26 hx hZ e26 Ar27 (j := (6 : Int32)) (inb_of Sz27 ⟨by decide, by decide⟩) rfl (Sto.ofV Ar27 q27 Ov7 (Ins.self (E_TEXT.ext O25.2))) (g := (mkF m 47 #[.val (.int p0), .unset, .unset, .unset, .unset] [(.ref s_TEXT), (.int (6 : Int32)), (.ref b7), (.ref b7)])) rfl rfl (hb hby at_47)
  have V28 : Arv Z h28 b7 k7 (.object "com/example/rooted_kinds/rootedkinds/model/ValueType") (22 : Int32) [(.ref s_NULL), (.ref s_LONG), (.ref s_DOUBLE), (.ref s_BOOLEAN), (.ref s_STRING), (.ref s_DATE), (.ref s_TEXT), .null, .null, .null, .null, .null, .null, .null, .null, .null, .null, .null, .null, .null, .null, .null] .null := Arv.set Ar27 q27 Sz27 Nn27 Ha27 Ga27 rfl W28 6 rfl (Nat.le_of_ble_eq_true rfl)
  have O28 := O25.wr W28 g_b7
  have N28 := Fr.snoc X28 N25 g_b7
  refine Go.st (V' := T28.setTop (mkF m 48 #[.val (.int p0), .unset, .unset, .unset, .unset] [(.ref b7)])) (fun t k => st28 t k) ?_
  refine Go.st (V' := T28.setTop (mkF m 51 #[.val (.int p0), .unset, .unset, .unset, .unset] [(.int (7 : Int32)), (.ref b7), (.ref b7)])) (fun t k => ?_) ?_
  · refine XS.dup X28.here hx rfl (hb hby at_48) rfl rfl ?_
    show Steps p.tables e below (T28.setTop (mkF m 49 #[.val (.int p0), .unset, .unset, .unset, .unset] [(.ref b7), (.ref b7)])) _
    refine XS.bipush X28.here hx rfl (hb hby at_49) ?_
    show Steps p.tables e below (T28.setTop (mkF m 51 #[.val (.int p0), .unset, .unset, .unset, .unset] [(.int (7 : Int32)), (.ref b7), (.ref b7)])) _
    exact k
  obtain ⟨T29, X29, e29, st29⟩ := getS2 X28 hx hZ hown (host := "") (Or.inl (hw _ (List.mem_of_getElem? (i := 18) rfl))) Via.refl e28 (S_BLOB.ext O28.2) (g := (mkF m 51 #[.val (.int p0), .unset, .unset, .unset, .unset] [(.int (7 : Int32)), (.ref b7), (.ref b7)])) rfl (hb hby at_51)
  refine Go.st (V' := T29.setTop (mkF m 54 #[.val (.int p0), .unset, .unset, .unset, .unset] [(.ref s_BLOB), (.int (7 : Int32)), (.ref b7), (.ref b7)])) (fun t k => st29 t k) ?_
  obtain ⟨cl30, Ar30, q30, Sz30, Nn30, Ha30, Ga30⟩ := id (V28)
  obtain ⟨T31, h31, X31, e31, W31, st31⟩ := stR X29 hx hZ e29 Ar30 (j := (7 : Int32)) (inb_of Sz30 ⟨by decide, by decide⟩) rfl (Sto.ofV Ar30 q30 Ov7 (Ins.self (E_BLOB.ext O28.2))) (g := (mkF m 54 #[.val (.int p0), .unset, .unset, .unset, .unset] [(.ref s_BLOB), (.int (7 : Int32)), (.ref b7), (.ref b7)])) rfl rfl (hb hby at_54)
  have V31 : Arv Z h31 b7 k7 (.object "com/example/rooted_kinds/rootedkinds/model/ValueType") (22 : Int32) [(.ref s_NULL), (.ref s_LONG), (.ref s_DOUBLE), (.ref s_BOOLEAN), (.ref s_STRING), (.ref s_DATE), (.ref s_TEXT), (.ref s_BLOB), .null, .null, .null, .null, .null, .null, .null, .null, .null, .null, .null, .null, .null, .null] .null := Arv.set Ar30 q30 Sz30 Nn30 Ha30 Ga30 rfl W31 7 rfl (Nat.le_of_ble_eq_true rfl)
  have O31 := O28.wr W31 g_b7
  have N31 := Fr.snoc X31 N28 g_b7
  refine Go.st (V' := T31.setTop (mkF m 55 #[.val (.int p0), .unset, .unset, .unset, .unset] [(.ref b7)])) (fun t k => st31 t k) ?_
  refine Go.st (V' := T31.setTop (mkF m 58 #[.val (.int p0), .unset, .unset, .unset, .unset] [(.int (8 : Int32)), (.ref b7), (.ref b7)])) (fun t k => ?_) ?_
  · refine XS.dup X31.here hx rfl (hb hby at_55) rfl rfl ?_
    show Steps p.tables e below (T31.setTop (mkF m 56 #[.val (.int p0), .unset, .unset, .unset, .unset] [(.ref b7), (.ref b7)])) _
    refine XS.bipush X31.here hx rfl (hb hby at_56) ?_
    show Steps p.tables e below (T31.setTop (mkF m 58 #[.val (.int p0), .unset, .unset, .unset, .unset] [(.int (8 : Int32)), (.ref b7), (.ref b7)])) _
    exact k
  obtain ⟨T32, X32, e32, st32⟩ := getS2 X31 hx hZ hown (host := "") (Or.inl (hw _ (List.mem_of_getElem? (i := 20) rfl))) Via.refl e31 (S_SHORT_BLOB.ext O31.2) (g := (mkF m 58 #[.val (.int p0), .unset, .unset, .unset, .unset] [(.int (8 : Int32)), (.ref b7), (.ref b7)])) rfl (hb hby at_58)
  refine Go.st (V' := T32.setTop (mkF m 61 #[.val (.int p0), .unset, .unset, .unset, .unset] [(.ref s_SHORT_BLOB), (.int (8 : Int32)), (.ref b7), (.ref b7)])) (fun t k => st32 t k) ?_
  obtain ⟨cl33, Ar33, q33, Sz33, Nn33, Ha33, Ga33⟩ := id (V31)
  obtain ⟨T34, h34, X34, e34, W34, st34⟩ := stR X32 hx hZ e32 Ar33 (j := (8 : Int32)) (inb_of Sz33 ⟨by decide, by decide⟩) rfl (Sto.ofV Ar33 q33 Ov7 (Ins.self (E_SHORT_BLOB.ext O31.2))) (g := (mkF m 61 #[.val (.int p0), .unset, .unset, .unset, .unset] [(.ref s_SHORT_BLOB), (.int (8 : Int32)), (.ref b7), (.ref b7)])) rfl rfl (hb hby at_61)
  have V34 : Arv Z h34 b7 k7 (.object "com/example/rooted_kinds/rootedkinds/model/ValueType") (22 : Int32) [(.ref s_NULL), (.ref s_LONG), (.ref s_DOUBLE), (.ref s_BOOLEAN), (.ref s_STRING), (.ref s_DATE), (.ref s_TEXT), (.ref s_BLOB), (.ref s_SHORT_BLOB), .null, .null, .null, .null, .null, .null, .null, .null, .null, .null, .null, .null, .null] .null := Arv.set Ar33 q33 Sz33 Nn33 Ha33 Ga33 rfl W34 8 rfl (Nat.le_of_ble_eq_true rfl)
  have O34 := O31.wr W34 g_b7
  have N34 := Fr.snoc X34 N31 g_b7
  refine Go.st (V' := T34.setTop (mkF m 62 #[.val (.int p0), .unset, .unset, .unset, .unset] [(.ref b7)])) (fun t k => st34 t k) ?_
  refine Go.st (V' := T34.setTop (mkF m 65 #[.val (.int p0), .unset, .unset, .unset, .unset] [(.int (9 : Int32)), (.ref b7), (.ref b7)])) (fun t k => ?_) ?_
  · refine XS.dup X34.here hx rfl (hb hby at_62) rfl rfl ?_
    show Steps p.tables e below (T34.setTop (mkF m 63 #[.val (.int p0), .unset, .unset, .unset, .unset] [(.ref b7), (.ref b7)])) _
    refine XS.bipush X34.here hx rfl (hb hby at_63) ?_
    show Steps p.tables e below (T34.setTop (mkF m 65 #[.val (.int p0), .unset, .unset, .unset, .unset] [(.int (9 : Int32)), (.ref b7), (.ref b7)])) _
    exact k
  obtain ⟨T35, X35, e35, st35⟩ := getS2 X34 hx hZ hown (host := "") (Or.inl (hw _ (List.mem_of_getElem? (i := 22) rfl))) Via.refl e34 (S_GEO_PT.ext O34.2) (g := (mkF m 65 #[.val (.int p0), .unset, .unset, .unset, .unset] [(.int (9 : Int32)), (.ref b7), (.ref b7)])) rfl (hb hby at_65)
  refine Go.st (V' := T35.setTop (mkF m 68 #[.val (.int p0), .unset, .unset, .unset, .unset] [(.ref s_GEO_PT), (.int (9 : Int32)), (.ref b7), (.ref b7)])) (fun t k => st35 t k) ?_
  obtain ⟨cl36, Ar36, q36, Sz36, Nn36, Ha36, Ga36⟩ := id (V34)
  obtain ⟨T37, h37, X37, e37, W37, st37⟩ := stR X35 hx hZ e35 Ar36 (j := (9 : Int32)) (inb_of Sz36 ⟨by decide, by decide⟩) rfl (Sto.ofV Ar36 q36 Ov7 (Ins.self (E_GEO_PT.ext O34.2))) (g := (mkF m 68 #[.val (.int p0), .unset, .unset, .unset, .unset] [(.ref s_GEO_PT), (.int (9 : Int32)), (.ref b7), (.ref b7)])) rfl rfl (hb hby at_68)
  have V37 : Arv Z h37 b7 k7 (.object "com/example/rooted_kinds/rootedkinds/model/ValueType") (22 : Int32) [(.ref s_NULL), (.ref s_LONG), (.ref s_DOUBLE), (.ref s_BOOLEAN), (.ref s_STRING), (.ref s_DATE), (.ref s_TEXT), (.ref s_BLOB), (.ref s_SHORT_BLOB), (.ref s_GEO_PT), .null, .null, .null, .null, .null, .null, .null, .null, .null, .null, .null, .null] .null := Arv.set Ar36 q36 Sz36 Nn36 Ha36 Ga36 rfl W37 9 rfl (Nat.le_of_ble_eq_true rfl)
  have O37 := O34.wr W37 g_b7
  have N37 := Fr.snoc X37 N34 g_b7
  refine Go.st (V' := T37.setTop (mkF m 69 #[.val (.int p0), .unset, .unset, .unset, .unset] [(.ref b7)])) (fun t k => st37 t k) ?_
  refine Go.st (V' := T37.setTop (mkF m 72 #[.val (.int p0), .unset, .unset, .unset, .unset] [(.int (10 : Int32)), (.ref b7), (.ref b7)])) (fun t k => ?_) ?_
  · refine XS.dup X37.here hx rfl (hb hby at_69) rfl rfl ?_
    show Steps p.tables e below (T37.setTop (mkF m 70 #[.val (.int p0), .unset, .unset, .unset, .unset] [(.ref b7), (.ref b7)])) _
    refine XS.bipush X37.here hx rfl (hb hby at_70) ?_
    show Steps p.tables e below (T37.setTop (mkF m 72 #[.val (.int p0), .unset, .unset, .unset, .unset] [(.int (10 : Int32)), (.ref b7), (.ref b7)])) _
    exact k
  obtain ⟨T38, X38, e38, st38⟩ := getS2 X37 hx hZ hown (host := "") (Or.inl (hw _ (List.mem_of_getElem? (i := 24) rfl))) Via.refl e37 (S_POSTAL_ADDRESS.ext O37.2) (g := (mkF m 72 #[.val (.int p0), .unset, .unset, .unset, .unset] [(.int (10 : Int32)), (.ref b7), (.ref b7)])) rfl (hb hby at_72)
  refine Go.st (V' := T38.setTop (mkF m 75 #[.val (.int p0), .unset, .unset, .unset, .unset] [(.ref s_POSTAL_ADDRESS), (.int (10 : Int32)), (.ref b7), (.ref b7)])) (fun t k => st38 t k) ?_
  obtain ⟨cl39, Ar39, q39, Sz39, Nn39, Ha39, Ga39⟩ := id (V37)
  obtain ⟨T40, h40, X40, e40, W40, st40⟩ := stR X38 hx hZ e38 Ar39 (j := (10 : Int32)) (inb_of Sz39 ⟨by decide, by decide⟩) rfl (Sto.ofV Ar39 q39 Ov7 (Ins.self (E_POSTAL_ADDRESS.ext O37.2))) (g := (mkF m 75 #[.val (.int p0), .unset, .unset, .unset, .unset] [(.ref s_POSTAL_ADDRESS), (.int (10 : Int32)), (.ref b7), (.ref b7)])) rfl rfl (hb hby at_75)
  have V40 : Arv Z h40 b7 k7 (.object "com/example/rooted_kinds/rootedkinds/model/ValueType") (22 : Int32) [(.ref s_NULL), (.ref s_LONG), (.ref s_DOUBLE), (.ref s_BOOLEAN), (.ref s_STRING), (.ref s_DATE), (.ref s_TEXT), (.ref s_BLOB), (.ref s_SHORT_BLOB), (.ref s_GEO_PT), (.ref s_POSTAL_ADDRESS), .null, .null, .null, .null, .null, .null, .null, .null, .null, .null, .null] .null := Arv.set Ar39 q39 Sz39 Nn39 Ha39 Ga39 rfl W40 10 rfl (Nat.le_of_ble_eq_true rfl)
  have O40 := O37.wr W40 g_b7
  have N40 := Fr.snoc X40 N37 g_b7
  refine Go.st (V' := T40.setTop (mkF m 76 #[.val (.int p0), .unset, .unset, .unset, .unset] [(.ref b7)])) (fun t k => st40 t k) ?_
  refine Go.st (V' := T40.setTop (mkF m 79 #[.val (.int p0), .unset, .unset, .unset, .unset] [(.int (11 : Int32)), (.ref b7), (.ref b7)])) (fun t k => ?_) ?_
  · refine XS.dup X40.here hx rfl (hb hby at_76) rfl rfl ?_
    show Steps p.tables e below (T40.setTop (mkF m 77 #[.val (.int p0), .unset, .unset, .unset, .unset] [(.ref b7), (.ref b7)])) _
    refine XS.bipush X40.here hx rfl (hb hby at_77) ?_
    show Steps p.tables e below (T40.setTop (mkF m 79 #[.val (.int p0), .unset, .unset, .unset, .unset] [(.int (11 : Int32)), (.ref b7), (.ref b7)])) _
    exact k
  obtain ⟨T41, X41, e41, st41⟩ := getS2 X40 hx hZ hown (host := "") (Or.inl (hw _ (List.mem_of_getElem? (i := 26) rfl))) Via.refl e40 (S_PHONE_NUMBER.ext O40.2) (g := (mkF m 79 #[.val (.int p0), .unset, .unset, .unset, .unset] [(.int (11 : Int32)), (.ref b7), (.ref b7)])) rfl (hb hby at_79)
  refine Go.st (V' := T41.setTop (mkF m 82 #[.val (.int p0), .unset, .unset, .unset, .unset] [(.ref s_PHONE_NUMBER), (.int (11 : Int32)), (.ref b7), (.ref b7)])) (fun t k => st41 t k) ?_
  obtain ⟨cl42, Ar42, q42, Sz42, Nn42, Ha42, Ga42⟩ := id (V40)
  obtain ⟨T43, h43, X43, e43, W43, st43⟩ := stR X41 hx hZ e41 Ar42 (j := (11 : Int32)) (inb_of Sz42 ⟨by decide, by decide⟩) rfl (Sto.ofV Ar42 q42 Ov7 (Ins.self (E_PHONE_NUMBER.ext O40.2))) (g := (mkF m 82 #[.val (.int p0), .unset, .unset, .unset, .unset] [(.ref s_PHONE_NUMBER), (.int (11 : Int32)), (.ref b7), (.ref b7)])) rfl rfl (hb hby at_82)
  have V43 : Arv Z h43 b7 k7 (.object "com/example/rooted_kinds/rootedkinds/model/ValueType") (22 : Int32) [(.ref s_NULL), (.ref s_LONG), (.ref s_DOUBLE), (.ref s_BOOLEAN), (.ref s_STRING), (.ref s_DATE), (.ref s_TEXT), (.ref s_BLOB), (.ref s_SHORT_BLOB), (.ref s_GEO_PT), (.ref s_POSTAL_ADDRESS), (.ref s_PHONE_NUMBER), .null, .null, .null, .null, .null, .null, .null, .null, .null, .null] .null := Arv.set Ar42 q42 Sz42 Nn42 Ha42 Ga42 rfl W43 11 rfl (Nat.le_of_ble_eq_true rfl)
  have O43 := O40.wr W43 g_b7
  have N43 := Fr.snoc X43 N40 g_b7
  refine Go.st (V' := T43.setTop (mkF m 83 #[.val (.int p0), .unset, .unset, .unset, .unset] [(.ref b7)])) (fun t k => st43 t k) ?_
  refine Go.st (V' := T43.setTop (mkF m 86 #[.val (.int p0), .unset, .unset, .unset, .unset] [(.int (12 : Int32)), (.ref b7), (.ref b7)])) (fun t k => ?_) ?_
  · refine XS.dup X43.here hx rfl (hb hby at_83) rfl rfl ?_
    show Steps p.tables e below (T43.setTop (mkF m 84 #[.val (.int p0), .unset, .unset, .unset, .unset] [(.ref b7), (.ref b7)])) _
    refine XS.bipush X43.here hx rfl (hb hby at_84) ?_
    show Steps p.tables e below (T43.setTop (mkF m 86 #[.val (.int p0), .unset, .unset, .unset, .unset] [(.int (12 : Int32)), (.ref b7), (.ref b7)])) _
    exact k
  obtain ⟨T44, X44, e44, st44⟩ := getS2 X43 hx hZ hown (host := "") (Or.inl (hw _ (List.mem_of_getElem? (i := 28) rfl))) Via.refl e43 (S_EMAIL.ext O43.2) (g := (mkF m 86 #[.val (.int p0), .unset, .unset, .unset, .unset] [(.int (12 : Int32)), (.ref b7), (.ref b7)])) rfl (hb hby at_86)
  refine Go.st (V' := T44.setTop (mkF m 89 #[.val (.int p0), .unset, .unset, .unset, .unset] [(.ref s_EMAIL), (.int (12 : Int32)), (.ref b7), (.ref b7)])) (fun t k => st44 t k) ?_
  obtain ⟨cl45, Ar45, q45, Sz45, Nn45, Ha45, Ga45⟩ := id (V43)
  obtain ⟨T46, h46, X46, e46, W46, st46⟩ := stR X44 hx hZ e44 Ar45 (j := (12 : Int32)) (inb_of Sz45 ⟨by decide, by decide⟩) rfl (Sto.ofV Ar45 q45 Ov7 (Ins.self (E_EMAIL.ext O43.2))) (g := (mkF m 89 #[.val (.int p0), .unset, .unset, .unset, .unset] [(.ref s_EMAIL), (.int (12 : Int32)), (.ref b7), (.ref b7)])) rfl rfl (hb hby at_89)
  have V46 : Arv Z h46 b7 k7 (.object "com/example/rooted_kinds/rootedkinds/model/ValueType") (22 : Int32) [(.ref s_NULL), (.ref s_LONG), (.ref s_DOUBLE), (.ref s_BOOLEAN), (.ref s_STRING), (.ref s_DATE), (.ref s_TEXT), (.ref s_BLOB), (.ref s_SHORT_BLOB), (.ref s_GEO_PT), (.ref s_POSTAL_ADDRESS), (.ref s_PHONE_NUMBER), (.ref s_EMAIL), .null, .null, .null, .null, .null, .null, .null, .null, .null] .null := Arv.set Ar45 q45 Sz45 Nn45 Ha45 Ga45 rfl W46 12 rfl (Nat.le_of_ble_eq_true rfl)
  have O46 := O43.wr W46 g_b7
  have N46 := Fr.snoc X46 N43 g_b7
  refine Go.st (V' := T46.setTop (mkF m 90 #[.val (.int p0), .unset, .unset, .unset, .unset] [(.ref b7)])) (fun t k => st46 t k) ?_
  refine Go.st (V' := T46.setTop (mkF m 93 #[.val (.int p0), .unset, .unset, .unset, .unset] [(.int (13 : Int32)), (.ref b7), (.ref b7)])) (fun t k => ?_) ?_
  · refine XS.dup X46.here hx rfl (hb hby at_90) rfl rfl ?_
    show Steps p.tables e below (T46.setTop (mkF m 91 #[.val (.int p0), .unset, .unset, .unset, .unset] [(.ref b7), (.ref b7)])) _
    refine XS.bipush X46.here hx rfl (hb hby at_91) ?_
    show Steps p.tables e below (T46.setTop (mkF m 93 #[.val (.int p0), .unset, .unset, .unset, .unset] [(.int (13 : Int32)), (.ref b7), (.ref b7)])) _
    exact k
  obtain ⟨T47, X47, e47, st47⟩ := getS2 X46 hx hZ hown (host := "") (Or.inl (hw _ (List.mem_of_getElem? (i := 30) rfl))) Via.refl e46 (S_IM_HANDLE.ext O46.2) (g := (mkF m 93 #[.val (.int p0), .unset, .unset, .unset, .unset] [(.int (13 : Int32)), (.ref b7), (.ref b7)])) rfl (hb hby at_93)
  refine Go.st (V' := T47.setTop (mkF m 96 #[.val (.int p0), .unset, .unset, .unset, .unset] [(.ref s_IM_HANDLE), (.int (13 : Int32)), (.ref b7), (.ref b7)])) (fun t k => st47 t k) ?_
  obtain ⟨cl48, Ar48, q48, Sz48, Nn48, Ha48, Ga48⟩ := id (V46)
  obtain ⟨T49, h49, X49, e49, W49, st49⟩ := stR X47 hx hZ e47 Ar48 (j := (13 : Int32)) (inb_of Sz48 ⟨by decide, by decide⟩) rfl (Sto.ofV Ar48 q48 Ov7 (Ins.self (E_IM_HANDLE.ext O46.2))) (g := (mkF m 96 #[.val (.int p0), .unset, .unset, .unset, .unset] [(.ref s_IM_HANDLE), (.int (13 : Int32)), (.ref b7), (.ref b7)])) rfl rfl (hb hby at_96)
  have V49 : Arv Z h49 b7 k7 (.object "com/example/rooted_kinds/rootedkinds/model/ValueType") (22 : Int32) [(.ref s_NULL), (.ref s_LONG), (.ref s_DOUBLE), (.ref s_BOOLEAN), (.ref s_STRING), (.ref s_DATE), (.ref s_TEXT), (.ref s_BLOB), (.ref s_SHORT_BLOB), (.ref s_GEO_PT), (.ref s_POSTAL_ADDRESS), (.ref s_PHONE_NUMBER), (.ref s_EMAIL), (.ref s_IM_HANDLE), .null, .null, .null, .null, .null, .null, .null, .null] .null := Arv.set Ar48 q48 Sz48 Nn48 Ha48 Ga48 rfl W49 13 rfl (Nat.le_of_ble_eq_true rfl)
  have O49 := O46.wr W49 g_b7
  have N49 := Fr.snoc X49 N46 g_b7
  refine Go.st (V' := T49.setTop (mkF m 97 #[.val (.int p0), .unset, .unset, .unset, .unset] [(.ref b7)])) (fun t k => st49 t k) ?_
  refine Go.st (V' := T49.setTop (mkF m 100 #[.val (.int p0), .unset, .unset, .unset, .unset] [(.int (14 : Int32)), (.ref b7), (.ref b7)])) (fun t k => ?_) ?_
  · refine XS.dup X49.here hx rfl (hb hby at_97) rfl rfl ?_
    show Steps p.tables e below (T49.setTop (mkF m 98 #[.val (.int p0), .unset, .unset, .unset, .unset] [(.ref b7), (.ref b7)])) _
    refine XS.bipush X49.here hx rfl (hb hby at_98) ?_
    show Steps p.tables e below (T49.setTop (mkF m 100 #[.val (.int p0), .unset, .unset, .unset, .unset] [(.int (14 : Int32)), (.ref b7), (.ref b7)])) _
    exact k
  obtain ⟨T50, X50, e50, st50⟩ := getS2 X49 hx hZ hown (host := "") (Or.inl (hw _ (List.mem_of_getElem? (i := 32) rfl))) Via.refl e49 (S_LINK.ext O49.2) (g := (mkF m 100 #[.val (.int p0), .unset, .unset, .unset, .unset] [(.int (14 : Int32)), (.ref b7), (.ref b7)])) rfl (hb hby at_100)
  refine Go.st (V' := T50.setTop (mkF m 103 #[.val (.int p0), .unset, .unset, .unset, .unset] [(.ref s_LINK), (.int (14 : Int32)), (.ref b7), (.ref b7)])) (fun t k => st50 t k) ?_
  obtain ⟨cl51, Ar51, q51, Sz51, Nn51, Ha51, Ga51⟩ := id (V49)
  obtain ⟨T52, h52, X52, e52, W52, st52⟩ := stR X50 hx hZ e50 Ar51 (j := (14 : Int32)) (inb_of Sz51 ⟨by decide, by decide⟩) rfl (Sto.ofV Ar51 q51 Ov7 (Ins.self (E_LINK.ext O49.2))) (g := (mkF m 103 #[.val (.int p0), .unset, .unset, .unset, .unset] [(.ref s_LINK), (.int (14 : Int32)), (.ref b7), (.ref b7)])) rfl rfl (hb hby at_103)
  have V52 : Arv Z h52 b7 k7 (.object "com/example/rooted_kinds/rootedkinds/model/ValueType") (22 : Int32) [(.ref s_NULL), (.ref s_LONG), (.ref s_DOUBLE), (.ref s_BOOLEAN), (.ref s_STRING), (.ref s_DATE), (.ref s_TEXT), (.ref s_BLOB), (.ref s_SHORT_BLOB), (.ref s_GEO_PT), (.ref s_POSTAL_ADDRESS), (.ref s_PHONE_NUMBER), (.ref s_EMAIL), (.ref s_IM_HANDLE), (.ref s_LINK), .null, .null, .null, .null, .null, .null, .null] .null := Arv.set Ar51 q51 Sz51 Nn51 Ha51 Ga51 rfl W52 14 rfl (Nat.le_of_ble_eq_true rfl)
  have O52 := O49.wr W52 g_b7
  have N52 := Fr.snoc X52 N49 g_b7
  refine Go.st (V' := T52.setTop (mkF m 104 #[.val (.int p0), .unset, .unset, .unset, .unset] [(.ref b7)])) (fun t k => st52 t k) ?_
  refine Go.st (V' := T52.setTop (mkF m 107 #[.val (.int p0), .unset, .unset, .unset, .unset] [(.int (15 : Int32)), (.ref b7), (.ref b7)])) (fun t k => ?_) ?_
  · refine XS.dup X52.here hx rfl (hb hby at_104) rfl rfl ?_
    show Steps p.tables e below (T52.setTop (mkF m 105 #[.val (.int p0), .unset, .unset, .unset, .unset] [(.ref b7), (.ref b7)])) _
    refine XS.bipush X52.here hx rfl (hb hby at_105) ?_
    show Steps p.tables e below (T52.setTop (mkF m 107 #[.val (.int p0), .unset, .unset, .unset, .unset] [(.int (15 : Int32)), (.ref b7), (.ref b7)])) _
    exact k
  obtain ⟨T53, X53, e53, st53⟩ := getS2 X52 hx hZ hown (host := "") (Or.inl (hw _ (List.mem_of_getElem? (i := 34) rfl))) Via.refl e52 (S_CATEGORY.ext O52.2) (g := (mkF m 107 #[.val (.int p0), .unset, .unset, .unset, .unset] [(.int (15 : Int32)), (.ref b7), (.ref b7)])) rfl (hb hby at_107)
  refine Go.st (V' := T53.setTop (mkF m 110 #[.val (.int p0), .unset, .unset, .unset, .unset] [(.ref s_CATEGORY), (.int (15 : Int32)), (.ref b7), (.ref b7)])) (fun t k => st53 t k) ?_
  obtain ⟨cl54, Ar54, q54, Sz54, Nn54, Ha54, Ga54⟩ := id (V52)
  obtain ⟨T55, h55, X55, e55, W55, st55⟩ := stR X53 hx hZ e53 Ar54 (j := (15 : Int32)) (inb_of Sz54 ⟨by decide, by decide⟩) rfl (Sto.ofV Ar54 q54 Ov7 (Ins.self (E_CATEGORY.ext O52.2))) (g := (mkF m 110 #[.val (.int p0), .unset, .unset, .unset, .unset] [(.ref s_CATEGORY), (.int (15 : Int32)), (.ref b7), (.ref b7)])) rfl rfl (hb hby at_110)
  have V55 : Arv Z h55 b7 k7 (.object "com/example/rooted_kinds/rootedkinds/model/ValueType") (22 : Int32) [(.ref s_NULL), (.ref s_LONG), (.ref s_DOUBLE), (.ref s_BOOLEAN), (.ref s_STRING), (.ref s_DATE), (.ref s_TEXT), (.ref s_BLOB), (.ref s_SHORT_BLOB), (.ref s_GEO_PT), (.ref s_POSTAL_ADDRESS), (.ref s_PHONE_NUMBER), (.ref s_EMAIL), (.ref s_IM_HANDLE), (.ref s_LINK), (.ref s_CATEGORY), .null, .null, .null, .null, .null, .null] .null := Arv.set Ar54 q54 Sz54 Nn54 Ha54 Ga54 rfl W55 15 rfl (Nat.le_of_ble_eq_true rfl)
  have O55 := O52.wr W55 g_b7
  have N55 := Fr.snoc X55 N52 g_b7
  refine Go.st (V' := T55.setTop (mkF m 111 #[.val (.int p0), .unset, .unset, .unset, .unset] [(.ref b7)])) (fun t k => st55 t k) ?_
  refine Go.st (V' := T55.setTop (mkF m 114 #[.val (.int p0), .unset, .unset, .unset, .unset] [(.int (16 : Int32)), (.ref b7), (.ref b7)])) (fun t k => ?_) ?_
  · refine XS.dup X55.here hx rfl (hb hby at_111) rfl rfl ?_
    show Steps p.tables e below (T55.setTop (mkF m 112 #[.val (.int p0), .unset, .unset, .unset, .unset] [(.ref b7), (.ref b7)])) _
    refine XS.bipush X55.here hx rfl (hb hby at_112) ?_
    show Steps p.tables e below (T55.setTop (mkF m 114 #[.val (.int p0), .unset, .unset, .unset, .unset] [(.int (16 : Int32)), (.ref b7), (.ref b7)])) _
    exact k
  obtain ⟨T56, X56, e56, st56⟩ := getS2 X55 hx hZ hown (host := "") (Or.inl (hw _ (List.mem_of_getElem? (i := 36) rfl))) Via.refl e55 (S_RATING.ext O55.2) (g := (mkF m 114 #[.val (.int p0), .unset, .unset, .unset, .unset] [(.int (16 : Int32)), (.ref b7), (.ref b7)])) rfl (hb hby at_114)
  refine Go.st (V' := T56.setTop (mkF m 117 #[.val (.int p0), .unset, .unset, .unset, .unset] [(.ref s_RATING), (.int (16 : Int32)), (.ref b7), (.ref b7)])) (fun t k => st56 t k) ?_
  obtain ⟨cl57, Ar57, q57, Sz57, Nn57, Ha57, Ga57⟩ := id (V55)
  obtain ⟨T58, h58, X58, e58, W58, st58⟩ := stR X56 hx hZ e56 Ar57 (j := (16 : Int32)) (inb_of Sz57 ⟨by decide, by decide⟩) rfl (Sto.ofV Ar57 q57 Ov7 (Ins.self (E_RATING.ext O55.2))) (g := (mkF m 117 #[.val (.int p0), .unset, .unset, .unset, .unset] [(.ref s_RATING), (.int (16 : Int32)), (.ref b7), (.ref b7)])) rfl rfl (hb hby at_117)
  have V58 : Arv Z h58 b7 k7 (.object "com/example/rooted_kinds/rootedkinds/model/ValueType") (22 : Int32) [(.ref s_NULL), (.ref s_LONG), (.ref s_DOUBLE), (.ref s_BOOLEAN), (.ref s_STRING), (.ref s_DATE), (.ref s_TEXT), (.ref s_BLOB), (.ref s_SHORT_BLOB), (.ref s_GEO_PT), (.ref s_POSTAL_ADDRESS), (.ref s_PHONE_NUMBER), (.ref s_EMAIL), (.ref s_IM_HANDLE), (.ref s_LINK), (.ref s_CATEGORY), (.ref s_RATING), .null, .null, .null, .null, .null] .null := Arv.set Ar57 q57 Sz57 Nn57 Ha57 Ga57 rfl W58 16 rfl (Nat.le_of_ble_eq_true rfl)
  have O58 := O55.wr W58 g_b7
  have N58 := Fr.snoc X58 N55 g_b7
  refine Go.st (V' := T58.setTop (mkF m 118 #[.val (.int p0), .unset, .unset, .unset, .unset] [(.ref b7)])) (fun t k => st58 t k) ?_
  refine Go.st (V' := T58.setTop (mkF m 121 #[.val (.int p0), .unset, .unset, .unset, .unset] [(.int (17 : Int32)), (.ref b7), (.ref b7)])) (fun t k => ?_) ?_
  · refine XS.dup X58.here hx rfl (hb hby at_118) rfl rfl ?_
    show Steps p.tables e below (T58.setTop (mkF m 119 #[.val (.int p0), .unset, .unset, .unset, .unset] [(.ref b7), (.ref b7)])) _
    refine XS.bipush X58.here hx rfl (hb hby at_119) ?_
    show Steps p.tables e below (T58.setTop (mkF m 121 #[.val (.int p0), .unset, .unset, .unset, .unset] [(.int (17 : Int32)), (.ref b7), (.ref b7)])) _
    exact k
  obtain ⟨T59, X59, e59, st59⟩ := getS2 X58 hx hZ hown (host := "") (Or.inl (hw _ (List.mem_of_getElem? (i := 38) rfl))) Via.refl e58 (S_USER.ext O58.2) (g := (mkF m 121 #[.val (.int p0), .unset, .unset, .unset, .unset] [(.int (17 : Int32)), (.ref b7), (.ref b7)])) rfl (hb hby at_121)
  refine Go.st (V' := T59.setTop (mkF m 124 #[.val (.int p0), .unset, .unset, .unset, .unset] [(.ref s_USER), (.int (17 : Int32)), (.ref b7), (.ref b7)])) (fun t k => st59 t k) ?_
  obtain ⟨cl60, Ar60, q60, Sz60, Nn60, Ha60, Ga60⟩ := id (V58)
  obtain ⟨T61, h61, X61, e61, W61, st61⟩ := stR X59 hx hZ e59 Ar60 (j := (17 : Int32)) (inb_of Sz60 ⟨by decide, by decide⟩) rfl (Sto.ofV Ar60 q60 Ov7 (Ins.self (E_USER.ext O58.2))) (g := (mkF m 124 #[.val (.int p0), .unset, .unset, .unset, .unset] [(.ref s_USER), (.int (17 : Int32)), (.ref b7), (.ref b7)])) rfl rfl (hb hby at_124)
  have V61 : Arv Z h61 b7 k7 (.object "com/example/rooted_kinds/rootedkinds/model/ValueType") (22 : Int32) [(.ref s_NULL), (.ref s_LONG), (.ref s_DOUBLE), (.ref s_BOOLEAN), (.ref s_STRING), (.ref s_DATE), (.ref s_TEXT), (.ref s_BLOB), (.ref s_SHORT_BLOB), (.ref s_GEO_PT), (.ref s_POSTAL_ADDRESS), (.ref s_PHONE_NUMBER), (.ref s_EMAIL), (.ref s_IM_HANDLE), (.ref s_LINK), (.ref s_CATEGORY), (.ref s_RATING), (.ref s_USER), .null, .null, .null, .null] .null := Arv.set Ar60 q60 Sz60 Nn60 Ha60 Ga60 rfl W61 17 rfl (Nat.le_of_ble_eq_true rfl)
  have O61 := O58.wr W61 g_b7
  have N61 := Fr.snoc X61 N58 g_b7
  refine Go.st (V' := T61.setTop (mkF m 125 #[.val (.int p0), .unset, .unset, .unset, .unset] [(.ref b7)])) (fun t k => st61 t k) ?_
  refine Go.st (V' := T61.setTop (mkF m 128 #[.val (.int p0), .unset, .unset, .unset, .unset] [(.int (18 : Int32)), (.ref b7), (.ref b7)])) (fun t k => ?_) ?_
  · refine XS.dup X61.here hx rfl (hb hby at_125) rfl rfl ?_
    show Steps p.tables e below (T61.setTop (mkF m 126 #[.val (.int p0), .unset, .unset, .unset, .unset] [(.ref b7), (.ref b7)])) _
    refine XS.bipush X61.here hx rfl (hb hby at_126) ?_
    show Steps p.tables e below (T61.setTop (mkF m 128 #[.val (.int p0), .unset, .unset, .unset, .unset] [(.int (18 : Int32)), (.ref b7), (.ref b7)])) _
    exact k
  obtain ⟨T62, X62, e62, st62⟩ := getS2 X61 hx hZ hown (host := "") (Or.inl (hw _ (List.mem_of_getElem? (i := 40) rfl))) Via.refl e61 (S_BLOB_KEY.ext O61.2) (g := (mkF m 128 #[.val (.int p0), .unset, .unset, .unset, .unset] [(.int (18 : Int32)), (.ref b7), (.ref b7)])) rfl (hb hby at_128)
  refine Go.st (V' := T62.setTop (mkF m 131 #[.val (.int p0), .unset, .unset, .unset, .unset] [(.ref s_BLOB_KEY), (.int (18 : Int32)), (.ref b7), (.ref b7)])) (fun t k => st62 t k) ?_
  obtain ⟨cl63, Ar63, q63, Sz63, Nn63, Ha63, Ga63⟩ := id (V61)
  obtain ⟨T64, h64, X64, e64, W64, st64⟩ := stR X62 hx hZ e62 Ar63 (j := (18 : Int32)) (inb_of Sz63 ⟨by decide, by decide⟩) rfl (Sto.ofV Ar63 q63 Ov7 (Ins.self (E_BLOB_KEY.ext O61.2))) (g := (mkF m 131 #[.val (.int p0), .unset, .unset, .unset, .unset] [(.ref s_BLOB_KEY), (.int (18 : Int32)), (.ref b7), (.ref b7)])) rfl rfl (hb hby at_131)
  have V64 : Arv Z h64 b7 k7 (.object "com/example/rooted_kinds/rootedkinds/model/ValueType") (22 : Int32) [(.ref s_NULL), (.ref s_LONG), (.ref s_DOUBLE), (.ref s_BOOLEAN), (.ref s_STRING), (.ref s_DATE), (.ref s_TEXT), (.ref s_BLOB), (.ref s_SHORT_BLOB), (.ref s_GEO_PT), (.ref s_POSTAL_ADDRESS), (.ref s_PHONE_NUMBER), (.ref s_EMAIL), (.ref s_IM_HANDLE), (.ref s_LINK), (.ref s_CATEGORY), (.ref s_RATING), (.ref s_USER), (.ref s_BLOB_KEY), .null, .null, .null] .null := Arv.set Ar63 q63 Sz63 Nn63 Ha63 Ga63 rfl W64 18 rfl (Nat.le_of_ble_eq_true rfl)
  have O64 := O61.wr W64 g_b7
  have N64 := Fr.snoc X64 N61 g_b7
  refine Go.st (V' := T64.setTop (mkF m 132 #[.val (.int p0), .unset, .unset, .unset, .unset] [(.ref b7)])) (fun t k => st64 t k) ?_
  refine Go.st (V' := T64.setTop (mkF m 135 #[.val (.int p0), .unset, .unset, .unset, .unset] [(.int (19 : Int32)), (.ref b7), (.ref b7)])) (fun t k => ?_) ?_
  · refine XS.dup X64.here hx rfl (hb hby at_132) rfl rfl ?_
    show Steps p.tables e below (T64.setTop (mkF m 133 #[.val (.int p0), .unset, .unset, .unset, .unset] [(.ref b7), (.ref b7)])) _
    refine XS.bipush X64.here hx rfl (hb hby at_133) ?_
    show Steps p.tables e below (T64.setTop (mkF m 135 #[.val (.int p0), .unset, .unset, .unset, .unset] [(.int (19 : Int32)), (.ref b7), (.ref b7)])) _
    exact k
  obtain ⟨T65, X65, e65, st65⟩ := getS2 X64 hx hZ hown (host := "") (Or.inl (hw _ (List.mem_of_getElem? (i := 42) rfl))) Via.refl e64 (S_KEY.ext O64.2) (g := (mkF m 135 #[.val (.int p0), .unset, .unset, .unset, .unset] [(.int (19 : Int32)), (.ref b7), (.ref b7)])) rfl (hb hby at_135)
  refine Go.st (V' := T65.setTop (mkF m 138 #[.val (.int p0), .unset, .unset, .unset, .unset] [(.ref s_KEY), (.int (19 : Int32)), (.ref b7), (.ref b7)])) (fun t k => st65 t k) ?_
  obtain ⟨cl66, Ar66, q66, Sz66, Nn66, Ha66, Ga66⟩ := id (V64)
  obtain ⟨T67, h67, X67, e67, W67, st67⟩ := stR X65 hx hZ e65 Ar66 (j := (19 : Int32)) (inb_of Sz66 ⟨by decide, by decide⟩) rfl (Sto.ofV Ar66 q66 Ov7 (Ins.self (E_KEY.ext O64.2))) (g := (mkF m 138 #[.val (.int p0), .unset, .unset, .unset, .unset] [(.ref s_KEY), (.int (19 : Int32)), (.ref b7), (.ref b7)])) rfl rfl (hb hby at_138)
  have V67 : Arv Z h67 b7 k7 (.object "com/example/rooted_kinds/rootedkinds/model/ValueType") (22 : Int32) [(.ref s_NULL), (.ref s_LONG), (.ref s_DOUBLE), (.ref s_BOOLEAN), (.ref s_STRING), (.ref s_DATE), (.ref s_TEXT), (.ref s_BLOB), (.ref s_SHORT_BLOB), (.ref s_GEO_PT), (.ref s_POSTAL_ADDRESS), (.ref s_PHONE_NUMBER), (.ref s_EMAIL), (.ref s_IM_HANDLE), (.ref s_LINK), (.ref s_CATEGORY), (.ref s_RATING), (.ref s_USER), (.ref s_BLOB_KEY), (.ref s_KEY), .null, .null] .null := Arv.set Ar66 q66 Sz66 Nn66 Ha66 Ga66 rfl W67 19 rfl (Nat.le_of_ble_eq_true rfl)
  have O67 := O64.wr W67 g_b7
  have N67 := Fr.snoc X67 N64 g_b7
  refine Go.st (V' := T67.setTop (mkF m 139 #[.val (.int p0), .unset, .unset, .unset, .unset] [(.ref b7)])) (fun t k => st67 t k) ?_
  refine Go.st (V' := T67.setTop (mkF m 142 #[.val (.int p0), .unset, .unset, .unset, .unset] [(.int (20 : Int32)), (.ref b7), (.ref b7)])) (fun t k => ?_) ?_
  · refine XS.dup X67.here hx rfl (hb hby at_139) rfl rfl ?_
    show Steps p.tables e below (T67.setTop (mkF m 140 #[.val (.int p0), .unset, .unset, .unset, .unset] [(.ref b7), (.ref b7)])) _
    refine XS.bipush X67.here hx rfl (hb hby at_140) ?_
    show Steps p.tables e below (T67.setTop (mkF m 142 #[.val (.int p0), .unset, .unset, .unset, .unset] [(.int (20 : Int32)), (.ref b7), (.ref b7)])) _
    exact k
  obtain ⟨T68, X68, e68, st68⟩ := getS2 X67 hx hZ hown (host := "") (Or.inl (hw _ (List.mem_of_getElem? (i := 44) rfl))) Via.refl e67 (S_EMBEDDED_ENTITY.ext O67.2) (g := (mkF m 142 #[.val (.int p0), .unset, .unset, .unset, .unset] [(.int (20 : Int32)), (.ref b7), (.ref b7)])) rfl (hb hby at_142)
  refine Go.st (V' := T68.setTop (mkF m 145 #[.val (.int p0), .unset, .unset, .unset, .unset] [(.ref s_EMBEDDED_ENTITY), (.int (20 : Int32)), (.ref b7), (.ref b7)])) (fun t k => st68 t k) ?_
  obtain ⟨cl69, Ar69, q69, Sz69, Nn69, Ha69, Ga69⟩ := id (V67)
  obtain ⟨T70, h70, X70, e70, W70, st70⟩ := stR X68 hx hZ e68 Ar69 (j := (20 : Int32)) (inb_of Sz69 ⟨by decide, by decide⟩) rfl (Sto.ofV Ar69 q69 Ov7 (Ins.self (E_EMBEDDED_ENTITY.ext O67.2))) (g := (mkF m 145 #[.val (.int p0), .unset, .unset, .unset, .unset] [(.ref s_EMBEDDED_ENTITY), (.int (20 : Int32)), (.ref b7), (.ref b7)])) rfl rfl (hb hby at_145)
  have V70 : Arv Z h70 b7 k7 (.object "com/example/rooted_kinds/rootedkinds/model/ValueType") (22 : Int32) [(.ref s_NULL), (.ref s_LONG), (.ref s_DOUBLE), (.ref s_BOOLEAN), (.ref s_STRING), (.ref s_DATE), (.ref s_TEXT), (.ref s_BLOB), (.ref s_SHORT_BLOB), (.ref s_GEO_PT), (.ref s_POSTAL_ADDRESS), (.ref s_PHONE_NUMBER), (.ref s_EMAIL), (.ref s_IM_HANDLE), (.ref s_LINK), (.ref s_CATEGORY), (.ref s_RATING), (.ref s_USER), (.ref s_BLOB_KEY), (.ref s_KEY), (.ref s_EMBEDDED_ENTITY), .null] .null := Arv.set Ar69 q69 Sz69 Nn69 Ha69 Ga69 rfl W70 20 rfl (Nat.le_of_ble_eq_true rfl)
  have O70 := O67.wr W70 g_b7
  have N70 := Fr.snoc X70 N67 g_b7
  refine Go.st (V' := T70.setTop (mkF m 146 #[.val (.int p0), .unset, .unset, .unset, .unset] [(.ref b7)])) (fun t k => st70 t k) ?_
  refine Go.st (V' := T70.setTop (mkF m 149 #[.val (.int p0), .unset, .unset, .unset, .unset] [(.int (21 : Int32)), (.ref b7), (.ref b7)])) (fun t k => ?_) ?_
  · refine XS.dup X70.here hx rfl (hb hby at_146) rfl rfl ?_
    show Steps p.tables e below (T70.setTop (mkF m 147 #[.val (.int p0), .unset, .unset, .unset, .unset] [(.ref b7), (.ref b7)])) _
    refine XS.bipush X70.here hx rfl (hb hby at_147) ?_
    show Steps p.tables e below (T70.setTop (mkF m 149 #[.val (.int p0), .unset, .unset, .unset, .unset] [(.int (21 : Int32)), (.ref b7), (.ref b7)])) _
    exact k
  obtain ⟨T71, X71, e71, st71⟩ := getS2 X70 hx hZ hown (host := "") (Or.inl (hw _ (List.mem_of_getElem? (i := 46) rfl))) Via.refl e70 (S_LIST.ext O70.2) (g := (mkF m 149 #[.val (.int p0), .unset, .unset, .unset, .unset] [(.int (21 : Int32)), (.ref b7), (.ref b7)])) rfl (hb hby at_149)
  refine Go.st (V' := T71.setTop (mkF m 152 #[.val (.int p0), .unset, .unset, .unset, .unset] [(.ref s_LIST), (.int (21 : Int32)), (.ref b7), (.ref b7)])) (fun t k => st71 t k) ?_
  obtain ⟨cl72, Ar72, q72, Sz72, Nn72, Ha72, Ga72⟩ := id (V70)
  obtain ⟨T73, h73, X73, e73, W73, st73⟩ := stR X71 hx hZ e71 Ar72 (j := (21 : Int32)) (inb_of Sz72 ⟨by decide, by decide⟩) rfl (Sto.ofV Ar72 q72 Ov7 (Ins.self (E_LIST.ext O70.2))) (g := (mkF m 152 #[.val (.int p0), .unset, .unset, .unset, .unset] [(.ref s_LIST), (.int (21 : Int32)), (.ref b7), (.ref b7)])) rfl rfl (hb hby at_152)
  have V73 : Arv Z h73 b7 k7 (.object "com/example/rooted_kinds/rootedkinds/model/ValueType") (22 : Int32) [(.ref s_NULL), (.ref s_LONG), (.ref s_DOUBLE), (.ref s_BOOLEAN), (.ref s_STRING), (.ref s_DATE), (.ref s_TEXT), (.ref s_BLOB), (.ref s_SHORT_BLOB), (.ref s_GEO_PT), (.ref s_POSTAL_ADDRESS), (.ref s_PHONE_NUMBER), (.ref s_EMAIL), (.ref s_IM_HANDLE), (.ref s_LINK), (.ref s_CATEGORY), (.ref s_RATING), (.ref s_USER), (.ref s_BLOB_KEY), (.ref s_KEY), (.ref s_EMBEDDED_ENTITY), (.ref s_LIST)] .null := Arv.set Ar72 q72 Sz72 Nn72 Ha72 Ga72 rfl W73 21 rfl (Nat.le_of_ble_eq_true rfl)
  have O73 := O70.wr W73 g_b7
  have N73 := Fr.snoc X73 N70 g_b7
  refine Go.st (V' := T73.setTop (mkF m 153 #[.val (.int p0), .unset, .unset, .unset, .unset] [(.ref b7)])) (fun t k => st73 t k) ?_
  refine Go.st (V' := T73.setTop (mkF m 162 #[.val (.int p0), .val (.ref b7), .val (.int ((p0 &&& (2147483647 : Int32)) % (22 : Int32))), .unset, .unset] [])) (fun t k => ?_) ?_
  · refine XS.astoreN X73.here hx rfl (hb hby at_153) rfl rfl (l' := #[.val (.int p0), .val (.ref b7), .unset, .unset, .unset]) rfl ?_
    show Steps p.tables e below (T73.setTop (mkF m 154 #[.val (.int p0), .val (.ref b7), .unset, .unset, .unset] [])) _
    refine XS.iloadN X73.here hx rfl (hb hby at_154) rfl  ?_
    show Steps p.tables e below (T73.setTop (mkF m 155 #[.val (.int p0), .val (.ref b7), .unset, .unset, .unset] [(.int p0)])) _
    refine X73.ldcInt hx hown (mvT hZ (hw _ (List.mem_of_getElem? (i := 48) rfl))) (g := (mkF m 155 #[.val (.int p0), .val (.ref b7), .unset, .unset, .unset] [(.int p0)])) rfl (hb hby at_155) _ ?_
    show Steps p.tables e below (T73.setTop (mkF m 157 #[.val (.int p0), .val (.ref b7), .unset, .unset, .unset] [(.int (2147483647 : Int32)), (.int p0)])) _
    refine XS.iand X73.here hx rfl (hb hby at_157) rfl ?_
    show Steps p.tables e below (T73.setTop (mkF m 158 #[.val (.int p0), .val (.ref b7), .unset, .unset, .unset] [(.int (p0 &&& (2147483647 : Int32)))])) _
    refine XS.bipush X73.here hx rfl (hb hby at_158) ?_
    show Steps p.tables e below (T73.setTop (mkF m 160 #[.val (.int p0), .val (.ref b7), .unset, .unset, .unset] [(.int (22 : Int32)), (.int (p0 &&& (2147483647 : Int32)))])) _
    refine iremM X73 hx rfl (hb hby at_160) rfl (by decide) ?_
    show Steps p.tables e below (T73.setTop (mkF m 161 #[.val (.int p0), .val (.ref b7), .unset, .unset, .unset] [(.int ((p0 &&& (2147483647 : Int32)) % (22 : Int32)))])) _
    refine XS.istoreN X73.here hx rfl (hb hby at_161) rfl (l' := #[.val (.int p0), .val (.ref b7), .val (.int ((p0 &&& (2147483647 : Int32)) % (22 : Int32))), .unset, .unset]) rfl ?_
    show Steps p.tables e below (T73.setTop (mkF m 162 #[.val (.int p0), .val (.ref b7), .val (.int ((p0 &&& (2147483647 : Int32)) % (22 : Int32))), .unset, .unset] [])) _
    exact k
  obtain ⟨Lg74, X74, N74⟩ : ∃ L, Stand p l e room_1 s m #[(.int p0)] below meth c T73 L 1 22 ∧ Fr n0 L := ⟨_, X73, N73⟩
  obtain ⟨k_2, h_k_2⟩ : ∃ z, z = ((p0 &&& (2147483647 : Int32)) % (22 : Int32)) := ⟨_, rfl⟩
  rw [← h_k_2]
  have hrg_k_2 : 0 ≤ k_2.toInt ∧ k_2.toInt < 22 := by rw [h_k_2]; exact own_rng _ _ _ (by decide) (by decide)
  rcases own_cases22 hrg_k_2 with rfl | rfl | rfl | rfl | rfl | rfl | rfl | rfl | rfl | rfl | rfl | rfl | rfl | rfl | rfl | rfl | rfl | rfl | rfl | rfl | rfl | rfl
  · show Go p e below _ (T73.setTop (mkF m 162 #[.val (.int p0), .val (.ref b7), .val (.int (0 : Int32)), .unset, .unset] []))
    refine Go.st (V' := T73.setTop (mkF m 164 #[.val (.int p0), .val (.ref b7), .val (.int (0 : Int32)), .unset, .unset] [(.int (0 : Int32)), (.ref b7)])) (fun t k => ?_) ?_
    · refine XS.aloadN X74.here hx rfl (hb hby at_162) rfl rfl ?_
      show Steps p.tables e below (T73.setTop (mkF m 163 #[.val (.int p0), .val (.ref b7), .val (.int (0 : Int32)), .unset, .unset] [(.ref b7)])) _
      refine XS.iloadN X74.here hx rfl (hb hby at_163) rfl  ?_
      show Steps p.tables e below (T73.setTop (mkF m 164 #[.val (.int p0), .val (.ref b7), .val (.int (0 : Int32)), .unset, .unset] [(.int (0 : Int32)), (.ref b7)])) _
      exact k
    obtain ⟨cl75, Ar75, q75, Sz75, Nn75, Ha75, Ga75⟩ := id (V73)
    have hin75 : ¬ ((0 : Int32) < 0 ∨ cl75.slots.size ≤ ((0 : Int32)).toNatClampNeg) := inb_of Sz75 ⟨by decide, by decide⟩
    refine Go.st (V' := T73.setTop (mkF m 167 #[.val (.int p0), .val (.ref b7), .val (.int (0 : Int32)), .val (.ref s_NULL), .unset] [(.ref s_NULL)])) (fun t k => ?_) ?_
    · show Steps p.tables e below (T73.setTop (mkF m 164 #[.val (.int p0), .val (.ref b7), .val (.int (0 : Int32)), .unset, .unset] [(.int (0 : Int32)), (.ref b7)])) _
      refine X74.aaload hx (j := (0 : Int32)) (v := (.ref s_NULL)) (own_eT e73 Ar75) (State.isArrayOf_alike hZ.alike Ar75.2.1) rfl Ar75.2.2 hin75 (Ha75.at hin75 rfl) (g := (mkF m 164 #[.val (.int p0), .val (.ref b7), .val (.int (0 : Int32)), .unset, .unset] [(.int (0 : Int32)), (.ref b7)])) rfl rfl (hb hby at_164) _ ?_
      show Steps p.tables e below (T73.setTop (mkF m 165 #[.val (.int p0), .val (.ref b7), .val (.int (0 : Int32)), .unset, .unset] [(.ref s_NULL)])) _
      refine XS.astoreN X74.here hx rfl (hb hby at_165) rfl rfl (l' := #[.val (.int p0), .val (.ref b7), .val (.int (0 : Int32)), .val (.ref s_NULL), .unset]) rfl ?_
      show Steps p.tables e below (T73.setTop (mkF m 166 #[.val (.int p0), .val (.ref b7), .val (.int (0 : Int32)), .val (.ref s_NULL), .unset] [])) _
      refine XS.aloadN X74.here hx rfl (hb hby at_166) rfl rfl ?_
      show Steps p.tables e below (T73.setTop (mkF m 167 #[.val (.int p0), .val (.ref b7), .val (.int (0 : Int32)), .val (.ref s_NULL), .unset] [(.ref s_NULL)])) _
      exact k
    obtain ⟨T76, X76, e76, st76⟩ := getS2 X74 hx hZ hown (host := "") (Or.inl (hw _ (List.mem_of_getElem? (i := 16) rfl))) Via.refl e73 (S_TEXT.ext O73.2) (g := (mkF m 167 #[.val (.int p0), .val (.ref b7), .val (.int (0 : Int32)), .val (.ref s_NULL), .unset] [(.ref s_NULL)])) rfl (hb hby at_167)
    refine Go.st (V' := T76.setTop (mkF m 170 #[.val (.int p0), .val (.ref b7), .val (.int (0 : Int32)), .val (.ref s_NULL), .unset] [(.ref s_TEXT), (.ref s_NULL)])) (fun t k => st76 t k) ?_
    refine Go.st (V' := T76.setTop (mkF m 174 #[.val (.int p0), .val (.ref b7), .val (.int (0 : Int32)), .val (.ref s_NULL), .unset] [(.ref s_NULL)])) (fun t k => ?_) ?_
    · refine Jvm.RoadKit.acmp (g := (mkF m 170 #[.val (.int p0), .val (.ref b7), .val (.int (0 : Int32)), .val (.ref s_NULL), .unset] [(.ref s_TEXT), (.ref s_NULL)])) X76 hx rfl rfl rfl (pc0 := 170) (pc' := 173) (same := false) rfl (hb hby at_170) rfl (decide_eq_false fun q => (Fld.ne (F_NULL_ordinal.ext O73.2) (F_TEXT_ordinal.ext O73.2) (by decide)) (Value.ref.inj q)) (by decide) (by decide) ?_
      show Steps p.tables e below (T76.setTop (mkF m 173 #[.val (.int p0), .val (.ref b7), .val (.int (0 : Int32)), .val (.ref s_NULL), .unset] [])) _
      refine XS.aloadN X76.here hx rfl (hb hby at_173) rfl rfl ?_
      show Steps p.tables e below (T76.setTop (mkF m 174 #[.val (.int p0), .val (.ref b7), .val (.int (0 : Int32)), .val (.ref s_NULL), .unset] [(.ref s_NULL)])) _
      exact k
    obtain ⟨T77, X77, e77, st77⟩ := getS2 X76 hx hZ hown (host := "") (Or.inl (hw _ (List.mem_of_getElem? (i := 18) rfl))) Via.refl e76 (S_BLOB.ext O73.2) (g := (mkF m 174 #[.val (.int p0), .val (.ref b7), .val (.int (0 : Int32)), .val (.ref s_NULL), .unset] [(.ref s_NULL)])) rfl (hb hby at_174)
    refine Go.st (V' := T77.setTop (mkF m 177 #[.val (.int p0), .val (.ref b7), .val (.int (0 : Int32)), .val (.ref s_NULL), .unset] [(.ref s_BLOB), (.ref s_NULL)])) (fun t k => st77 t k) ?_
    refine Go.st (V' := T77.setTop (mkF m 181 #[.val (.int p0), .val (.ref b7), .val (.int (0 : Int32)), .val (.ref s_NULL), .unset] [(.ref s_NULL)])) (fun t k => ?_) ?_
    · refine Jvm.RoadKit.acmp (g := (mkF m 177 #[.val (.int p0), .val (.ref b7), .val (.int (0 : Int32)), .val (.ref s_NULL), .unset] [(.ref s_BLOB), (.ref s_NULL)])) X77 hx rfl rfl rfl (pc0 := 177) (pc' := 180) (same := false) rfl (hb hby at_177) rfl (decide_eq_false fun q => (Fld.ne (F_NULL_ordinal.ext O73.2) (F_BLOB_ordinal.ext O73.2) (by decide)) (Value.ref.inj q)) (by decide) (by decide) ?_
      show Steps p.tables e below (T77.setTop (mkF m 180 #[.val (.int p0), .val (.ref b7), .val (.int (0 : Int32)), .val (.ref s_NULL), .unset] [])) _
      refine XS.aloadN X77.here hx rfl (hb hby at_180) rfl rfl ?_
      show Steps p.tables e below (T77.setTop (mkF m 181 #[.val (.int p0), .val (.ref b7), .val (.int (0 : Int32)), .val (.ref s_NULL), .unset] [(.ref s_NULL)])) _
      exact k
    obtain ⟨T78, X78, e78, st78⟩ := getS2 X77 hx hZ hown (host := "") (Or.inl (hw _ (List.mem_of_getElem? (i := 44) rfl))) Via.refl e77 (S_EMBEDDED_ENTITY.ext O73.2) (g := (mkF m 181 #[.val (.int p0), .val (.ref b7), .val (.int (0 : Int32)), .val (.ref s_NULL), .unset] [(.ref s_NULL)])) rfl (hb hby at_181)
    refine Go.st (V' := T78.setTop (mkF m 184 #[.val (.int p0), .val (.ref b7), .val (.int (0 : Int32)), .val (.ref s_NULL), .unset] [(.ref s_EMBEDDED_ENTITY), (.ref s_NULL)])) (fun t k => st78 t k) ?_
    refine Go.st (V' := T78.setTop (mkF m 195 #[.val (.int p0), .val (.ref b7), .val (.int (0 : Int32)), .val (.ref s_NULL), .val (.int (1 : Int32))] [(.ref s_NULL)])) (fun t k => ?_) ?_
    · refine Jvm.RoadKit.acmp (g := (mkF m 184 #[.val (.int p0), .val (.ref b7), .val (.int (0 : Int32)), .val (.ref s_NULL), .unset] [(.ref s_EMBEDDED_ENTITY), (.ref s_NULL)])) X78 hx rfl rfl rfl (pc0 := 184) (pc' := 187) (same := false) rfl (hb hby at_184) rfl (decide_eq_false fun q => (Fld.ne (F_NULL_ordinal.ext O73.2) (F_EMBEDDED_ENTITY_ordinal.ext O73.2) (by decide)) (Value.ref.inj q)) (by decide) (by decide) ?_
      show Steps p.tables e below (T78.setTop (mkF m 187 #[.val (.int p0), .val (.ref b7), .val (.int (0 : Int32)), .val (.ref s_NULL), .unset] [])) _
      refine XS.iconst X78.here hx rfl (hb hby at_187) ?_
      show Steps p.tables e below (T78.setTop (mkF m 188 #[.val (.int p0), .val (.ref b7), .val (.int (0 : Int32)), .val (.ref s_NULL), .unset] [(.int (1 : Int32))])) _
      refine XS.goto X78.here hx rfl (pc0 := 188) (pc' := 192) rfl (hb hby at_188) (by decide) (by decide) ?_
      show Steps p.tables e below (T78.setTop (mkF m 192 #[.val (.int p0), .val (.ref b7), .val (.int (0 : Int32)), .val (.ref s_NULL), .unset] [(.int (1 : Int32))])) _
      refine XS.istore X78.here hx rfl (hb hby at_192) rfl (l' := #[.val (.int p0), .val (.ref b7), .val (.int (0 : Int32)), .val (.ref s_NULL), .val (.int (1 : Int32))]) rfl ?_
      show Steps p.tables e below (T78.setTop (mkF m 194 #[.val (.int p0), .val (.ref b7), .val (.int (0 : Int32)), .val (.ref s_NULL), .val (.int (1 : Int32))] [])) _
      refine XS.aloadN X78.here hx rfl (hb hby at_194) rfl rfl ?_
      show Steps p.tables e below (T78.setTop (mkF m 195 #[.val (.int p0), .val (.ref b7), .val (.int (0 : Int32)), .val (.ref s_NULL), .val (.int (1 : Int32))] [(.ref s_NULL)])) _
      exact k
    obtain ⟨cq79, kq79, q79a, q79b, q79c⟩ := isOf hZ e78 (E_NULL.ext O73.2)
    obtain ⟨_, _, ⟨T79, L79, k79, n79⟩, -, X79, ⟨Lc79, hQ79, l79, y79, z79⟩, st79⟩ := X78.virtualBack hx (y := (⟨"com/example/rooted_kinds/rootedkinds/model/ValueType", "isIndexed", "()Z"⟩ : MethodName)) (z := (⟨"com/example/rooted_kinds/rootedkinds/model/ValueType", "isIndexed", "()Z"⟩ : MethodName)) hown (mvT hZ (hw _ (List.mem_of_getElem? (i := 49) rfl))) (mvT hZ (hw _ (List.mem_of_getElem? (i := 50) rfl))) (notFace_of_selects (args := #[]) (mvT hZ (hw _ (List.mem_of_getElem? (i := 52) rfl)))) (mvT hZ (hw _ (List.mem_of_getElem? (i := 52) rfl))) (mvT hZ (hw _ (List.mem_of_getElem? (i := 51) rfl))) (by decide) (backOf (W := 0) (rm1r l Z a0 hw [] s_NULL s_LONG s_DOUBLE s_BOOLEAN s_STRING s_DATE s_TEXT s_BLOB s_SHORT_BLOB s_GEO_PT s_POSTAL_ADDRESS s_PHONE_NUMBER s_EMAIL s_IM_HANDLE s_LINK s_CATEGORY s_RATING s_USER s_BLOB_KEY s_KEY s_EMBEDDED_ENTITY s_LIST s_Representation_NULL s_Representation_BOOLEAN s_Representation_STRING s_Representation_DOUBLE s_INT64 s_POINT s_REFERENCE s_Representation_USER HW s_NULL s_Representation_NULL h73 n0 O73 (F_NULL_representation.ext O73.2)) hZ (hw _ (List.mem_of_getElem? (i := 53) rfl)) (hw _ (List.mem_of_getElem? (i := 3) rfl)) (by decide) (by decide)) q79a q79c (g := (mkF m 195 #[.val (.int p0), .val (.ref b7), .val (.int (0 : Int32)), .val (.ref s_NULL), .val (.int (1 : Int32))] [(.ref s_NULL)])) rfl (by rw [hml]; rfl) (Steps.refl _) (argsL := []) (rest := []) (lenOf own_pd10 rfl) rfl (by show 2 * 0 + _ ≤ _; exact Nat.le_of_eq rfl) (hb hby at_195) (fun _ _ => ⟨rfl, e78, (by decide : 1 + 0 ≤ _), (by decide : 22 + 0 ≤ _)⟩)
    dsimp only [Pt.U, Pt.locs, Pt.cells, Pt.slots] at X79 l79 y79 z79 st79 hQ79
    subst l79 y79 z79
    obtain ⟨rfl, N79q, e79⟩ := hQ79
    have N79 := Fr.app N74 N79q
    refine Go.st (V' := T79.setTop (mkF m 198 #[.val (.int p0), .val (.ref b7), .val (.int (0 : Int32)), .val (.ref s_NULL), .val (.int (1 : Int32))] [(.int (1 : Int32))])) (fun t k => st79.trans k) ?_
    refine Go.st (V' := T79.setTop (mkF m 208 #[.val (.int p0), .val (.ref b7), .val (.int (0 : Int32)), .val (.ref s_NULL), .val (.int (1 : Int32))] [(.int (1 : Int32))])) (fun t k => ?_) ?_
    · refine XS.iload X79.here hx rfl (hb hby at_198) rfl  ?_
      show Steps p.tables e below (T79.setTop (mkF m 200 #[.val (.int p0), .val (.ref b7), .val (.int (0 : Int32)), .val (.ref s_NULL), .val (.int (1 : Int32))] [(.int (1 : Int32)), (.int (1 : Int32))])) _
      refine XS.icmpNo X79.here hx rfl (hb hby at_200) rfl (teq (by decide : ((1 : Int32) = (1 : Int32)))).2 ?_
      show Steps p.tables e below (T79.setTop (mkF m 203 #[.val (.int p0), .val (.ref b7), .val (.int (0 : Int32)), .val (.ref s_NULL), .val (.int (1 : Int32))] [])) _
      refine XS.iconst X79.here hx rfl (hb hby at_203) ?_
      show Steps p.tables e below (T79.setTop (mkF m 204 #[.val (.int p0), .val (.ref b7), .val (.int (0 : Int32)), .val (.ref s_NULL), .val (.int (1 : Int32))] [(.int (1 : Int32))])) _
      refine XS.goto X79.here hx rfl (pc0 := 204) (pc' := 208) rfl (hb hby at_204) (by decide) (by decide) ?_
      show Steps p.tables e below (T79.setTop (mkF m 208 #[.val (.int p0), .val (.ref b7), .val (.int (0 : Int32)), .val (.ref s_NULL), .val (.int (1 : Int32))] [(.int (1 : Int32))])) _
      exact k
    obtain ⟨fs, hr, hrun, hended, hW, hsame⟩ := X79.leave (v := some (.int (1 : Int32))) (fun h => by rw [Bd.returns] at h; cases h)
    refine Go.mk' ⟨_, _, retN X79 hx (t := .boolean) Bd.returns (by simp) (hb hby at_208) hr, hrun, hended, _, _, rfl, ?_, ⟨_, rfl⟩, hW, hsame.mono (by decide) (by decide)⟩
    show Q0 Z p0 h0 n0 _ T79.heap _
    rw [e79]
    exact ⟨rfl, N79⟩
  · show Go p e below _ (T73.setTop (mkF m 162 #[.val (.int p0), .val (.ref b7), .val (.int (1 : Int32)), .unset, .unset] []))
    refine Go.st (V' := T73.setTop (mkF m 164 #[.val (.int p0), .val (.ref b7), .val (.int (1 : Int32)), .unset, .unset] [(.int (1 : Int32)), (.ref b7)])) (fun t k => ?_) ?_
    · refine XS.aloadN X74.here hx rfl (hb hby at_162) rfl rfl ?_
      show Steps p.tables e below (T73.setTop (mkF m 163 #[.val (.int p0), .val (.ref b7), .val (.int (1 : Int32)), .unset, .unset] [(.ref b7)])) _
      refine XS.iloadN X74.here hx rfl (hb hby at_163) rfl  ?_
      show Steps p.tables e below (T73.setTop (mkF m 164 #[.val (.int p0), .val (.ref b7), .val (.int (1 : Int32)), .unset, .unset] [(.int (1 : Int32)), (.ref b7)])) _
      exact k
    obtain ⟨cl80, Ar80, q80, Sz80, Nn80, Ha80, Ga80⟩ := id (V73)
    have hin80 : ¬ ((1 : Int32) < 0 ∨ cl80.slots.size ≤ ((1 : Int32)).toNatClampNeg) := inb_of Sz80 ⟨by decide, by decide⟩
    refine Go.st (V' := T73.setTop (mkF m 167 #[.val (.int p0), .val (.ref b7), .val (.int (1 : Int32)), .val (.ref s_LONG), .unset] [(.ref s_LONG)])) (fun t k => ?_) ?_
    · show Steps p.tables e below (T73.setTop (mkF m 164 #[.val (.int p0), .val (.ref b7), .val (.int (1 : Int32)), .unset, .unset] [(.int (1 : Int32)), (.ref b7)])) _
      refine X74.aaload hx (j := (1 : Int32)) (v := (.ref s_LONG)) (own_eT e73 Ar80) (State.isArrayOf_alike hZ.alike Ar80.2.1) rfl Ar80.2.2 hin80 (Ha80.at hin80 rfl) (g := (mkF m 164 #[.val (.int p0), .val (.ref b7), .val (.int (1 : Int32)), .unset, .unset] [(.int (1 : Int32)), (.ref b7)])) rfl rfl (hb hby at_164) _ ?_
      show Steps p.tables e below (T73.setTop (mkF m 165 #[.val (.int p0), .val (.ref b7), .val (.int (1 : Int32)), .unset, .unset] [(.ref s_LONG)])) _
      refine XS.astoreN X74.here hx rfl (hb hby at_165) rfl rfl (l' := #[.val (.int p0), .val (.ref b7), .val (.int (1 : Int32)), .val (.ref s_LONG), .unset]) rfl ?_
      show Steps p.tables e below (T73.setTop (mkF m 166 #[.val (.int p0), .val (.ref b7), .val (.int (1 : Int32)), .val (.ref s_LONG), .unset] [])) _
      refine XS.aloadN X74.here hx rfl (hb hby at_166) rfl rfl ?_
      show Steps p.tables e below (T73.setTop (mkF m 167 #[.val (.int p0), .val (.ref b7), .val (.int (1 : Int32)), .val (.ref s_LONG), .unset] [(.ref s_LONG)])) _
      exact k
    obtain ⟨T81, X81, e81, st81⟩ := getS2 X74 hx hZ hown (host := "") (Or.inl (hw _ (List.mem_of_getElem? (i := 16) rfl))) Via.refl e73 (S_TEXT.ext O73.2) (g := (mkF m 167 #[.val (.int p0), .val (.ref b7), .val (.int (1 : Int32)), .val (.ref s_LONG), .unset] [(.ref s_LONG)])) rfl (hb hby at_167)
    refine Go.st (V' := T81.setTop (mkF m 170 #[.val (.int p0), .val (.ref b7), .val (.int (1 : Int32)), .val (.ref s_LONG), .unset] [(.ref s_TEXT), (.ref s_LONG)])) (fun t k => st81 t k) ?_
    refine Go.st (V' := T81.setTop (mkF m 174 #[.val (.int p0), .val (.ref b7), .val (.int (1 : Int32)), .val (.ref s_LONG), .unset] [(.ref s_LONG)])) (fun t k => ?_) ?_
    · refine Jvm.RoadKit.acmp (g := (mkF m 170 #[.val (.int p0), .val (.ref b7), .val (.int (1 : Int32)), .val (.ref s_LONG), .unset] [(.ref s_TEXT), (.ref s_LONG)])) X81 hx rfl rfl rfl (pc0 := 170) (pc' := 173) (same := false) rfl (hb hby at_170) rfl (decide_eq_false fun q => (Fld.ne (F_LONG_ordinal.ext O73.2) (F_TEXT_ordinal.ext O73.2) (by decide)) (Value.ref.inj q)) (by decide) (by decide) ?_
      show Steps p.tables e below (T81.setTop (mkF m 173 #[.val (.int p0), .val (.ref b7), .val (.int (1 : Int32)), .val (.ref s_LONG), .unset] [])) _
      refine XS.aloadN X81.here hx rfl (hb hby at_173) rfl rfl ?_
      show Steps p.tables e below (T81.setTop (mkF m 174 #[.val (.int p0), .val (.ref b7), .val (.int (1 : Int32)), .val (.ref s_LONG), .unset] [(.ref s_LONG)])) _
      exact k
    obtain ⟨T82, X82, e82, st82⟩ := getS2 X81 hx hZ hown (host := "") (Or.inl (hw _ (List.mem_of_getElem? (i := 18) rfl))) Via.refl e81 (S_BLOB.ext O73.2) (g := (mkF m 174 #[.val (.int p0), .val (.ref b7), .val (.int (1 : Int32)), .val (.ref s_LONG), .unset] [(.ref s_LONG)])) rfl (hb hby at_174)
    refine Go.st (V' := T82.setTop (mkF m 177 #[.val (.int p0), .val (.ref b7), .val (.int (1 : Int32)), .val (.ref s_LONG), .unset] [(.ref s_BLOB), (.ref s_LONG)])) (fun t k => st82 t k) ?_
    refine Go.st (V' := T82.setTop (mkF m 181 #[.val (.int p0), .val (.ref b7), .val (.int (1 : Int32)), .val (.ref s_LONG), .unset] [(.ref s_LONG)])) (fun t k => ?_) ?_
    · refine Jvm.RoadKit.acmp (g := (mkF m 177 #[.val (.int p0), .val (.ref b7), .val (.int (1 : Int32)), .val (.ref s_LONG), .unset] [(.ref s_BLOB), (.ref s_LONG)])) X82 hx rfl rfl rfl (pc0 := 177) (pc' := 180) (same := false) rfl (hb hby at_177) rfl (decide_eq_false fun q => (Fld.ne (F_LONG_ordinal.ext O73.2) (F_BLOB_ordinal.ext O73.2) (by decide)) (Value.ref.inj q)) (by decide) (by decide) ?_
      show Steps p.tables e below (T82.setTop (mkF m 180 #[.val (.int p0), .val (.ref b7), .val (.int (1 : Int32)), .val (.ref s_LONG), .unset] [])) _
      refine XS.aloadN X82.here hx rfl (hb hby at_180) rfl rfl ?_
      show Steps p.tables e below (T82.setTop (mkF m 181 #[.val (.int p0), .val (.ref b7), .val (.int (1 : Int32)), .val (.ref s_LONG), .unset] [(.ref s_LONG)])) _
      exact k
    obtain ⟨T83, X83, e83, st83⟩ := getS2 X82 hx hZ hown (host := "") (Or.inl (hw _ (List.mem_of_getElem? (i := 44) rfl))) Via.refl e82 (S_EMBEDDED_ENTITY.ext O73.2) (g := (mkF m 181 #[.val (.int p0), .val (.ref b7), .val (.int (1 : Int32)), .val (.ref s_LONG), .unset] [(.ref s_LONG)])) rfl (hb hby at_181)
    refine Go.st (V' := T83.setTop (mkF m 184 #[.val (.int p0), .val (.ref b7), .val (.int (1 : Int32)), .val (.ref s_LONG), .unset] [(.ref s_EMBEDDED_ENTITY), (.ref s_LONG)])) (fun t k => st83 t k) ?_
    refine Go.st (V' := T83.setTop (mkF m 195 #[.val (.int p0), .val (.ref b7), .val (.int (1 : Int32)), .val (.ref s_LONG), .val (.int (1 : Int32))] [(.ref s_LONG)])) (fun t k => ?_) ?_
    · refine Jvm.RoadKit.acmp (g := (mkF m 184 #[.val (.int p0), .val (.ref b7), .val (.int (1 : Int32)), .val (.ref s_LONG), .unset] [(.ref s_EMBEDDED_ENTITY), (.ref s_LONG)])) X83 hx rfl rfl rfl (pc0 := 184) (pc' := 187) (same := false) rfl (hb hby at_184) rfl (decide_eq_false fun q => (Fld.ne (F_LONG_ordinal.ext O73.2) (F_EMBEDDED_ENTITY_ordinal.ext O73.2) (by decide)) (Value.ref.inj q)) (by decide) (by decide) ?_
      show Steps p.tables e below (T83.setTop (mkF m 187 #[.val (.int p0), .val (.ref b7), .val (.int (1 : Int32)), .val (.ref s_LONG), .unset] [])) _
      refine XS.iconst X83.here hx rfl (hb hby at_187) ?_
      show Steps p.tables e below (T83.setTop (mkF m 188 #[.val (.int p0), .val (.ref b7), .val (.int (1 : Int32)), .val (.ref s_LONG), .unset] [(.int (1 : Int32))])) _
      refine XS.goto X83.here hx rfl (pc0 := 188) (pc' := 192) rfl (hb hby at_188) (by decide) (by decide) ?_
      show Steps p.tables e below (T83.setTop (mkF m 192 #[.val (.int p0), .val (.ref b7), .val (.int (1 : Int32)), .val (.ref s_LONG), .unset] [(.int (1 : Int32))])) _
      refine XS.istore X83.here hx rfl (hb hby at_192) rfl (l' := #[.val (.int p0), .val (.ref b7), .val (.int (1 : Int32)), .val (.ref s_LONG), .val (.int (1 : Int32))]) rfl ?_
      show Steps p.tables e below (T83.setTop (mkF m 194 #[.val (.int p0), .val (.ref b7), .val (.int (1 : Int32)), .val (.ref s_LONG), .val (.int (1 : Int32))] [])) _
      refine XS.aloadN X83.here hx rfl (hb hby at_194) rfl rfl ?_
      show Steps p.tables e below (T83.setTop (mkF m 195 #[.val (.int p0), .val (.ref b7), .val (.int (1 : Int32)), .val (.ref s_LONG), .val (.int (1 : Int32))] [(.ref s_LONG)])) _
      exact k
    obtain ⟨cq84, kq84, q84a, q84b, q84c⟩ := isOf hZ e83 (E_LONG.ext O73.2)
    obtain ⟨_, _, ⟨T84, L84, k84, n84⟩, -, X84, ⟨Lc84, hQ84, l84, y84, z84⟩, st84⟩ := X83.virtualBack hx (y := (⟨"com/example/rooted_kinds/rootedkinds/model/ValueType", "isIndexed", "()Z"⟩ : MethodName)) (z := (⟨"com/example/rooted_kinds/rootedkinds/model/ValueType", "isIndexed", "()Z"⟩ : MethodName)) hown (mvT hZ (hw _ (List.mem_of_getElem? (i := 49) rfl))) (mvT hZ (hw _ (List.mem_of_getElem? (i := 50) rfl))) (notFace_of_selects (args := #[]) (mvT hZ (hw _ (List.mem_of_getElem? (i := 52) rfl)))) (mvT hZ (hw _ (List.mem_of_getElem? (i := 52) rfl))) (mvT hZ (hw _ (List.mem_of_getElem? (i := 51) rfl))) (by decide) (backOf (W := 0) (rm1r l Z a0 hw [] s_NULL s_LONG s_DOUBLE s_BOOLEAN s_STRING s_DATE s_TEXT s_BLOB s_SHORT_BLOB s_GEO_PT s_POSTAL_ADDRESS s_PHONE_NUMBER s_EMAIL s_IM_HANDLE s_LINK s_CATEGORY s_RATING s_USER s_BLOB_KEY s_KEY s_EMBEDDED_ENTITY s_LIST s_Representation_NULL s_Representation_BOOLEAN s_Representation_STRING s_Representation_DOUBLE s_INT64 s_POINT s_REFERENCE s_Representation_USER HW s_LONG s_INT64 h73 n0 O73 (F_LONG_representation.ext O73.2)) hZ (hw _ (List.mem_of_getElem? (i := 53) rfl)) (hw _ (List.mem_of_getElem? (i := 3) rfl)) (by decide) (by decide)) q84a q84c (g := (mkF m 195 #[.val (.int p0), .val (.ref b7), .val (.int (1 : Int32)), .val (.ref s_LONG), .val (.int (1 : Int32))] [(.ref s_LONG)])) rfl (by rw [hml]; rfl) (Steps.refl _) (argsL := []) (rest := []) (lenOf own_pd10 rfl) rfl (by show 2 * 0 + _ ≤ _; exact Nat.le_of_eq rfl) (hb hby at_195) (fun _ _ => ⟨rfl, e83, (by decide : 1 + 0 ≤ _), (by decide : 22 + 0 ≤ _)⟩)
    dsimp only [Pt.U, Pt.locs, Pt.cells, Pt.slots] at X84 l84 y84 z84 st84 hQ84
    subst l84 y84 z84
    obtain ⟨rfl, N84q, e84⟩ := hQ84
    have N84 := Fr.app N74 N84q
    refine Go.st (V' := T84.setTop (mkF m 198 #[.val (.int p0), .val (.ref b7), .val (.int (1 : Int32)), .val (.ref s_LONG), .val (.int (1 : Int32))] [(.int (1 : Int32))])) (fun t k => st84.trans k) ?_
    refine Go.st (V' := T84.setTop (mkF m 208 #[.val (.int p0), .val (.ref b7), .val (.int (1 : Int32)), .val (.ref s_LONG), .val (.int (1 : Int32))] [(.int (1 : Int32))])) (fun t k => ?_) ?_
    · refine XS.iload X84.here hx rfl (hb hby at_198) rfl  ?_
      show Steps p.tables e below (T84.setTop (mkF m 200 #[.val (.int p0), .val (.ref b7), .val (.int (1 : Int32)), .val (.ref s_LONG), .val (.int (1 : Int32))] [(.int (1 : Int32)), (.int (1 : Int32))])) _
      refine XS.icmpNo X84.here hx rfl (hb hby at_200) rfl (teq (by decide : ((1 : Int32) = (1 : Int32)))).2 ?_
      show Steps p.tables e below (T84.setTop (mkF m 203 #[.val (.int p0), .val (.ref b7), .val (.int (1 : Int32)), .val (.ref s_LONG), .val (.int (1 : Int32))] [])) _
      refine XS.iconst X84.here hx rfl (hb hby at_203) ?_
      show Steps p.tables e below (T84.setTop (mkF m 204 #[.val (.int p0), .val (.ref b7), .val (.int (1 : Int32)), .val (.ref s_LONG), .val (.int (1 : Int32))] [(.int (1 : Int32))])) _
      refine XS.goto X84.here hx rfl (pc0 := 204) (pc' := 208) rfl (hb hby at_204) (by decide) (by decide) ?_
      show Steps p.tables e below (T84.setTop (mkF m 208 #[.val (.int p0), .val (.ref b7), .val (.int (1 : Int32)), .val (.ref s_LONG), .val (.int (1 : Int32))] [(.int (1 : Int32))])) _
      exact k
    obtain ⟨fs, hr, hrun, hended, hW, hsame⟩ := X84.leave (v := some (.int (1 : Int32))) (fun h => by rw [Bd.returns] at h; cases h)
    refine Go.mk' ⟨_, _, retN X84 hx (t := .boolean) Bd.returns (by simp) (hb hby at_208) hr, hrun, hended, _, _, rfl, ?_, ⟨_, rfl⟩, hW, hsame.mono (by decide) (by decide)⟩
    show Q0 Z p0 h0 n0 _ T84.heap _
    rw [e84]
    exact ⟨rfl, N84⟩
  · show Go p e below _ (T73.setTop (mkF m 162 #[.val (.int p0), .val (.ref b7), .val (.int (2 : Int32)), .unset, .unset] []))
    refine Go.st (V' := T73.setTop (mkF m 164 #[.val (.int p0), .val (.ref b7), .val (.int (2 : Int32)), .unset, .unset] [(.int (2 : Int32)), (.ref b7)])) (fun t k => ?_) ?_
    · refine XS.aloadN X74.here hx rfl (hb hby at_162) rfl rfl ?_
      show Steps p.tables e below (T73.setTop (mkF m 163 #[.val (.int p0), .val (.ref b7), .val (.int (2 : Int32)), .unset, .unset] [(.ref b7)])) _
      refine XS.iloadN X74.here hx rfl (hb hby at_163) rfl  ?_
      show Steps p.tables e below (T73.setTop (mkF m 164 #[.val (.int p0), .val (.ref b7), .val (.int (2 : Int32)), .unset, .unset] [(.int (2 : Int32)), (.ref b7)])) _
      exact k
    obtain ⟨cl85, Ar85, q85, Sz85, Nn85, Ha85, Ga85⟩ := id (V73)
    have hin85 : ¬ ((2 : Int32) < 0 ∨ cl85.slots.size ≤ ((2 : Int32)).toNatClampNeg) := inb_of Sz85 ⟨by decide, by decide⟩
    refine Go.st (V' := T73.setTop (mkF m 167 #[.val (.int p0), .val (.ref b7), .val (.int (2 : Int32)), .val (.ref s_DOUBLE), .unset] [(.ref s_DOUBLE)])) (fun t k => ?_) ?_
    · show Steps p.tables e below (T73.setTop (mkF m 164 #[.val (.int p0), .val (.ref b7), .val (.int (2 : Int32)), .unset, .unset] [(.int (2 : Int32)), (.ref b7)])) _
      refine X74.aaload hx (j := (2 : Int32)) (v := (.ref s_DOUBLE)) (own_eT e73 Ar85) (State.isArrayOf_alike hZ.alike Ar85.2.1) rfl Ar85.2.2 hin85 (Ha85.at hin85 rfl) (g := (mkF m 164 #[.val (.int p0), .val (.ref b7), .val (.int (2 : Int32)), .unset, .unset] [(.int (2 : Int32)), (.ref b7)])) rfl rfl (hb hby at_164) _ ?_
      show Steps p.tables e below (T73.setTop (mkF m 165 #[.val (.int p0), .val (.ref b7), .val (.int (2 : Int32)), .unset, .unset] [(.ref s_DOUBLE)])) _
      refine XS.astoreN X74.here hx rfl (hb hby at_165) rfl rfl (l' := #[.val (.int p0), .val (.ref b7), .val (.int (2 : Int32)), .val (.ref s_DOUBLE), .unset]) rfl ?_
      show Steps p.tables e below (T73.setTop (mkF m 166 #[.val (.int p0), .val (.ref b7), .val (.int (2 : Int32)), .val (.ref s_DOUBLE), .unset] [])) _
      refine XS.aloadN X74.here hx rfl (hb hby at_166) rfl rfl ?_
      show Steps p.tables e below (T73.setTop (mkF m 167 #[.val (.int p0), .val (.ref b7), .val (.int (2 : Int32)), .val (.ref s_DOUBLE), .unset] [(.ref s_DOUBLE)])) _
      exact k
    obtain ⟨T86, X86, e86, st86⟩ := getS2 X74 hx hZ hown (host := "") (Or.inl (hw _ (List.mem_of_getElem? (i := 16) rfl))) Via.refl e73 (S_TEXT.ext O73.2) (g := (mkF m 167 #[.val (.int p0), .val (.ref b7), .val (.int (2 : Int32)), .val (.ref s_DOUBLE), .unset] [(.ref s_DOUBLE)])) rfl (hb hby at_167)
    refine Go.st (V' := T86.setTop (mkF m 170 #[.val (.int p0), .val (.ref b7), .val (.int (2 : Int32)), .val (.ref s_DOUBLE), .unset] [(.ref s_TEXT), (.ref s_DOUBLE)])) (fun t k => st86 t k) ?_
    refine Go.st (V' := T86.setTop (mkF m 174 #[.val (.int p0), .val (.ref b7), .val (.int (2 : Int32)), .val (.ref s_DOUBLE), .unset] [(.ref s_DOUBLE)])) (fun t k => ?_) ?_
    · refine Jvm.RoadKit.acmp (g := (mkF m 170 #[.val (.int p0), .val (.ref b7), .val (.int (2 : Int32)), .val (.ref s_DOUBLE), .unset] [(.ref s_TEXT), (.ref s_DOUBLE)])) X86 hx rfl rfl rfl (pc0 := 170) (pc' := 173) (same := false) rfl (hb hby at_170) rfl (decide_eq_false fun q => (Fld.ne (F_DOUBLE_ordinal.ext O73.2) (F_TEXT_ordinal.ext O73.2) (by decide)) (Value.ref.inj q)) (by decide) (by decide) ?_
      show Steps p.tables e below (T86.setTop (mkF m 173 #[.val (.int p0), .val (.ref b7), .val (.int (2 : Int32)), .val (.ref s_DOUBLE), .unset] [])) _
      refine XS.aloadN X86.here hx rfl (hb hby at_173) rfl rfl ?_
      show Steps p.tables e below (T86.setTop (mkF m 174 #[.val (.int p0), .val (.ref b7), .val (.int (2 : Int32)), .val (.ref s_DOUBLE), .unset] [(.ref s_DOUBLE)])) _
      exact k
    obtain ⟨T87, X87, e87, st87⟩ := getS2 X86 hx hZ hown (host := "") (Or.inl (hw _ (List.mem_of_getElem? (i := 18) rfl))) Via.refl e86 (S_BLOB.ext O73.2) (g := (mkF m 174 #[.val (.int p0), .val (.ref b7), .val (.int (2 : Int32)), .val (.ref s_DOUBLE), .unset] [(.ref s_DOUBLE)])) rfl (hb hby at_174)
    refine Go.st (V' := T87.setTop (mkF m 177 #[.val (.int p0), .val (.ref b7), .val (.int (2 : Int32)), .val (.ref s_DOUBLE), .unset] [(.ref s_BLOB), (.ref s_DOUBLE)])) (fun t k => st87 t k) ?_
    refine Go.st (V' := T87.setTop (mkF m 181 #[.val (.int p0), .val (.ref b7), .val (.int (2 : Int32)), .val (.ref s_DOUBLE), .unset] [(.ref s_DOUBLE)])) (fun t k => ?_) ?_
    · refine Jvm.RoadKit.acmp (g := (mkF m 177 #[.val (.int p0), .val (.ref b7), .val (.int (2 : Int32)), .val (.ref s_DOUBLE), .unset] [(.ref s_BLOB), (.ref s_DOUBLE)])) X87 hx rfl rfl rfl (pc0 := 177) (pc' := 180) (same := false) rfl (hb hby at_177) rfl (decide_eq_false fun q => (Fld.ne (F_DOUBLE_ordinal.ext O73.2) (F_BLOB_ordinal.ext O73.2) (by decide)) (Value.ref.inj q)) (by decide) (by decide) ?_
      show Steps p.tables e below (T87.setTop (mkF m 180 #[.val (.int p0), .val (.ref b7), .val (.int (2 : Int32)), .val (.ref s_DOUBLE), .unset] [])) _
      refine XS.aloadN X87.here hx rfl (hb hby at_180) rfl rfl ?_
      show Steps p.tables e below (T87.setTop (mkF m 181 #[.val (.int p0), .val (.ref b7), .val (.int (2 : Int32)), .val (.ref s_DOUBLE), .unset] [(.ref s_DOUBLE)])) _
      exact k
    obtain ⟨T88, X88, e88, st88⟩ := getS2 X87 hx hZ hown (host := "") (Or.inl (hw _ (List.mem_of_getElem? (i := 44) rfl))) Via.refl e87 (S_EMBEDDED_ENTITY.ext O73.2) (g := (mkF m 181 #[.val (.int p0), .val (.ref b7), .val (.int (2 : Int32)), .val (.ref s_DOUBLE), .unset] [(.ref s_DOUBLE)])) rfl (hb hby at_181)
    refine Go.st (V' := T88.setTop (mkF m 184 #[.val (.int p0), .val (.ref b7), .val (.int (2 : Int32)), .val (.ref s_DOUBLE), .unset] [(.ref s_EMBEDDED_ENTITY), (.ref s_DOUBLE)])) (fun t k => st88 t k) ?_
    refine Go.st (V' := T88.setTop (mkF m 195 #[.val (.int p0), .val (.ref b7), .val (.int (2 : Int32)), .val (.ref s_DOUBLE), .val (.int (1 : Int32))] [(.ref s_DOUBLE)])) (fun t k => ?_) ?_
    · refine Jvm.RoadKit.acmp (g := (mkF m 184 #[.val (.int p0), .val (.ref b7), .val (.int (2 : Int32)), .val (.ref s_DOUBLE), .unset] [(.ref s_EMBEDDED_ENTITY), (.ref s_DOUBLE)])) X88 hx rfl rfl rfl (pc0 := 184) (pc' := 187) (same := false) rfl (hb hby at_184) rfl (decide_eq_false fun q => (Fld.ne (F_DOUBLE_ordinal.ext O73.2) (F_EMBEDDED_ENTITY_ordinal.ext O73.2) (by decide)) (Value.ref.inj q)) (by decide) (by decide) ?_
      show Steps p.tables e below (T88.setTop (mkF m 187 #[.val (.int p0), .val (.ref b7), .val (.int (2 : Int32)), .val (.ref s_DOUBLE), .unset] [])) _
      refine XS.iconst X88.here hx rfl (hb hby at_187) ?_
      show Steps p.tables e below (T88.setTop (mkF m 188 #[.val (.int p0), .val (.ref b7), .val (.int (2 : Int32)), .val (.ref s_DOUBLE), .unset] [(.int (1 : Int32))])) _
      refine XS.goto X88.here hx rfl (pc0 := 188) (pc' := 192) rfl (hb hby at_188) (by decide) (by decide) ?_
      show Steps p.tables e below (T88.setTop (mkF m 192 #[.val (.int p0), .val (.ref b7), .val (.int (2 : Int32)), .val (.ref s_DOUBLE), .unset] [(.int (1 : Int32))])) _
      refine XS.istore X88.here hx rfl (hb hby at_192) rfl (l' := #[.val (.int p0), .val (.ref b7), .val (.int (2 : Int32)), .val (.ref s_DOUBLE), .val (.int (1 : Int32))]) rfl ?_
      show Steps p.tables e below (T88.setTop (mkF m 194 #[.val (.int p0), .val (.ref b7), .val (.int (2 : Int32)), .val (.ref s_DOUBLE), .val (.int (1 : Int32))] [])) _
      refine XS.aloadN X88.here hx rfl (hb hby at_194) rfl rfl ?_
      show Steps p.tables e below (T88.setTop (mkF m 195 #[.val (.int p0), .val (.ref b7), .val (.int (2 : Int32)), .val (.ref s_DOUBLE), .val (.int (1 : Int32))] [(.ref s_DOUBLE)])) _
      exact k
    obtain ⟨cq89, kq89, q89a, q89b, q89c⟩ := isOf hZ e88 (E_DOUBLE.ext O73.2)
    obtain ⟨_, _, ⟨T89, L89, k89, n89⟩, -, X89, ⟨Lc89, hQ89, l89, y89, z89⟩, st89⟩ := X88.virtualBack hx (y := (⟨"com/example/rooted_kinds/rootedkinds/model/ValueType", "isIndexed", "()Z"⟩ : MethodName)) (z := (⟨"com/example/rooted_kinds/rootedkinds/model/ValueType", "isIndexed", "()Z"⟩ : MethodName)) hown (mvT hZ (hw _ (List.mem_of_getElem? (i := 49) rfl))) (mvT hZ (hw _ (List.mem_of_getElem? (i := 50) rfl))) (notFace_of_selects (args := #[]) (mvT hZ (hw _ (List.mem_of_getElem? (i := 52) rfl)))) (mvT hZ (hw _ (List.mem_of_getElem? (i := 52) rfl))) (mvT hZ (hw _ (List.mem_of_getElem? (i := 51) rfl))) (by decide) (backOf (W := 0) (rm1r l Z a0 hw [] s_NULL s_LONG s_DOUBLE s_BOOLEAN s_STRING s_DATE s_TEXT s_BLOB s_SHORT_BLOB s_GEO_PT s_POSTAL_ADDRESS s_PHONE_NUMBER s_EMAIL s_IM_HANDLE s_LINK s_CATEGORY s_RATING s_USER s_BLOB_KEY s_KEY s_EMBEDDED_ENTITY s_LIST s_Representation_NULL s_Representation_BOOLEAN s_Representation_STRING s_Representation_DOUBLE s_INT64 s_POINT s_REFERENCE s_Representation_USER HW s_DOUBLE s_Representation_DOUBLE h73 n0 O73 (F_DOUBLE_representation.ext O73.2)) hZ (hw _ (List.mem_of_getElem? (i := 53) rfl)) (hw _ (List.mem_of_getElem? (i := 3) rfl)) (by decide) (by decide)) q89a q89c (g := (mkF m 195 #[.val (.int p0), .val (.ref b7), .val (.int (2 : Int32)), .val (.ref s_DOUBLE), .val (.int (1 : Int32))] [(.ref s_DOUBLE)])) rfl (by rw [hml]; rfl) (Steps.refl _) (argsL := []) (rest := []) (lenOf own_pd10 rfl) rfl (by show 2 * 0 + _ ≤ _; exact Nat.le_of_eq rfl) (hb hby at_195) (fun _ _ => ⟨rfl, e88, (by decide : 1 + 0 ≤ _), (by decide : 22 + 0 ≤ _)⟩)
    dsimp only [Pt.U, Pt.locs, Pt.cells, Pt.slots] at X89 l89 y89 z89 st89 hQ89
    subst l89 y89 z89
    obtain ⟨rfl, N89q, e89⟩ := hQ89
    have N89 := Fr.app N74 N89q
    refine Go.st (V' := T89.setTop (mkF m 198 #[.val (.int p0), .val (.ref b7), .val (.int (2 : Int32)), .val (.ref s_DOUBLE), .val (.int (1 : Int32))] [(.int (1 : Int32))])) (fun t k => st89.trans k) ?_
    refine Go.st (V' := T89.setTop (mkF m 208 #[.val (.int p0), .val (.ref b7), .val (.int (2 : Int32)), .val (.ref s_DOUBLE), .val (.int (1 : Int32))] [(.int (1 : Int32))])) (fun t k => ?_) ?_
    · refine XS.iload X89.here hx rfl (hb hby at_198) rfl  ?_
      show Steps p.tables e below (T89.setTop (mkF m 200 #[.val (.int p0), .val (.ref b7), .val (.int (2 : Int32)), .val (.ref s_DOUBLE), .val (.int (1 : Int32))] [(.int (1 : Int32)), (.int (1 : Int32))])) _
      refine XS.icmpNo X89.here hx rfl (hb hby at_200) rfl (teq (by decide : ((1 : Int32) = (1 : Int32)))).2 ?_
      show Steps p.tables e below (T89.setTop (mkF m 203 #[.val (.int p0), .val (.ref b7), .val (.int (2 : Int32)), .val (.ref s_DOUBLE), .val (.int (1 : Int32))] [])) _
      refine XS.iconst X89.here hx rfl (hb hby at_203) ?_
      show Steps p.tables e below (T89.setTop (mkF m 204 #[.val (.int p0), .val (.ref b7), .val (.int (2 : Int32)), .val (.ref s_DOUBLE), .val (.int (1 : Int32))] [(.int (1 : Int32))])) _
      refine XS.goto X89.here hx rfl (pc0 := 204) (pc' := 208) rfl (hb hby at_204) (by decide) (by decide) ?_
      show Steps p.tables e below (T89.setTop (mkF m 208 #[.val (.int p0), .val (.ref b7), .val (.int (2 : Int32)), .val (.ref s_DOUBLE), .val (.int (1 : Int32))] [(.int (1 : Int32))])) _
      exact k
    obtain ⟨fs, hr, hrun, hended, hW, hsame⟩ := X89.leave (v := some (.int (1 : Int32))) (fun h => by rw [Bd.returns] at h; cases h)
    refine Go.mk' ⟨_, _, retN X89 hx (t := .boolean) Bd.returns (by simp) (hb hby at_208) hr, hrun, hended, _, _, rfl, ?_, ⟨_, rfl⟩, hW, hsame.mono (by decide) (by decide)⟩
    show Q0 Z p0 h0 n0 _ T89.heap _
    rw [e89]
    exact ⟨rfl, N89⟩
  · show Go p e below _ (T73.setTop (mkF m 162 #[.val (.int p0), .val (.ref b7), .val (.int (3 : Int32)), .unset, .unset] []))
    refine Go.st (V' := T73.setTop (mkF m 164 #[.val (.int p0), .val (.ref b7), .val (.int (3 : Int32)), .unset, .unset] [(.int (3 : Int32)), (.ref b7)])) (fun t k => ?_) ?_
    · refine XS.aloadN X74.here hx rfl (hb hby at_162) rfl rfl ?_
      show Steps p.tables e below (T73.setTop (mkF m 163 #[.val (.int p0), .val (.ref b7), .val (.int (3 : Int32)), .unset, .unset] [(.ref b7)])) _
      refine XS.iloadN X74.here hx rfl (hb hby at_163) rfl  ?_
      show Steps p.tables e below (T73.setTop (mkF m 164 #[.val (.int p0), .val (.ref b7), .val (.int (3 : Int32)), .unset, .unset] [(.int (3 : Int32)), (.ref b7)])) _
      exact k
    obtain ⟨cl90, Ar90, q90, Sz90, Nn90, Ha90, Ga90⟩ := id (V73)
    have hin90 : ¬ ((3 : Int32) < 0 ∨ cl90.slots.size ≤ ((3 : Int32)).toNatClampNeg) := inb_of Sz90 ⟨by decide, by decide⟩
    refine Go.st (V' := T73.setTop (mkF m 167 #[.val (.int p0), .val (.ref b7), .val (.int (3 : Int32)), .val (.ref s_BOOLEAN), .unset] [(.ref s_BOOLEAN)])) (fun t k => ?_) ?_
    · show Steps p.tables e below (T73.setTop (mkF m 164 #[.val (.int p0), .val (.ref b7), .val (.int (3 : Int32)), .unset, .unset] [(.int (3 : Int32)), (.ref b7)])) _
      refine X74.aaload hx (j := (3 : Int32)) (v := (.ref s_BOOLEAN)) (own_eT e73 Ar90) (State.isArrayOf_alike hZ.alike Ar90.2.1) rfl Ar90.2.2 hin90 (Ha90.at hin90 rfl) (g := (mkF m 164 #[.val (.int p0), .val (.ref b7), .val (.int (3 : Int32)), .unset, .unset] [(.int (3 : Int32)), (.ref b7)])) rfl rfl (hb hby at_164) _ ?_
      show Steps p.tables e below (T73.setTop (mkF m 165 #[.val (.int p0), .val (.ref b7), .val (.int (3 : Int32)), .unset, .unset] [(.ref s_BOOLEAN)])) _
      refine XS.astoreN X74.here hx rfl (hb hby at_165) rfl rfl (l' := #[.val (.int p0), .val (.ref b7), .val (.int (3 : Int32)), .val (.ref s_BOOLEAN), .unset]) rfl ?_
      show Steps p.tables e below (T73.setTop (mkF m 166 #[.val (.int p0), .val (.ref b7), .val (.int (3 : Int32)), .val (.ref s_BOOLEAN), .unset] [])) _
      refine XS.aloadN X74.here hx rfl (hb hby at_166) rfl rfl ?_
      show Steps p.tables e below (T73.setTop (mkF m 167 #[.val (.int p0), .val (.ref b7), .val (.int (3 : Int32)), .val (.ref s_BOOLEAN), .unset] [(.ref s_BOOLEAN)])) _
      exact k
    obtain ⟨T91, X91, e91, st91⟩ := getS2 X74 hx hZ hown (host := "") (Or.inl (hw _ (List.mem_of_getElem? (i := 16) rfl))) Via.refl e73 (S_TEXT.ext O73.2) (g := (mkF m 167 #[.val (.int p0), .val (.ref b7), .val (.int (3 : Int32)), .val (.ref s_BOOLEAN), .unset] [(.ref s_BOOLEAN)])) rfl (hb hby at_167)
    refine Go.st (V' := T91.setTop (mkF m 170 #[.val (.int p0), .val (.ref b7), .val (.int (3 : Int32)), .val (.ref s_BOOLEAN), .unset] [(.ref s_TEXT), (.ref s_BOOLEAN)])) (fun t k => st91 t k) ?_
    refine Go.st (V' := T91.setTop (mkF m 174 #[.val (.int p0), .val (.ref b7), .val (.int (3 : Int32)), .val (.ref s_BOOLEAN), .unset] [(.ref s_BOOLEAN)])) (fun t k => ?_) ?_
    · refine Jvm.RoadKit.acmp (g := (mkF m 170 #[.val (.int p0), .val (.ref b7), .val (.int (3 : Int32)), .val (.ref s_BOOLEAN), .unset] [(.ref s_TEXT), (.ref s_BOOLEAN)])) X91 hx rfl rfl rfl (pc0 := 170) (pc' := 173) (same := false) rfl (hb hby at_170) rfl (decide_eq_false fun q => (Fld.ne (F_BOOLEAN_ordinal.ext O73.2) (F_TEXT_ordinal.ext O73.2) (by decide)) (Value.ref.inj q)) (by decide) (by decide) ?_
      show Steps p.tables e below (T91.setTop (mkF m 173 #[.val (.int p0), .val (.ref b7), .val (.int (3 : Int32)), .val (.ref s_BOOLEAN), .unset] [])) _
      refine XS.aloadN X91.here hx rfl (hb hby at_173) rfl rfl ?_
      show Steps p.tables e below (T91.setTop (mkF m 174 #[.val (.int p0), .val (.ref b7), .val (.int (3 : Int32)), .val (.ref s_BOOLEAN), .unset] [(.ref s_BOOLEAN)])) _
      exact k
    obtain ⟨T92, X92, e92, st92⟩ := getS2 X91 hx hZ hown (host := "") (Or.inl (hw _ (List.mem_of_getElem? (i := 18) rfl))) Via.refl e91 (S_BLOB.ext O73.2) (g := (mkF m 174 #[.val (.int p0), .val (.ref b7), .val (.int (3 : Int32)), .val (.ref s_BOOLEAN), .unset] [(.ref s_BOOLEAN)])) rfl (hb hby at_174)
    refine Go.st (V' := T92.setTop (mkF m 177 #[.val (.int p0), .val (.ref b7), .val (.int (3 : Int32)), .val (.ref s_BOOLEAN), .unset] [(.ref s_BLOB), (.ref s_BOOLEAN)])) (fun t k => st92 t k) ?_
    refine Go.st (V' := T92.setTop (mkF m 181 #[.val (.int p0), .val (.ref b7), .val (.int (3 : Int32)), .val (.ref s_BOOLEAN), .unset] [(.ref s_BOOLEAN)])) (fun t k => ?_) ?_
    · refine Jvm.RoadKit.acmp (g := (mkF m 177 #[.val (.int p0), .val (.ref b7), .val (.int (3 : Int32)), .val (.ref s_BOOLEAN), .unset] [(.ref s_BLOB), (.ref s_BOOLEAN)])) X92 hx rfl rfl rfl (pc0 := 177) (pc' := 180) (same := false) rfl (hb hby at_177) rfl (decide_eq_false fun q => (Fld.ne (F_BOOLEAN_ordinal.ext O73.2) (F_BLOB_ordinal.ext O73.2) (by decide)) (Value.ref.inj q)) (by decide) (by decide) ?_
      show Steps p.tables e below (T92.setTop (mkF m 180 #[.val (.int p0), .val (.ref b7), .val (.int (3 : Int32)), .val (.ref s_BOOLEAN), .unset] [])) _
      refine XS.aloadN X92.here hx rfl (hb hby at_180) rfl rfl ?_
      show Steps p.tables e below (T92.setTop (mkF m 181 #[.val (.int p0), .val (.ref b7), .val (.int (3 : Int32)), .val (.ref s_BOOLEAN), .unset] [(.ref s_BOOLEAN)])) _
      exact k
    obtain ⟨T93, X93, e93, st93⟩ := getS2 X92 hx hZ hown (host := "") (Or.inl (hw _ (List.mem_of_getElem? (i := 44) rfl))) Via.refl e92 (S_EMBEDDED_ENTITY.ext O73.2) (g := (mkF m 181 #[.val (.int p0), .val (.ref b7), .val (.int (3 : Int32)), .val (.ref s_BOOLEAN), .unset] [(.ref s_BOOLEAN)])) rfl (hb hby at_181)
    refine Go.st (V' := T93.setTop (mkF m 184 #[.val (.int p0), .val (.ref b7), .val (.int (3 : Int32)), .val (.ref s_BOOLEAN), .unset] [(.ref s_EMBEDDED_ENTITY), (.ref s_BOOLEAN)])) (fun t k => st93 t k) ?_
    refine Go.st (V' := T93.setTop (mkF m 195 #[.val (.int p0), .val (.ref b7), .val (.int (3 : Int32)), .val (.ref s_BOOLEAN), .val (.int (1 : Int32))] [(.ref s_BOOLEAN)])) (fun t k => ?_) ?_
    · refine Jvm.RoadKit.acmp (g := (mkF m 184 #[.val (.int p0), .val (.ref b7), .val (.int (3 : Int32)), .val (.ref s_BOOLEAN), .unset] [(.ref s_EMBEDDED_ENTITY), (.ref s_BOOLEAN)])) X93 hx rfl rfl rfl (pc0 := 184) (pc' := 187) (same := false) rfl (hb hby at_184) rfl (decide_eq_false fun q => (Fld.ne (F_BOOLEAN_ordinal.ext O73.2) (F_EMBEDDED_ENTITY_ordinal.ext O73.2) (by decide)) (Value.ref.inj q)) (by decide) (by decide) ?_
      show Steps p.tables e below (T93.setTop (mkF m 187 #[.val (.int p0), .val (.ref b7), .val (.int (3 : Int32)), .val (.ref s_BOOLEAN), .unset] [])) _
      refine XS.iconst X93.here hx rfl (hb hby at_187) ?_
      show Steps p.tables e below (T93.setTop (mkF m 188 #[.val (.int p0), .val (.ref b7), .val (.int (3 : Int32)), .val (.ref s_BOOLEAN), .unset] [(.int (1 : Int32))])) _
      refine XS.goto X93.here hx rfl (pc0 := 188) (pc' := 192) rfl (hb hby at_188) (by decide) (by decide) ?_
      show Steps p.tables e below (T93.setTop (mkF m 192 #[.val (.int p0), .val (.ref b7), .val (.int (3 : Int32)), .val (.ref s_BOOLEAN), .unset] [(.int (1 : Int32))])) _
      refine XS.istore X93.here hx rfl (hb hby at_192) rfl (l' := #[.val (.int p0), .val (.ref b7), .val (.int (3 : Int32)), .val (.ref s_BOOLEAN), .val (.int (1 : Int32))]) rfl ?_
      show Steps p.tables e below (T93.setTop (mkF m 194 #[.val (.int p0), .val (.ref b7), .val (.int (3 : Int32)), .val (.ref s_BOOLEAN), .val (.int (1 : Int32))] [])) _
      refine XS.aloadN X93.here hx rfl (hb hby at_194) rfl rfl ?_
      show Steps p.tables e below (T93.setTop (mkF m 195 #[.val (.int p0), .val (.ref b7), .val (.int (3 : Int32)), .val (.ref s_BOOLEAN), .val (.int (1 : Int32))] [(.ref s_BOOLEAN)])) _
      exact k
    obtain ⟨cq94, kq94, q94a, q94b, q94c⟩ := isOf hZ e93 (E_BOOLEAN.ext O73.2)
    obtain ⟨_, _, ⟨T94, L94, k94, n94⟩, -, X94, ⟨Lc94, hQ94, l94, y94, z94⟩, st94⟩ := X93.virtualBack hx (y := (⟨"com/example/rooted_kinds/rootedkinds/model/ValueType", "isIndexed", "()Z"⟩ : MethodName)) (z := (⟨"com/example/rooted_kinds/rootedkinds/model/ValueType", "isIndexed", "()Z"⟩ : MethodName)) hown (mvT hZ (hw _ (List.mem_of_getElem? (i := 49) rfl))) (mvT hZ (hw _ (List.mem_of_getElem? (i := 50) rfl))) (notFace_of_selects (args := #[]) (mvT hZ (hw _ (List.mem_of_getElem? (i := 52) rfl)))) (mvT hZ (hw _ (List.mem_of_getElem? (i := 52) rfl))) (mvT hZ (hw _ (List.mem_of_getElem? (i := 51) rfl))) (by decide) (backOf (W := 0) (rm1r l Z a0 hw [] s_NULL s_LONG s_DOUBLE s_BOOLEAN s_STRING s_DATE s_TEXT s_BLOB s_SHORT_BLOB s_GEO_PT s_POSTAL_ADDRESS s_PHONE_NUMBER s_EMAIL s_IM_HANDLE s_LINK s_CATEGORY s_RATING s_USER s_BLOB_KEY s_KEY s_EMBEDDED_ENTITY s_LIST s_Representation_NULL s_Representation_BOOLEAN s_Representation_STRING s_Representation_DOUBLE s_INT64 s_POINT s_REFERENCE s_Representation_USER HW s_BOOLEAN s_Representation_BOOLEAN h73 n0 O73 (F_BOOLEAN_representation.ext O73.2)) hZ (hw _ (List.mem_of_getElem? (i := 53) rfl)) (hw _ (List.mem_of_getElem? (i := 3) rfl)) (by decide) (by decide)) q94a q94c (g := (mkF m 195 #[.val (.int p0), .val (.ref b7), .val (.int (3 : Int32)), .val (.ref s_BOOLEAN), .val (.int (1 : Int32))] [(.ref s_BOOLEAN)])) rfl (by rw [hml]; rfl) (Steps.refl _) (argsL := []) (rest := []) (lenOf own_pd10 rfl) rfl (by show 2 * 0 + _ ≤ _; exact Nat.le_of_eq rfl) (hb hby at_195) (fun _ _ => ⟨rfl, e93, (by decide : 1 + 0 ≤ _), (by decide : 22 + 0 ≤ _)⟩)
    dsimp only [Pt.U, Pt.locs, Pt.cells, Pt.slots] at X94 l94 y94 z94 st94 hQ94
    subst l94 y94 z94
    obtain ⟨rfl, N94q, e94⟩ := hQ94
    have N94 := Fr.app N74 N94q
    refine Go.st (V' := T94.setTop (mkF m 198 #[.val (.int p0), .val (.ref b7), .val (.int (3 : Int32)), .val (.ref s_BOOLEAN), .val (.int (1 : Int32))] [(.int (1 : Int32))])) (fun t k => st94.trans k) ?_
    refine Go.st (V' := T94.setTop (mkF m 208 #[.val (.int p0), .val (.ref b7), .val (.int (3 : Int32)), .val (.ref s_BOOLEAN), .val (.int (1 : Int32))] [(.int (1 : Int32))])) (fun t k => ?_) ?_
    · refine XS.iload X94.here hx rfl (hb hby at_198) rfl  ?_
      show Steps p.tables e below (T94.setTop (mkF m 200 #[.val (.int p0), .val (.ref b7), .val (.int (3 : Int32)), .val (.ref s_BOOLEAN), .val (.int (1 : Int32))] [(.int (1 : Int32)), (.int (1 : Int32))])) _
      refine XS.icmpNo X94.here hx rfl (hb hby at_200) rfl (teq (by decide : ((1 : Int32) = (1 : Int32)))).2 ?_
      show Steps p.tables e below (T94.setTop (mkF m 203 #[.val (.int p0), .val (.ref b7), .val (.int (3 : Int32)), .val (.ref s_BOOLEAN), .val (.int (1 : Int32))] [])) _
      refine XS.iconst X94.here hx rfl (hb hby at_203) ?_
      show Steps p.tables e below (T94.setTop (mkF m 204 #[.val (.int p0), .val (.ref b7), .val (.int (3 : Int32)), .val (.ref s_BOOLEAN), .val (.int (1 : Int32))] [(.int (1 : Int32))])) _
      refine XS.goto X94.here hx rfl (pc0 := 204) (pc' := 208) rfl (hb hby at_204) (by decide) (by decide) ?_
      show Steps p.tables e below (T94.setTop (mkF m 208 #[.val (.int p0), .val (.ref b7), .val (.int (3 : Int32)), .val (.ref s_BOOLEAN), .val (.int (1 : Int32))] [(.int (1 : Int32))])) _
      exact k
    obtain ⟨fs, hr, hrun, hended, hW, hsame⟩ := X94.leave (v := some (.int (1 : Int32))) (fun h => by rw [Bd.returns] at h; cases h)
    refine Go.mk' ⟨_, _, retN X94 hx (t := .boolean) Bd.returns (by simp) (hb hby at_208) hr, hrun, hended, _, _, rfl, ?_, ⟨_, rfl⟩, hW, hsame.mono (by decide) (by decide)⟩
    show Q0 Z p0 h0 n0 _ T94.heap _
    rw [e94]
    exact ⟨rfl, N94⟩
  · show Go p e below _ (T73.setTop (mkF m 162 #[.val (.int p0), .val (.ref b7), .val (.int (4 : Int32)), .unset, .unset] []))
    refine Go.st (V' := T73.setTop (mkF m 164 #[.val (.int p0), .val (.ref b7), .val (.int (4 : Int32)), .unset, .unset] [(.int (4 : Int32)), (.ref b7)])) (fun t k => ?_) ?_
    · refine XS.aloadN X74.here hx rfl (hb hby at_162) rfl rfl ?_
      show Steps p.tables e below (T73.setTop (mkF m 163 #[.val (.int p0), .val (.ref b7), .val (.int (4 : Int32)), .unset, .unset] [(.ref b7)])) _
      refine XS.iloadN X74.here hx rfl (hb hby at_163) rfl  ?_
      show Steps p.tables e below (T73.setTop (mkF m 164 #[.val (.int p0), .val (.ref b7), .val (.int (4 : Int32)), .unset, .unset] [(.int (4 : Int32)), (.ref b7)])) _
      exact k
    obtain ⟨cl95, Ar95, q95, Sz95, Nn95, Ha95, Ga95⟩ := id (V73)
    have hin95 : ¬ ((4 : Int32) < 0 ∨ cl95.slots.size ≤ ((4 : Int32)).toNatClampNeg) := inb_of Sz95 ⟨by decide, by decide⟩
    refine Go.st (V' := T73.setTop (mkF m 167 #[.val (.int p0), .val (.ref b7), .val (.int (4 : Int32)), .val (.ref s_STRING), .unset] [(.ref s_STRING)])) (fun t k => ?_) ?_
    · show Steps p.tables e below (T73.setTop (mkF m 164 #[.val (.int p0), .val (.ref b7), .val (.int (4 : Int32)), .unset, .unset] [(.int (4 : Int32)), (.ref b7)])) _
      refine X74.aaload hx (j := (4 : Int32)) (v := (.ref s_STRING)) (own_eT e73 Ar95) (State.isArrayOf_alike hZ.alike Ar95.2.1) rfl Ar95.2.2 hin95 (Ha95.at hin95 rfl) (g := (mkF m 164 #[.val (.int p0), .val (.ref b7), .val (.int (4 : Int32)), .unset, .unset] [(.int (4 : Int32)), (.ref b7)])) rfl rfl (hb hby at_164) _ ?_
      show Steps p.tables e below (T73.setTop (mkF m 165 #[.val (.int p0), .val (.ref b7), .val (.int (4 : Int32)), .unset, .unset] [(.ref s_STRING)])) _
      refine XS.astoreN X74.here hx rfl (hb hby at_165) rfl rfl (l' := #[.val (.int p0), .val (.ref b7), .val (.int (4 : Int32)), .val (.ref s_STRING), .unset]) rfl ?_
      show Steps p.tables e below (T73.setTop (mkF m 166 #[.val (.int p0), .val (.ref b7), .val (.int (4 : Int32)), .val (.ref s_STRING), .unset] [])) _
      refine XS.aloadN X74.here hx rfl (hb hby at_166) rfl rfl ?_
      show Steps p.tables e below (T73.setTop (mkF m 167 #[.val (.int p0), .val (.ref b7), .val (.int (4 : Int32)), .val (.ref s_STRING), .unset] [(.ref s_STRING)])) _
      exact k
    obtain ⟨T96, X96, e96, st96⟩ := getS2 X74 hx hZ hown (host := "") (Or.inl (hw _ (List.mem_of_getElem? (i := 16) rfl))) Via.refl e73 (S_TEXT.ext O73.2) (g := (mkF m 167 #[.val (.int p0), .val (.ref b7), .val (.int (4 : Int32)), .val (.ref s_STRING), .unset] [(.ref s_STRING)])) rfl (hb hby at_167)
    refine Go.st (V' := T96.setTop (mkF m 170 #[.val (.int p0), .val (.ref b7), .val (.int (4 : Int32)), .val (.ref s_STRING), .unset] [(.ref s_TEXT), (.ref s_STRING)])) (fun t k => st96 t k) ?_
    refine Go.st (V' := T96.setTop (mkF m 174 #[.val (.int p0), .val (.ref b7), .val (.int (4 : Int32)), .val (.ref s_STRING), .unset] [(.ref s_STRING)])) (fun t k => ?_) ?_
    · refine Jvm.RoadKit.acmp (g := (mkF m 170 #[.val (.int p0), .val (.ref b7), .val (.int (4 : Int32)), .val (.ref s_STRING), .unset] [(.ref s_TEXT), (.ref s_STRING)])) X96 hx rfl rfl rfl (pc0 := 170) (pc' := 173) (same := false) rfl (hb hby at_170) rfl (decide_eq_false fun q => (Fld.ne (F_STRING_ordinal.ext O73.2) (F_TEXT_ordinal.ext O73.2) (by decide)) (Value.ref.inj q)) (by decide) (by decide) ?_
      show Steps p.tables e below (T96.setTop (mkF m 173 #[.val (.int p0), .val (.ref b7), .val (.int (4 : Int32)), .val (.ref s_STRING), .unset] [])) _
      refine XS.aloadN X96.here hx rfl (hb hby at_173) rfl rfl ?_
      show Steps p.tables e below (T96.setTop (mkF m 174 #[.val (.int p0), .val (.ref b7), .val (.int (4 : Int32)), .val (.ref s_STRING), .unset] [(.ref s_STRING)])) _
      exact k
    obtain ⟨T97, X97, e97, st97⟩ := getS2 X96 hx hZ hown (host := "") (Or.inl (hw _ (List.mem_of_getElem? (i := 18) rfl))) Via.refl e96 (S_BLOB.ext O73.2) (g := (mkF m 174 #[.val (.int p0), .val (.ref b7), .val (.int (4 : Int32)), .val (.ref s_STRING), .unset] [(.ref s_STRING)])) rfl (hb hby at_174)
    refine Go.st (V' := T97.setTop (mkF m 177 #[.val (.int p0), .val (.ref b7), .val (.int (4 : Int32)), .val (.ref s_STRING), .unset] [(.ref s_BLOB), (.ref s_STRING)])) (fun t k => st97 t k) ?_
    refine Go.st (V' := T97.setTop (mkF m 181 #[.val (.int p0), .val (.ref b7), .val (.int (4 : Int32)), .val (.ref s_STRING), .unset] [(.ref s_STRING)])) (fun t k => ?_) ?_
    · refine Jvm.RoadKit.acmp (g := (mkF m 177 #[.val (.int p0), .val (.ref b7), .val (.int (4 : Int32)), .val (.ref s_STRING), .unset] [(.ref s_BLOB), (.ref s_STRING)])) X97 hx rfl rfl rfl (pc0 := 177) (pc' := 180) (same := false) rfl (hb hby at_177) rfl (decide_eq_false fun q => (Fld.ne (F_STRING_ordinal.ext O73.2) (F_BLOB_ordinal.ext O73.2) (by decide)) (Value.ref.inj q)) (by decide) (by decide) ?_
      show Steps p.tables e below (T97.setTop (mkF m 180 #[.val (.int p0), .val (.ref b7), .val (.int (4 : Int32)), .val (.ref s_STRING), .unset] [])) _
      refine XS.aloadN X97.here hx rfl (hb hby at_180) rfl rfl ?_
      show Steps p.tables e below (T97.setTop (mkF m 181 #[.val (.int p0), .val (.ref b7), .val (.int (4 : Int32)), .val (.ref s_STRING), .unset] [(.ref s_STRING)])) _
      exact k
    obtain ⟨T98, X98, e98, st98⟩ := getS2 X97 hx hZ hown (host := "") (Or.inl (hw _ (List.mem_of_getElem? (i := 44) rfl))) Via.refl e97 (S_EMBEDDED_ENTITY.ext O73.2) (g := (mkF m 181 #[.val (.int p0), .val (.ref b7), .val (.int (4 : Int32)), .val (.ref s_STRING), .unset] [(.ref s_STRING)])) rfl (hb hby at_181)
    refine Go.st (V' := T98.setTop (mkF m 184 #[.val (.int p0), .val (.ref b7), .val (.int (4 : Int32)), .val (.ref s_STRING), .unset] [(.ref s_EMBEDDED_ENTITY), (.ref s_STRING)])) (fun t k => st98 t k) ?_
    refine Go.st (V' := T98.setTop (mkF m 195 #[.val (.int p0), .val (.ref b7), .val (.int (4 : Int32)), .val (.ref s_STRING), .val (.int (1 : Int32))] [(.ref s_STRING)])) (fun t k => ?_) ?_
    · refine Jvm.RoadKit.acmp (g := (mkF m 184 #[.val (.int p0), .val (.ref b7), .val (.int (4 : Int32)), .val (.ref s_STRING), .unset] [(.ref s_EMBEDDED_ENTITY), (.ref s_STRING)])) X98 hx rfl rfl rfl (pc0 := 184) (pc' := 187) (same := false) rfl (hb hby at_184) rfl (decide_eq_false fun q => (Fld.ne (F_STRING_ordinal.ext O73.2) (F_EMBEDDED_ENTITY_ordinal.ext O73.2) (by decide)) (Value.ref.inj q)) (by decide) (by decide) ?_
      show Steps p.tables e below (T98.setTop (mkF m 187 #[.val (.int p0), .val (.ref b7), .val (.int (4 : Int32)), .val (.ref s_STRING), .unset] [])) _
      refine XS.iconst X98.here hx rfl (hb hby at_187) ?_
      show Steps p.tables e below (T98.setTop (mkF m 188 #[.val (.int p0), .val (.ref b7), .val (.int (4 : Int32)), .val (.ref s_STRING), .unset] [(.int (1 : Int32))])) _
      refine XS.goto X98.here hx rfl (pc0 := 188) (pc' := 192) rfl (hb hby at_188) (by decide) (by decide) ?_
      show Steps p.tables e below (T98.setTop (mkF m 192 #[.val (.int p0), .val (.ref b7), .val (.int (4 : Int32)), .val (.ref s_STRING), .unset] [(.int (1 : Int32))])) _
      refine XS.istore X98.here hx rfl (hb hby at_192) rfl (l' := #[.val (.int p0), .val (.ref b7), .val (.int (4 : Int32)), .val (.ref s_STRING), .val (.int (1 : Int32))]) rfl ?_
      show Steps p.tables e below (T98.setTop (mkF m 194 #[.val (.int p0), .val (.ref b7), .val (.int (4 : Int32)), .val (.ref s_STRING), .val (.int (1 : Int32))] [])) _
      refine XS.aloadN X98.here hx rfl (hb hby at_194) rfl rfl ?_
      show Steps p.tables e below (T98.setTop (mkF m 195 #[.val (.int p0), .val (.ref b7), .val (.int (4 : Int32)), .val (.ref s_STRING), .val (.int (1 : Int32))] [(.ref s_STRING)])) _
      exact k
    obtain ⟨cq99, kq99, q99a, q99b, q99c⟩ := isOf hZ e98 (E_STRING.ext O73.2)
    obtain ⟨_, _, ⟨T99, L99, k99, n99⟩, -, X99, ⟨Lc99, hQ99, l99, y99, z99⟩, st99⟩ := X98.virtualBack hx (y := (⟨"com/example/rooted_kinds/rootedkinds/model/ValueType", "isIndexed", "()Z"⟩ : MethodName)) (z := (⟨"com/example/rooted_kinds/rootedkinds/model/ValueType", "isIndexed", "()Z"⟩ : MethodName)) hown (mvT hZ (hw _ (List.mem_of_getElem? (i := 49) rfl))) (mvT hZ (hw _ (List.mem_of_getElem? (i := 50) rfl))) (notFace_of_selects (args := #[]) (mvT hZ (hw _ (List.mem_of_getElem? (i := 52) rfl)))) (mvT hZ (hw _ (List.mem_of_getElem? (i := 52) rfl))) (mvT hZ (hw _ (List.mem_of_getElem? (i := 51) rfl))) (by decide) (backOf (W := 0) (rm1r l Z a0 hw [] s_NULL s_LONG s_DOUBLE s_BOOLEAN s_STRING s_DATE s_TEXT s_BLOB s_SHORT_BLOB s_GEO_PT s_POSTAL_ADDRESS s_PHONE_NUMBER s_EMAIL s_IM_HANDLE s_LINK s_CATEGORY s_RATING s_USER s_BLOB_KEY s_KEY s_EMBEDDED_ENTITY s_LIST s_Representation_NULL s_Representation_BOOLEAN s_Representation_STRING s_Representation_DOUBLE s_INT64 s_POINT s_REFERENCE s_Representation_USER HW s_STRING s_Representation_STRING h73 n0 O73 (F_STRING_representation.ext O73.2)) hZ (hw _ (List.mem_of_getElem? (i := 53) rfl)) (hw _ (List.mem_of_getElem? (i := 3) rfl)) (by decide) (by decide)) q99a q99c (g := (mkF m 195 #[.val (.int p0), .val (.ref b7), .val (.int (4 : Int32)), .val (.ref s_STRING), .val (.int (1 : Int32))] [(.ref s_STRING)])) rfl (by rw [hml]; rfl) (Steps.refl _) (argsL := []) (rest := []) (lenOf own_pd10 rfl) rfl (by show 2 * 0 + _ ≤ _; exact Nat.le_of_eq rfl) (hb hby at_195) (fun _ _ => ⟨rfl, e98, (by decide : 1 + 0 ≤ _), (by decide : 22 + 0 ≤ _)⟩)
    dsimp only [Pt.U, Pt.locs, Pt.cells, Pt.slots] at X99 l99 y99 z99 st99 hQ99
    subst l99 y99 z99
    obtain ⟨rfl, N99q, e99⟩ := hQ99
    have N99 := Fr.app N74 N99q
    refine Go.st (V' := T99.setTop (mkF m 198 #[.val (.int p0), .val (.ref b7), .val (.int (4 : Int32)), .val (.ref s_STRING), .val (.int (1 : Int32))] [(.int (1 : Int32))])) (fun t k => st99.trans k) ?_
    refine Go.st (V' := T99.setTop (mkF m 208 #[.val (.int p0), .val (.ref b7), .val (.int (4 : Int32)), .val (.ref s_STRING), .val (.int (1 : Int32))] [(.int (1 : Int32))])) (fun t k => ?_) ?_
    · refine XS.iload X99.here hx rfl (hb hby at_198) rfl  ?_
      show Steps p.tables e below (T99.setTop (mkF m 200 #[.val (.int p0), .val (.ref b7), .val (.int (4 : Int32)), .val (.ref s_STRING), .val (.int (1 : Int32))] [(.int (1 : Int32)), (.int (1 : Int32))])) _
      refine XS.icmpNo X99.here hx rfl (hb hby at_200) rfl (teq (by decide : ((1 : Int32) = (1 : Int32)))).2 ?_
      show Steps p.tables e below (T99.setTop (mkF m 203 #[.val (.int p0), .val (.ref b7), .val (.int (4 : Int32)), .val (.ref s_STRING), .val (.int (1 : Int32))] [])) _
      refine XS.iconst X99.here hx rfl (hb hby at_203) ?_
      show Steps p.tables e below (T99.setTop (mkF m 204 #[.val (.int p0), .val (.ref b7), .val (.int (4 : Int32)), .val (.ref s_STRING), .val (.int (1 : Int32))] [(.int (1 : Int32))])) _
      refine XS.goto X99.here hx rfl (pc0 := 204) (pc' := 208) rfl (hb hby at_204) (by decide) (by decide) ?_
      show Steps p.tables e below (T99.setTop (mkF m 208 #[.val (.int p0), .val (.ref b7), .val (.int (4 : Int32)), .val (.ref s_STRING), .val (.int (1 : Int32))] [(.int (1 : Int32))])) _
      exact k
    obtain ⟨fs, hr, hrun, hended, hW, hsame⟩ := X99.leave (v := some (.int (1 : Int32))) (fun h => by rw [Bd.returns] at h; cases h)
    refine Go.mk' ⟨_, _, retN X99 hx (t := .boolean) Bd.returns (by simp) (hb hby at_208) hr, hrun, hended, _, _, rfl, ?_, ⟨_, rfl⟩, hW, hsame.mono (by decide) (by decide)⟩
    show Q0 Z p0 h0 n0 _ T99.heap _
    rw [e99]
    exact ⟨rfl, N99⟩
  · show Go p e below _ (T73.setTop (mkF m 162 #[.val (.int p0), .val (.ref b7), .val (.int (5 : Int32)), .unset, .unset] []))
    refine Go.st (V' := T73.setTop (mkF m 164 #[.val (.int p0), .val (.ref b7), .val (.int (5 : Int32)), .unset, .unset] [(.int (5 : Int32)), (.ref b7)])) (fun t k => ?_) ?_
    · refine XS.aloadN X74.here hx rfl (hb hby at_162) rfl rfl ?_
      show Steps p.tables e below (T73.setTop (mkF m 163 #[.val (.int p0), .val (.ref b7), .val (.int (5 : Int32)), .unset, .unset] [(.ref b7)])) _
      refine XS.iloadN X74.here hx rfl (hb hby at_163) rfl  ?_
      show Steps p.tables e below (T73.setTop (mkF m 164 #[.val (.int p0), .val (.ref b7), .val (.int (5 : Int32)), .unset, .unset] [(.int (5 : Int32)), (.ref b7)])) _
      exact k
    obtain ⟨cl100, Ar100, q100, Sz100, Nn100, Ha100, Ga100⟩ := id (V73)
    have hin100 : ¬ ((5 : Int32) < 0 ∨ cl100.slots.size ≤ ((5 : Int32)).toNatClampNeg) := inb_of Sz100 ⟨by decide, by decide⟩
    refine Go.st (V' := T73.setTop (mkF m 167 #[.val (.int p0), .val (.ref b7), .val (.int (5 : Int32)), .val (.ref s_DATE), .unset] [(.ref s_DATE)])) (fun t k => ?_) ?_
    · show Steps p.tables e below (T73.setTop (mkF m 164 #[.val (.int p0), .val (.ref b7), .val (.int (5 : Int32)), .unset, .unset] [(.int (5 : Int32)), (.ref b7)])) _
      refine X74.aaload hx (j := (5 : Int32)) (v := (.ref s_DATE)) (own_eT e73 Ar100) (State.isArrayOf_alike hZ.alike Ar100.2.1) rfl Ar100.2.2 hin100 (Ha100.at hin100 rfl) (g := (mkF m 164 #[.val (.int p0), .val (.ref b7), .val (.int (5 : Int32)), .unset, .unset] [(.int (5 : Int32)), (.ref b7)])) rfl rfl (hb hby at_164) _ ?_
      show Steps p.tables e below (T73.setTop (mkF m 165 #[.val (.int p0), .val (.ref b7), .val (.int (5 : Int32)), .unset, .unset] [(.ref s_DATE)])) _
      refine XS.astoreN X74.here hx rfl (hb hby at_165) rfl rfl (l' := #[.val (.int p0), .val (.ref b7), .val (.int (5 : Int32)), .val (.ref s_DATE), .unset]) rfl ?_
      show Steps p.tables e below (T73.setTop (mkF m 166 #[.val (.int p0), .val (.ref b7), .val (.int (5 : Int32)), .val (.ref s_DATE), .unset] [])) _
      refine XS.aloadN X74.here hx rfl (hb hby at_166) rfl rfl ?_
      show Steps p.tables e below (T73.setTop (mkF m 167 #[.val (.int p0), .val (.ref b7), .val (.int (5 : Int32)), .val (.ref s_DATE), .unset] [(.ref s_DATE)])) _
      exact k
    obtain ⟨T101, X101, e101, st101⟩ := getS2 X74 hx hZ hown (host := "") (Or.inl (hw _ (List.mem_of_getElem? (i := 16) rfl))) Via.refl e73 (S_TEXT.ext O73.2) (g := (mkF m 167 #[.val (.int p0), .val (.ref b7), .val (.int (5 : Int32)), .val (.ref s_DATE), .unset] [(.ref s_DATE)])) rfl (hb hby at_167)
    refine Go.st (V' := T101.setTop (mkF m 170 #[.val (.int p0), .val (.ref b7), .val (.int (5 : Int32)), .val (.ref s_DATE), .unset] [(.ref s_TEXT), (.ref s_DATE)])) (fun t k => st101 t k) ?_
    refine Go.st (V' := T101.setTop (mkF m 174 #[.val (.int p0), .val (.ref b7), .val (.int (5 : Int32)), .val (.ref s_DATE), .unset] [(.ref s_DATE)])) (fun t k => ?_) ?_
    · refine Jvm.RoadKit.acmp (g := (mkF m 170 #[.val (.int p0), .val (.ref b7), .val (.int (5 : Int32)), .val (.ref s_DATE), .unset] [(.ref s_TEXT), (.ref s_DATE)])) X101 hx rfl rfl rfl (pc0 := 170) (pc' := 173) (same := false) rfl (hb hby at_170) rfl (decide_eq_false fun q => (Fld.ne (F_DATE_ordinal.ext O73.2) (F_TEXT_ordinal.ext O73.2) (by decide)) (Value.ref.inj q)) (by decide) (by decide) ?_
      show Steps p.tables e below (T101.setTop (mkF m 173 #[.val (.int p0), .val (.ref b7), .val (.int (5 : Int32)), .val (.ref s_DATE), .unset] [])) _
      refine XS.aloadN X101.here hx rfl (hb hby at_173) rfl rfl ?_
      show Steps p.tables e below (T101.setTop (mkF m 174 #[.val (.int p0), .val (.ref b7), .val (.int (5 : Int32)), .val (.ref s_DATE), .unset] [(.ref s_DATE)])) _
      exact k
    obtain ⟨T102, X102, e102, st102⟩ := getS2 X101 hx hZ hown (host := "") (Or.inl (hw _ (List.mem_of_getElem? (i := 18) rfl))) Via.refl e101 (S_BLOB.ext O73.2) (g := (mkF m 174 #[.val (.int p0), .val (.ref b7), .val (.int (5 : Int32)), .val (.ref s_DATE), .unset] [(.ref s_DATE)])) rfl (hb hby at_174)
    refine Go.st (V' := T102.setTop (mkF m 177 #[.val (.int p0), .val (.ref b7), .val (.int (5 : Int32)), .val (.ref s_DATE), .unset] [(.ref s_BLOB), (.ref s_DATE)])) (fun t k => st102 t k) ?_
    refine Go.st (V' := T102.setTop (mkF m 181 #[.val (.int p0), .val (.ref b7), .val (.int (5 : Int32)), .val (.ref s_DATE), .unset] [(.ref s_DATE)])) (fun t k => ?_) ?_
    · refine Jvm.RoadKit.acmp (g := (mkF m 177 #[.val (.int p0), .val (.ref b7), .val (.int (5 : Int32)), .val (.ref s_DATE), .unset] [(.ref s_BLOB), (.ref s_DATE)])) X102 hx rfl rfl rfl (pc0 := 177) (pc' := 180) (same := false) rfl (hb hby at_177) rfl (decide_eq_false fun q => (Fld.ne (F_DATE_ordinal.ext O73.2) (F_BLOB_ordinal.ext O73.2) (by decide)) (Value.ref.inj q)) (by decide) (by decide) ?_
      show Steps p.tables e below (T102.setTop (mkF m 180 #[.val (.int p0), .val (.ref b7), .val (.int (5 : Int32)), .val (.ref s_DATE), .unset] [])) _
      refine XS.aloadN X102.here hx rfl (hb hby at_180) rfl rfl ?_
      show Steps p.tables e below (T102.setTop (mkF m 181 #[.val (.int p0), .val (.ref b7), .val (.int (5 : Int32)), .val (.ref s_DATE), .unset] [(.ref s_DATE)])) _
      exact k
    obtain ⟨T103, X103, e103, st103⟩ := getS2 X102 hx hZ hown (host := "") (Or.inl (hw _ (List.mem_of_getElem? (i := 44) rfl))) Via.refl e102 (S_EMBEDDED_ENTITY.ext O73.2) (g := (mkF m 181 #[.val (.int p0), .val (.ref b7), .val (.int (5 : Int32)), .val (.ref s_DATE), .unset] [(.ref s_DATE)])) rfl (hb hby at_181)
    refine Go.st (V' := T103.setTop (mkF m 184 #[.val (.int p0), .val (.ref b7), .val (.int (5 : Int32)), .val (.ref s_DATE), .unset] [(.ref s_EMBEDDED_ENTITY), (.ref s_DATE)])) (fun t k => st103 t k) ?_
    refine Go.st (V' := T103.setTop (mkF m 195 #[.val (.int p0), .val (.ref b7), .val (.int (5 : Int32)), .val (.ref s_DATE), .val (.int (1 : Int32))] [(.ref s_DATE)])) (fun t k => ?_) ?_
    · refine Jvm.RoadKit.acmp (g := (mkF m 184 #[.val (.int p0), .val (.ref b7), .val (.int (5 : Int32)), .val (.ref s_DATE), .unset] [(.ref s_EMBEDDED_ENTITY), (.ref s_DATE)])) X103 hx rfl rfl rfl (pc0 := 184) (pc' := 187) (same := false) rfl (hb hby at_184) rfl (decide_eq_false fun q => (Fld.ne (F_DATE_ordinal.ext O73.2) (F_EMBEDDED_ENTITY_ordinal.ext O73.2) (by decide)) (Value.ref.inj q)) (by decide) (by decide) ?_
      show Steps p.tables e below (T103.setTop (mkF m 187 #[.val (.int p0), .val (.ref b7), .val (.int (5 : Int32)), .val (.ref s_DATE), .unset] [])) _
      refine XS.iconst X103.here hx rfl (hb hby at_187) ?_
      show Steps p.tables e below (T103.setTop (mkF m 188 #[.val (.int p0), .val (.ref b7), .val (.int (5 : Int32)), .val (.ref s_DATE), .unset] [(.int (1 : Int32))])) _
      refine XS.goto X103.here hx rfl (pc0 := 188) (pc' := 192) rfl (hb hby at_188) (by decide) (by decide) ?_
      show Steps p.tables e below (T103.setTop (mkF m 192 #[.val (.int p0), .val (.ref b7), .val (.int (5 : Int32)), .val (.ref s_DATE), .unset] [(.int (1 : Int32))])) _
      refine XS.istore X103.here hx rfl (hb hby at_192) rfl (l' := #[.val (.int p0), .val (.ref b7), .val (.int (5 : Int32)), .val (.ref s_DATE), .val (.int (1 : Int32))]) rfl ?_
      show Steps p.tables e below (T103.setTop (mkF m 194 #[.val (.int p0), .val (.ref b7), .val (.int (5 : Int32)), .val (.ref s_DATE), .val (.int (1 : Int32))] [])) _
      refine XS.aloadN X103.here hx rfl (hb hby at_194) rfl rfl ?_
      show Steps p.tables e below (T103.setTop (mkF m 195 #[.val (.int p0), .val (.ref b7), .val (.int (5 : Int32)), .val (.ref s_DATE), .val (.int (1 : Int32))] [(.ref s_DATE)])) _
      exact k
    obtain ⟨cq104, kq104, q104a, q104b, q104c⟩ := isOf hZ e103 (E_DATE.ext O73.2)
    obtain ⟨_, _, ⟨T104, L104, k104, n104⟩, -, X104, ⟨Lc104, hQ104, l104, y104, z104⟩, st104⟩ := X103.virtualBack hx (y := (⟨"com/example/rooted_kinds/rootedkinds/model/ValueType", "isIndexed", "()Z"⟩ : MethodName)) (z := (⟨"com/example/rooted_kinds/rootedkinds/model/ValueType", "isIndexed", "()Z"⟩ : MethodName)) hown (mvT hZ (hw _ (List.mem_of_getElem? (i := 49) rfl))) (mvT hZ (hw _ (List.mem_of_getElem? (i := 50) rfl))) (notFace_of_selects (args := #[]) (mvT hZ (hw _ (List.mem_of_getElem? (i := 52) rfl)))) (mvT hZ (hw _ (List.mem_of_getElem? (i := 52) rfl))) (mvT hZ (hw _ (List.mem_of_getElem? (i := 51) rfl))) (by decide) (backOf (W := 0) (rm1r l Z a0 hw [] s_NULL s_LONG s_DOUBLE s_BOOLEAN s_STRING s_DATE s_TEXT s_BLOB s_SHORT_BLOB s_GEO_PT s_POSTAL_ADDRESS s_PHONE_NUMBER s_EMAIL s_IM_HANDLE s_LINK s_CATEGORY s_RATING s_USER s_BLOB_KEY s_KEY s_EMBEDDED_ENTITY s_LIST s_Representation_NULL s_Representation_BOOLEAN s_Representation_STRING s_Representation_DOUBLE s_INT64 s_POINT s_REFERENCE s_Representation_USER HW s_DATE s_INT64 h73 n0 O73 (F_DATE_representation.ext O73.2)) hZ (hw _ (List.mem_of_getElem? (i := 53) rfl)) (hw _ (List.mem_of_getElem? (i := 3) rfl)) (by decide) (by decide)) q104a q104c (g := (mkF m 195 #[.val (.int p0), .val (.ref b7), .val (.int (5 : Int32)), .val (.ref s_DATE), .val (.int (1 : Int32))] [(.ref s_DATE)])) rfl (by rw [hml]; rfl) (Steps.refl _) (argsL := []) (rest := []) (lenOf own_pd10 rfl) rfl (by show 2 * 0 + _ ≤ _; exact Nat.le_of_eq rfl) (hb hby at_195) (fun _ _ => ⟨rfl, e103, (by decide : 1 + 0 ≤ _), (by decide : 22 + 0 ≤ _)⟩)
    dsimp only [Pt.U, Pt.locs, Pt.cells, Pt.slots] at X104 l104 y104 z104 st104 hQ104
    subst l104 y104 z104
    obtain ⟨rfl, N104q, e104⟩ := hQ104
    have N104 := Fr.app N74 N104q
    refine Go.st (V' := T104.setTop (mkF m 198 #[.val (.int p0), .val (.ref b7), .val (.int (5 : Int32)), .val (.ref s_DATE), .val (.int (1 : Int32))] [(.int (1 : Int32))])) (fun t k => st104.trans k) ?_
    refine Go.st (V' := T104.setTop (mkF m 208 #[.val (.int p0), .val (.ref b7), .val (.int (5 : Int32)), .val (.ref s_DATE), .val (.int (1 : Int32))] [(.int (1 : Int32))])) (fun t k => ?_) ?_
    · refine XS.iload X104.here hx rfl (hb hby at_198) rfl  ?_
      show Steps p.tables e below (T104.setTop (mkF m 200 #[.val (.int p0), .val (.ref b7), .val (.int (5 : Int32)), .val (.ref s_DATE), .val (.int (1 : Int32))] [(.int (1 : Int32)), (.int (1 : Int32))])) _
      refine XS.icmpNo X104.here hx rfl (hb hby at_200) rfl (teq (by decide : ((1 : Int32) = (1 : Int32)))).2 ?_
      show Steps p.tables e below (T104.setTop (mkF m 203 #[.val (.int p0), .val (.ref b7), .val (.int (5 : Int32)), .val (.ref s_DATE), .val (.int (1 : Int32))] [])) _
      refine XS.iconst X104.here hx rfl (hb hby at_203) ?_
      show Steps p.tables e below (T104.setTop (mkF m 204 #[.val (.int p0), .val (.ref b7), .val (.int (5 : Int32)), .val (.ref s_DATE), .val (.int (1 : Int32))] [(.int (1 : Int32))])) _
      refine XS.goto X104.here hx rfl (pc0 := 204) (pc' := 208) rfl (hb hby at_204) (by decide) (by decide) ?_
      show Steps p.tables e below (T104.setTop (mkF m 208 #[.val (.int p0), .val (.ref b7), .val (.int (5 : Int32)), .val (.ref s_DATE), .val (.int (1 : Int32))] [(.int (1 : Int32))])) _
      exact k
    obtain ⟨fs, hr, hrun, hended, hW, hsame⟩ := X104.leave (v := some (.int (1 : Int32))) (fun h => by rw [Bd.returns] at h; cases h)
    refine Go.mk' ⟨_, _, retN X104 hx (t := .boolean) Bd.returns (by simp) (hb hby at_208) hr, hrun, hended, _, _, rfl, ?_, ⟨_, rfl⟩, hW, hsame.mono (by decide) (by decide)⟩
    show Q0 Z p0 h0 n0 _ T104.heap _
    rw [e104]
    exact ⟨rfl, N104⟩
  · show Go p e below _ (T73.setTop (mkF m 162 #[.val (.int p0), .val (.ref b7), .val (.int (6 : Int32)), .unset, .unset] []))
    refine Go.st (V' := T73.setTop (mkF m 164 #[.val (.int p0), .val (.ref b7), .val (.int (6 : Int32)), .unset, .unset] [(.int (6 : Int32)), (.ref b7)])) (fun t k => ?_) ?_
    · refine XS.aloadN X74.here hx rfl (hb hby at_162) rfl rfl ?_
      show Steps p.tables e below (T73.setTop (mkF m 163 #[.val (.int p0), .val (.ref b7), .val (.int (6 : Int32)), .unset, .unset] [(.ref b7)])) _
      refine XS.iloadN X74.here hx rfl (hb hby at_163) rfl  ?_
      show Steps p.tables e below (T73.setTop (mkF m 164 #[.val (.int p0), .val (.ref b7), .val (.int (6 : Int32)), .unset, .unset] [(.int (6 : Int32)), (.ref b7)])) _
      exact k
    obtain ⟨cl105, Ar105, q105, Sz105, Nn105, Ha105, Ga105⟩ := id (V73)
    have hin105 : ¬ ((6 : Int32) < 0 ∨ cl105.slots.size ≤ ((6 : Int32)).toNatClampNeg) := inb_of Sz105 ⟨by decide, by decide⟩
    refine Go.st (V' := T73.setTop (mkF m 167 #[.val (.int p0), .val (.ref b7), .val (.int (6 : Int32)), .val (.ref s_TEXT), .unset] [(.ref s_TEXT)])) (fun t k => ?_) ?_
    · show Steps p.tables e below (T73.setTop (mkF m 164 #[.val (.int p0), .val (.ref b7), .val (.int (6 : Int32)), .unset, .unset] [(.int (6 : Int32)), (.ref b7)])) _
      refine X74.aaload hx (j := (6 : Int32)) (v := (.ref s_TEXT)) (own_eT e73 Ar105) (State.isArrayOf_alike hZ.alike Ar105.2.1) rfl Ar105.2.2 hin105 (Ha105.at hin105 rfl) (g := (mkF m 164 #[.val (.int p0), .val (.ref b7), .val (.int (6 : Int32)), .unset, .unset] [(.int (6 : Int32)), (.ref b7)])) rfl rfl (hb hby at_164) _ ?_
      show Steps p.tables e below (T73.setTop (mkF m 165 #[.val (.int p0), .val (.ref b7), .val (.int (6 : Int32)), .unset, .unset] [(.ref s_TEXT)])) _
      refine XS.astoreN X74.here hx rfl (hb hby at_165) rfl rfl (l' := #[.val (.int p0), .val (.ref b7), .val (.int (6 : Int32)), .val (.ref s_TEXT), .unset]) rfl ?_
      show Steps p.tables e below (T73.setTop (mkF m 166 #[.val (.int p0), .val (.ref b7), .val (.int (6 : Int32)), .val (.ref s_TEXT), .unset] [])) _
      refine XS.aloadN X74.here hx rfl (hb hby at_166) rfl rfl ?_
      show Steps p.tables e below (T73.setTop (mkF m 167 #[.val (.int p0), .val (.ref b7), .val (.int (6 : Int32)), .val (.ref s_TEXT), .unset] [(.ref s_TEXT)])) _
      exact k
    obtain ⟨T106, X106, e106, st106⟩ := getS2 X74 hx hZ hown (host := "") (Or.inl (hw _ (List.mem_of_getElem? (i := 16) rfl))) Via.refl e73 (S_TEXT.ext O73.2) (g := (mkF m 167 #[.val (.int p0), .val (.ref b7), .val (.int (6 : Int32)), .val (.ref s_TEXT), .unset] [(.ref s_TEXT)])) rfl (hb hby at_167)
    refine Go.st (V' := T106.setTop (mkF m 170 #[.val (.int p0), .val (.ref b7), .val (.int (6 : Int32)), .val (.ref s_TEXT), .unset] [(.ref s_TEXT), (.ref s_TEXT)])) (fun t k => st106 t k) ?_
    refine Go.st (V' := T106.setTop (mkF m 195 #[.val (.int p0), .val (.ref b7), .val (.int (6 : Int32)), .val (.ref s_TEXT), .val (.int (0 : Int32))] [(.ref s_TEXT)])) (fun t k => ?_) ?_
    · refine Jvm.RoadKit.acmp (g := (mkF m 170 #[.val (.int p0), .val (.ref b7), .val (.int (6 : Int32)), .val (.ref s_TEXT), .unset] [(.ref s_TEXT), (.ref s_TEXT)])) X106 hx rfl rfl rfl (pc0 := 170) (pc' := 191) (same := true) rfl (hb hby at_170) rfl (decide_eq_true (congrArg Value.ref rfl)) (by decide) (by decide) ?_
      show Steps p.tables e below (T106.setTop (mkF m 191 #[.val (.int p0), .val (.ref b7), .val (.int (6 : Int32)), .val (.ref s_TEXT), .unset] [])) _
      refine XS.iconst X106.here hx rfl (hb hby at_191) ?_
      show Steps p.tables e below (T106.setTop (mkF m 192 #[.val (.int p0), .val (.ref b7), .val (.int (6 : Int32)), .val (.ref s_TEXT), .unset] [(.int (0 : Int32))])) _
      refine XS.istore X106.here hx rfl (hb hby at_192) rfl (l' := #[.val (.int p0), .val (.ref b7), .val (.int (6 : Int32)), .val (.ref s_TEXT), .val (.int (0 : Int32))]) rfl ?_
      show Steps p.tables e below (T106.setTop (mkF m 194 #[.val (.int p0), .val (.ref b7), .val (.int (6 : Int32)), .val (.ref s_TEXT), .val (.int (0 : Int32))] [])) _
      refine XS.aloadN X106.here hx rfl (hb hby at_194) rfl rfl ?_
      show Steps p.tables e below (T106.setTop (mkF m 195 #[.val (.int p0), .val (.ref b7), .val (.int (6 : Int32)), .val (.ref s_TEXT), .val (.int (0 : Int32))] [(.ref s_TEXT)])) _
      exact k
    obtain ⟨cq107, kq107, q107a, q107b, q107c⟩ := isOf hZ e106 (E_TEXT.ext O73.2)
    obtain ⟨_, _, ⟨T107, L107, k107, n107⟩, -, X107, ⟨Lc107, hQ107, l107, y107, z107⟩, st107⟩ := X106.virtualBack hx (y := (⟨"com/example/rooted_kinds/rootedkinds/model/ValueType", "isIndexed", "()Z"⟩ : MethodName)) (z := (⟨"com/example/rooted_kinds/rootedkinds/model/ValueType", "isIndexed", "()Z"⟩ : MethodName)) hown (mvT hZ (hw _ (List.mem_of_getElem? (i := 49) rfl))) (mvT hZ (hw _ (List.mem_of_getElem? (i := 50) rfl))) (notFace_of_selects (args := #[]) (mvT hZ (hw _ (List.mem_of_getElem? (i := 52) rfl)))) (mvT hZ (hw _ (List.mem_of_getElem? (i := 52) rfl))) (mvT hZ (hw _ (List.mem_of_getElem? (i := 51) rfl))) (by decide) (backOf (W := 0) (rm1n l Z a0 hw [] s_NULL s_LONG s_DOUBLE s_BOOLEAN s_STRING s_DATE s_TEXT s_BLOB s_SHORT_BLOB s_GEO_PT s_POSTAL_ADDRESS s_PHONE_NUMBER s_EMAIL s_IM_HANDLE s_LINK s_CATEGORY s_RATING s_USER s_BLOB_KEY s_KEY s_EMBEDDED_ENTITY s_LIST s_Representation_NULL s_Representation_BOOLEAN s_Representation_STRING s_Representation_DOUBLE s_INT64 s_POINT s_REFERENCE s_Representation_USER HW s_TEXT h73 n0 O73 (F_TEXT_representation.ext O73.2)) hZ (hw _ (List.mem_of_getElem? (i := 53) rfl)) (hw _ (List.mem_of_getElem? (i := 3) rfl)) (by decide) (by decide)) q107a q107c (g := (mkF m 195 #[.val (.int p0), .val (.ref b7), .val (.int (6 : Int32)), .val (.ref s_TEXT), .val (.int (0 : Int32))] [(.ref s_TEXT)])) rfl (by rw [hml]; rfl) (Steps.refl _) (argsL := []) (rest := []) (lenOf own_pd10 rfl) rfl (by show 2 * 0 + _ ≤ _; exact Nat.le_of_eq rfl) (hb hby at_195) (fun _ _ => ⟨rfl, e106, (by decide : 1 + 0 ≤ _), (by decide : 22 + 0 ≤ _)⟩)
    dsimp only [Pt.U, Pt.locs, Pt.cells, Pt.slots] at X107 l107 y107 z107 st107 hQ107
    subst l107 y107 z107
    obtain ⟨rfl, N107q, e107⟩ := hQ107
    have N107 := Fr.app N74 N107q
    refine Go.st (V' := T107.setTop (mkF m 198 #[.val (.int p0), .val (.ref b7), .val (.int (6 : Int32)), .val (.ref s_TEXT), .val (.int (0 : Int32))] [(.int (f1n s_LIST s_TEXT))])) (fun t k => st107.trans k) ?_
    have r108 : (f1n s_LIST s_TEXT) = (0 : Int32) := by rw [f1n, if_neg (Fld.ne (F_TEXT_ordinal.ext O73.2) (F_LIST_ordinal.ext O73.2) (by decide))]
    rw [r108]
    refine Go.st (V' := T107.setTop (mkF m 208 #[.val (.int p0), .val (.ref b7), .val (.int (6 : Int32)), .val (.ref s_TEXT), .val (.int (0 : Int32))] [(.int (1 : Int32))])) (fun t k => ?_) ?_
    · refine XS.iload X107.here hx rfl (hb hby at_198) rfl  ?_
      show Steps p.tables e below (T107.setTop (mkF m 200 #[.val (.int p0), .val (.ref b7), .val (.int (6 : Int32)), .val (.ref s_TEXT), .val (.int (0 : Int32))] [(.int (0 : Int32)), (.int (0 : Int32))])) _
      refine XS.icmpNo X107.here hx rfl (hb hby at_200) rfl (teq (by decide : ((0 : Int32) = (0 : Int32)))).2 ?_
      show Steps p.tables e below (T107.setTop (mkF m 203 #[.val (.int p0), .val (.ref b7), .val (.int (6 : Int32)), .val (.ref s_TEXT), .val (.int (0 : Int32))] [])) _
      refine XS.iconst X107.here hx rfl (hb hby at_203) ?_
      show Steps p.tables e below (T107.setTop (mkF m 204 #[.val (.int p0), .val (.ref b7), .val (.int (6 : Int32)), .val (.ref s_TEXT), .val (.int (0 : Int32))] [(.int (1 : Int32))])) _
      refine XS.goto X107.here hx rfl (pc0 := 204) (pc' := 208) rfl (hb hby at_204) (by decide) (by decide) ?_
      show Steps p.tables e below (T107.setTop (mkF m 208 #[.val (.int p0), .val (.ref b7), .val (.int (6 : Int32)), .val (.ref s_TEXT), .val (.int (0 : Int32))] [(.int (1 : Int32))])) _
      exact k
    obtain ⟨fs, hr, hrun, hended, hW, hsame⟩ := X107.leave (v := some (.int (1 : Int32))) (fun h => by rw [Bd.returns] at h; cases h)
    refine Go.mk' ⟨_, _, retN X107 hx (t := .boolean) Bd.returns (by simp) (hb hby at_208) hr, hrun, hended, _, _, rfl, ?_, ⟨_, rfl⟩, hW, hsame.mono (by decide) (by decide)⟩
    show Q0 Z p0 h0 n0 _ T107.heap _
    rw [e107]
    exact ⟨rfl, N107⟩
  · show Go p e below _ (T73.setTop (mkF m 162 #[.val (.int p0), .val (.ref b7), .val (.int (7 : Int32)), .unset, .unset] []))
    refine Go.st (V' := T73.setTop (mkF m 164 #[.val (.int p0), .val (.ref b7), .val (.int (7 : Int32)), .unset, .unset] [(.int (7 : Int32)), (.ref b7)])) (fun t k => ?_) ?_
    · refine XS.aloadN X74.here hx rfl (hb hby at_162) rfl rfl ?_
      show Steps p.tables e below (T73.setTop (mkF m 163 #[.val (.int p0), .val (.ref b7), .val (.int (7 : Int32)), .unset, .unset] [(.ref b7)])) _
      refine XS.iloadN X74.here hx rfl (hb hby at_163) rfl  ?_
      show Steps p.tables e below (T73.setTop (mkF m 164 #[.val (.int p0), .val (.ref b7), .val (.int (7 : Int32)), .unset, .unset] [(.int (7 : Int32)), (.ref b7)])) _
      exact k
    obtain ⟨cl109, Ar109, q109, Sz109, Nn109, Ha109, Ga109⟩ := id (V73)
    have hin109 : ¬ ((7 : Int32) < 0 ∨ cl109.slots.size ≤ ((7 : Int32)).toNatClampNeg) := inb_of Sz109 ⟨by decide, by decide⟩
    refine Go.st (V' := T73.setTop (mkF m 167 #[.val (.int p0), .val (.ref b7), .val (.int (7 : Int32)), .val (.ref s_BLOB), .unset] [(.ref s_BLOB)])) (fun t k => ?_) ?_
    · show Steps p.tables e below (T73.setTop (mkF m 164 #[.val (.int p0), .val (.ref b7), .val (.int (7 : Int32)), .unset, .unset] [(.int (7 : Int32)), (.ref b7)])) _
      refine X74.aaload hx (j := (7 : Int32)) (v := (.ref s_BLOB)) (own_eT e73 Ar109) (State.isArrayOf_alike hZ.alike Ar109.2.1) rfl Ar109.2.2 hin109 (Ha109.at hin109 rfl) (g := (mkF m 164 #[.val (.int p0), .val (.ref b7), .val (.int (7 : Int32)), .unset, .unset] [(.int (7 : Int32)), (.ref b7)])) rfl rfl (hb hby at_164) _ ?_
      show Steps p.tables e below (T73.setTop (mkF m 165 #[.val (.int p0), .val (.ref b7), .val (.int (7 : Int32)), .unset, .unset] [(.ref s_BLOB)])) _
      refine XS.astoreN X74.here hx rfl (hb hby at_165) rfl rfl (l' := #[.val (.int p0), .val (.ref b7), .val (.int (7 : Int32)), .val (.ref s_BLOB), .unset]) rfl ?_
      show Steps p.tables e below (T73.setTop (mkF m 166 #[.val (.int p0), .val (.ref b7), .val (.int (7 : Int32)), .val (.ref s_BLOB), .unset] [])) _
      refine XS.aloadN X74.here hx rfl (hb hby at_166) rfl rfl ?_
      show Steps p.tables e below (T73.setTop (mkF m 167 #[.val (.int p0), .val (.ref b7), .val (.int (7 : Int32)), .val (.ref s_BLOB), .unset] [(.ref s_BLOB)])) _
      exact k
    obtain ⟨T110, X110, e110, st110⟩ := getS2 X74 hx hZ hown (host := "") (Or.inl (hw _ (List.mem_of_getElem? (i := 16) rfl))) Via.refl e73 (S_TEXT.ext O73.2) (g := (mkF m 167 #[.val (.int p0), .val (.ref b7), .val (.int (7 : Int32)), .val (.ref s_BLOB), .unset] [(.ref s_BLOB)])) rfl (hb hby at_167)
    refine Go.st (V' := T110.setTop (mkF m 170 #[.val (.int p0), .val (.ref b7), .val (.int (7 : Int32)), .val (.ref s_BLOB), .unset] [(.ref s_TEXT), (.ref s_BLOB)])) (fun t k => st110 t k) ?_
    refine Go.st (V' := T110.setTop (mkF m 174 #[.val (.int p0), .val (.ref b7), .val (.int (7 : Int32)), .val (.ref s_BLOB), .unset] [(.ref s_BLOB)])) (fun t k => ?_) ?_
    · refine Jvm.RoadKit.acmp (g := (mkF m 170 #[.val (.int p0), .val (.ref b7), .val (.int (7 : Int32)), .val (.ref s_BLOB), .unset] [(.ref s_TEXT), (.ref s_BLOB)])) X110 hx rfl rfl rfl (pc0 := 170) (pc' := 173) (same := false) rfl (hb hby at_170) rfl (decide_eq_false fun q => (Fld.ne (F_BLOB_ordinal.ext O73.2) (F_TEXT_ordinal.ext O73.2) (by decide)) (Value.ref.inj q)) (by decide) (by decide) ?_
      show Steps p.tables e below (T110.setTop (mkF m 173 #[.val (.int p0), .val (.ref b7), .val (.int (7 : Int32)), .val (.ref s_BLOB), .unset] [])) _
      refine XS.aloadN X110.here hx rfl (hb hby at_173) rfl rfl ?_
      show Steps p.tables e below (T110.setTop (mkF m 174 #[.val (.int p0), .val (.ref b7), .val (.int (7 : Int32)), .val (.ref s_BLOB), .unset] [(.ref s_BLOB)])) _
      exact k
    obtain ⟨T111, X111, e111, st111⟩ := getS2 X110 hx hZ hown (host := "") (Or.inl (hw _ (List.mem_of_getElem? (i := 18) rfl))) Via.refl e110 (S_BLOB.ext O73.2) (g := (mkF m 174 #[.val (.int p0), .val (.ref b7), .val (.int (7 : Int32)), .val (.ref s_BLOB), .unset] [(.ref s_BLOB)])) rfl (hb hby at_174)
    refine Go.st (V' := T111.setTop (mkF m 177 #[.val (.int p0), .val (.ref b7), .val (.int (7 : Int32)), .val (.ref s_BLOB), .unset] [(.ref s_BLOB), (.ref s_BLOB)])) (fun t k => st111 t k) ?_
    refine Go.st (V' := T111.setTop (mkF m 195 #[.val (.int p0), .val (.ref b7), .val (.int (7 : Int32)), .val (.ref s_BLOB), .val (.int (0 : Int32))] [(.ref s_BLOB)])) (fun t k => ?_) ?_
    · refine Jvm.RoadKit.acmp (g := (mkF m 177 #[.val (.int p0), .val (.ref b7), .val (.int (7 : Int32)), .val (.ref s_BLOB), .unset] [(.ref s_BLOB), (.ref s_BLOB)])) X111 hx rfl rfl rfl (pc0 := 177) (pc' := 191) (same := true) rfl (hb hby at_177) rfl (decide_eq_true (congrArg Value.ref rfl)) (by decide) (by decide) ?_
      show Steps p.tables e below (T111.setTop (mkF m 191 #[.val (.int p0), .val (.ref b7), .val (.int (7 : Int32)), .val (.ref s_BLOB), .unset] [])) _
      refine XS.iconst X111.here hx rfl (hb hby at_191) ?_
      show Steps p.tables e below (T111.setTop (mkF m 192 #[.val (.int p0), .val (.ref b7), .val (.int (7 : Int32)), .val (.ref s_BLOB), .unset] [(.int (0 : Int32))])) _
      refine XS.istore X111.here hx rfl (hb hby at_192) rfl (l' := #[.val (.int p0), .val (.ref b7), .val (.int (7 : Int32)), .val (.ref s_BLOB), .val (.int (0 : Int32))]) rfl ?_
      show Steps p.tables e below (T111.setTop (mkF m 194 #[.val (.int p0), .val (.ref b7), .val (.int (7 : Int32)), .val (.ref s_BLOB), .val (.int (0 : Int32))] [])) _
      refine XS.aloadN X111.here hx rfl (hb hby at_194) rfl rfl ?_
      show Steps p.tables e below (T111.setTop (mkF m 195 #[.val (.int p0), .val (.ref b7), .val (.int (7 : Int32)), .val (.ref s_BLOB), .val (.int (0 : Int32))] [(.ref s_BLOB)])) _
      exact k
    obtain ⟨cq112, kq112, q112a, q112b, q112c⟩ := isOf hZ e111 (E_BLOB.ext O73.2)
    obtain ⟨_, _, ⟨T112, L112, k112, n112⟩, -, X112, ⟨Lc112, hQ112, l112, y112, z112⟩, st112⟩ := X111.virtualBack hx (y := (⟨"com/example/rooted_kinds/rootedkinds/model/ValueType", "isIndexed", "()Z"⟩ : MethodName)) (z := (⟨"com/example/rooted_kinds/rootedkinds/model/ValueType", "isIndexed", "()Z"⟩ : MethodName)) hown (mvT hZ (hw _ (List.mem_of_getElem? (i := 49) rfl))) (mvT hZ (hw _ (List.mem_of_getElem? (i := 50) rfl))) (notFace_of_selects (args := #[]) (mvT hZ (hw _ (List.mem_of_getElem? (i := 52) rfl)))) (mvT hZ (hw _ (List.mem_of_getElem? (i := 52) rfl))) (mvT hZ (hw _ (List.mem_of_getElem? (i := 51) rfl))) (by decide) (backOf (W := 0) (rm1n l Z a0 hw [] s_NULL s_LONG s_DOUBLE s_BOOLEAN s_STRING s_DATE s_TEXT s_BLOB s_SHORT_BLOB s_GEO_PT s_POSTAL_ADDRESS s_PHONE_NUMBER s_EMAIL s_IM_HANDLE s_LINK s_CATEGORY s_RATING s_USER s_BLOB_KEY s_KEY s_EMBEDDED_ENTITY s_LIST s_Representation_NULL s_Representation_BOOLEAN s_Representation_STRING s_Representation_DOUBLE s_INT64 s_POINT s_REFERENCE s_Representation_USER HW s_BLOB h73 n0 O73 (F_BLOB_representation.ext O73.2)) hZ (hw _ (List.mem_of_getElem? (i := 53) rfl)) (hw _ (List.mem_of_getElem? (i := 3) rfl)) (by decide) (by decide)) q112a q112c (g := (mkF m 195 #[.val (.int p0), .val (.ref b7), .val (.int (7 : Int32)), .val (.ref s_BLOB), .val (.int (0 : Int32))] [(.ref s_BLOB)])) rfl (by rw [hml]; rfl) (Steps.refl _) (argsL := []) (rest := []) (lenOf own_pd10 rfl) rfl (by show 2 * 0 + _ ≤ _; exact Nat.le_of_eq rfl) (hb hby at_195) (fun _ _ => ⟨rfl, e111, (by decide : 1 + 0 ≤ _), (by decide : 22 + 0 ≤ _)⟩)
    dsimp only [Pt.U, Pt.locs, Pt.cells, Pt.slots] at X112 l112 y112 z112 st112 hQ112
    subst l112 y112 z112
    obtain ⟨rfl, N112q, e112⟩ := hQ112
    have N112 := Fr.app N74 N112q
    refine Go.st (V' := T112.setTop (mkF m 198 #[.val (.int p0), .val (.ref b7), .val (.int (7 : Int32)), .val (.ref s_BLOB), .val (.int (0 : Int32))] [(.int (f1n s_LIST s_BLOB))])) (fun t k => st112.trans k) ?_
    have r113 : (f1n s_LIST s_BLOB) = (0 : Int32) := by rw [f1n, if_neg (Fld.ne (F_BLOB_ordinal.ext O73.2) (F_LIST_ordinal.ext O73.2) (by decide))]
    rw [r113]
    refine Go.st (V' := T112.setTop (mkF m 208 #[.val (.int p0), .val (.ref b7), .val (.int (7 : Int32)), .val (.ref s_BLOB), .val (.int (0 : Int32))] [(.int (1 : Int32))])) (fun t k => ?_) ?_
    · refine XS.iload X112.here hx rfl (hb hby at_198) rfl  ?_
      show Steps p.tables e below (T112.setTop (mkF m 200 #[.val (.int p0), .val (.ref b7), .val (.int (7 : Int32)), .val (.ref s_BLOB), .val (.int (0 : Int32))] [(.int (0 : Int32)), (.int (0 : Int32))])) _
      refine XS.icmpNo X112.here hx rfl (hb hby at_200) rfl (teq (by decide : ((0 : Int32) = (0 : Int32)))).2 ?_
      show Steps p.tables e below (T112.setTop (mkF m 203 #[.val (.int p0), .val (.ref b7), .val (.int (7 : Int32)), .val (.ref s_BLOB), .val (.int (0 : Int32))] [])) _
      refine XS.iconst X112.here hx rfl (hb hby at_203) ?_
      show Steps p.tables e below (T112.setTop (mkF m 204 #[.val (.int p0), .val (.ref b7), .val (.int (7 : Int32)), .val (.ref s_BLOB), .val (.int (0 : Int32))] [(.int (1 : Int32))])) _
      refine XS.goto X112.here hx rfl (pc0 := 204) (pc' := 208) rfl (hb hby at_204) (by decide) (by decide) ?_
      show Steps p.tables e below (T112.setTop (mkF m 208 #[.val (.int p0), .val (.ref b7), .val (.int (7 : Int32)), .val (.ref s_BLOB), .val (.int (0 : Int32))] [(.int (1 : Int32))])) _
      exact k
    obtain ⟨fs, hr, hrun, hended, hW, hsame⟩ := X112.leave (v := some (.int (1 : Int32))) (fun h => by rw [Bd.returns] at h; cases h)
    refine Go.mk' ⟨_, _, retN X112 hx (t := .boolean) Bd.returns (by simp) (hb hby at_208) hr, hrun, hended, _, _, rfl, ?_, ⟨_, rfl⟩, hW, hsame.mono (by decide) (by decide)⟩
    show Q0 Z p0 h0 n0 _ T112.heap _
    rw [e112]
    exact ⟨rfl, N112⟩
  · show Go p e below _ (T73.setTop (mkF m 162 #[.val (.int p0), .val (.ref b7), .val (.int (8 : Int32)), .unset, .unset] []))
    refine Go.st (V' := T73.setTop (mkF m 164 #[.val (.int p0), .val (.ref b7), .val (.int (8 : Int32)), .unset, .unset] [(.int (8 : Int32)), (.ref b7)])) (fun t k => ?_) ?_
    · refine XS.aloadN X74.here hx rfl (hb hby at_162) rfl rfl ?_
      show Steps p.tables e below (T73.setTop (mkF m 163 #[.val (.int p0), .val (.ref b7), .val (.int (8 : Int32)), .unset, .unset] [(.ref b7)])) _
      refine XS.iloadN X74.here hx rfl (hb hby at_163) rfl  ?_
      show Steps p.tables e below (T73.setTop (mkF m 164 #[.val (.int p0), .val (.ref b7), .val (.int (8 : Int32)), .unset, .unset] [(.int (8 : Int32)), (.ref b7)])) _
      exact k
    obtain ⟨cl114, Ar114, q114, Sz114, Nn114, Ha114, Ga114⟩ := id (V73)
    have hin114 : ¬ ((8 : Int32) < 0 ∨ cl114.slots.size ≤ ((8 : Int32)).toNatClampNeg) := inb_of Sz114 ⟨by decide, by decide⟩
    refine Go.st (V' := T73.setTop (mkF m 167 #[.val (.int p0), .val (.ref b7), .val (.int (8 : Int32)), .val (.ref s_SHORT_BLOB), .unset] [(.ref s_SHORT_BLOB)])) (fun t k => ?_) ?_
    · show Steps p.tables e below (T73.setTop (mkF m 164 #[.val (.int p0), .val (.ref b7), .val (.int (8 : Int32)), .unset, .unset] [(.int (8 : Int32)), (.ref b7)])) _
      refine X74.aaload hx (j := (8 : Int32)) (v := (.ref s_SHORT_BLOB)) (own_eT e73 Ar114) (State.isArrayOf_alike hZ.alike Ar114.2.1) rfl Ar114.2.2 hin114 (Ha114.at hin114 rfl) (g := (mkF m 164 #[.val (.int p0), .val (.ref b7), .val (.int (8 : Int32)), .unset, .unset] [(.int (8 : Int32)), (.ref b7)])) rfl rfl (hb hby at_164) _ ?_
      show Steps p.tables e below (T73.setTop (mkF m 165 #[.val (.int p0), .val (.ref b7), .val (.int (8 : Int32)), .unset, .unset] [(.ref s_SHORT_BLOB)])) _
      refine XS.astoreN X74.here hx rfl (hb hby at_165) rfl rfl (l' := #[.val (.int p0), .val (.ref b7), .val (.int (8 : Int32)), .val (.ref s_SHORT_BLOB), .unset]) rfl ?_
      show Steps p.tables e below (T73.setTop (mkF m 166 #[.val (.int p0), .val (.ref b7), .val (.int (8 : Int32)), .val (.ref s_SHORT_BLOB), .unset] [])) _
      refine XS.aloadN X74.here hx rfl (hb hby at_166) rfl rfl ?_
      show Steps p.tables e below (T73.setTop (mkF m 167 #[.val (.int p0), .val (.ref b7), .val (.int (8 : Int32)), .val (.ref s_SHORT_BLOB), .unset] [(.ref s_SHORT_BLOB)])) _
      exact k
    obtain ⟨T115, X115, e115, st115⟩ := getS2 X74 hx hZ hown (host := "") (Or.inl (hw _ (List.mem_of_getElem? (i := 16) rfl))) Via.refl e73 (S_TEXT.ext O73.2) (g := (mkF m 167 #[.val (.int p0), .val (.ref b7), .val (.int (8 : Int32)), .val (.ref s_SHORT_BLOB), .unset] [(.ref s_SHORT_BLOB)])) rfl (hb hby at_167)
    refine Go.st (V' := T115.setTop (mkF m 170 #[.val (.int p0), .val (.ref b7), .val (.int (8 : Int32)), .val (.ref s_SHORT_BLOB), .unset] [(.ref s_TEXT), (.ref s_SHORT_BLOB)])) (fun t k => st115 t k) ?_
    refine Go.st (V' := T115.setTop (mkF m 174 #[.val (.int p0), .val (.ref b7), .val (.int (8 : Int32)), .val (.ref s_SHORT_BLOB), .unset] [(.ref s_SHORT_BLOB)])) (fun t k => ?_) ?_
    · refine Jvm.RoadKit.acmp (g := (mkF m 170 #[.val (.int p0), .val (.ref b7), .val (.int (8 : Int32)), .val (.ref s_SHORT_BLOB), .unset] [(.ref s_TEXT), (.ref s_SHORT_BLOB)])) X115 hx rfl rfl rfl (pc0 := 170) (pc' := 173) (same := false) rfl (hb hby at_170) rfl (decide_eq_false fun q => (Fld.ne (F_SHORT_BLOB_ordinal.ext O73.2) (F_TEXT_ordinal.ext O73.2) (by decide)) (Value.ref.inj q)) (by decide) (by decide) ?_
      show Steps p.tables e below (T115.setTop (mkF m 173 #[.val (.int p0), .val (.ref b7), .val (.int (8 : Int32)), .val (.ref s_SHORT_BLOB), .unset] [])) _
      refine XS.aloadN X115.here hx rfl (hb hby at_173) rfl rfl ?_
      show Steps p.tables e below (T115.setTop (mkF m 174 #[.val (.int p0), .val (.ref b7), .val (.int (8 : Int32)), .val (.ref s_SHORT_BLOB), .unset] [(.ref s_SHORT_BLOB)])) _
      exact k
    obtain ⟨T116, X116, e116, st116⟩ := getS2 X115 hx hZ hown (host := "") (Or.inl (hw _ (List.mem_of_getElem? (i := 18) rfl))) Via.refl e115 (S_BLOB.ext O73.2) (g := (mkF m 174 #[.val (.int p0), .val (.ref b7), .val (.int (8 : Int32)), .val (.ref s_SHORT_BLOB), .unset] [(.ref s_SHORT_BLOB)])) rfl (hb hby at_174)
    refine Go.st (V' := T116.setTop (mkF m 177 #[.val (.int p0), .val (.ref b7), .val (.int (8 : Int32)), .val (.ref s_SHORT_BLOB), .unset] [(.ref s_BLOB), (.ref s_SHORT_BLOB)])) (fun t k => st116 t k) ?_
    refine Go.st (V' := T116.setTop (mkF m 181 #[.val (.int p0), .val (.ref b7), .val (.int (8 : Int32)), .val (.ref s_SHORT_BLOB), .unset] [(.ref s_SHORT_BLOB)])) (fun t k => ?_) ?_
    · refine Jvm.RoadKit.acmp (g := (mkF m 177 #[.val (.int p0), .val (.ref b7), .val (.int (8 : Int32)), .val (.ref s_SHORT_BLOB), .unset] [(.ref s_BLOB), (.ref s_SHORT_BLOB)])) X116 hx rfl rfl rfl (pc0 := 177) (pc' := 180) (same := false) rfl (hb hby at_177) rfl (decide_eq_false fun q => (Fld.ne (F_SHORT_BLOB_ordinal.ext O73.2) (F_BLOB_ordinal.ext O73.2) (by decide)) (Value.ref.inj q)) (by decide) (by decide) ?_
      show Steps p.tables e below (T116.setTop (mkF m 180 #[.val (.int p0), .val (.ref b7), .val (.int (8 : Int32)), .val (.ref s_SHORT_BLOB), .unset] [])) _
      refine XS.aloadN X116.here hx rfl (hb hby at_180) rfl rfl ?_
      show Steps p.tables e below (T116.setTop (mkF m 181 #[.val (.int p0), .val (.ref b7), .val (.int (8 : Int32)), .val (.ref s_SHORT_BLOB), .unset] [(.ref s_SHORT_BLOB)])) _
      exact k
    obtain ⟨T117, X117, e117, st117⟩ := getS2 X116 hx hZ hown (host := "") (Or.inl (hw _ (List.mem_of_getElem? (i := 44) rfl))) Via.refl e116 (S_EMBEDDED_ENTITY.ext O73.2) (g := (mkF m 181 #[.val (.int p0), .val (.ref b7), .val (.int (8 : Int32)), .val (.ref s_SHORT_BLOB), .unset] [(.ref s_SHORT_BLOB)])) rfl (hb hby at_181)
    refine Go.st (V' := T117.setTop (mkF m 184 #[.val (.int p0), .val (.ref b7), .val (.int (8 : Int32)), .val (.ref s_SHORT_BLOB), .unset] [(.ref s_EMBEDDED_ENTITY), (.ref s_SHORT_BLOB)])) (fun t k => st117 t k) ?_
    refine Go.st (V' := T117.setTop (mkF m 195 #[.val (.int p0), .val (.ref b7), .val (.int (8 : Int32)), .val (.ref s_SHORT_BLOB), .val (.int (1 : Int32))] [(.ref s_SHORT_BLOB)])) (fun t k => ?_) ?_
    · refine Jvm.RoadKit.acmp (g := (mkF m 184 #[.val (.int p0), .val (.ref b7), .val (.int (8 : Int32)), .val (.ref s_SHORT_BLOB), .unset] [(.ref s_EMBEDDED_ENTITY), (.ref s_SHORT_BLOB)])) X117 hx rfl rfl rfl (pc0 := 184) (pc' := 187) (same := false) rfl (hb hby at_184) rfl (decide_eq_false fun q => (Fld.ne (F_SHORT_BLOB_ordinal.ext O73.2) (F_EMBEDDED_ENTITY_ordinal.ext O73.2) (by decide)) (Value.ref.inj q)) (by decide) (by decide) ?_
      show Steps p.tables e below (T117.setTop (mkF m 187 #[.val (.int p0), .val (.ref b7), .val (.int (8 : Int32)), .val (.ref s_SHORT_BLOB), .unset] [])) _
      refine XS.iconst X117.here hx rfl (hb hby at_187) ?_
      show Steps p.tables e below (T117.setTop (mkF m 188 #[.val (.int p0), .val (.ref b7), .val (.int (8 : Int32)), .val (.ref s_SHORT_BLOB), .unset] [(.int (1 : Int32))])) _
      refine XS.goto X117.here hx rfl (pc0 := 188) (pc' := 192) rfl (hb hby at_188) (by decide) (by decide) ?_
      show Steps p.tables e below (T117.setTop (mkF m 192 #[.val (.int p0), .val (.ref b7), .val (.int (8 : Int32)), .val (.ref s_SHORT_BLOB), .unset] [(.int (1 : Int32))])) _
      refine XS.istore X117.here hx rfl (hb hby at_192) rfl (l' := #[.val (.int p0), .val (.ref b7), .val (.int (8 : Int32)), .val (.ref s_SHORT_BLOB), .val (.int (1 : Int32))]) rfl ?_
      show Steps p.tables e below (T117.setTop (mkF m 194 #[.val (.int p0), .val (.ref b7), .val (.int (8 : Int32)), .val (.ref s_SHORT_BLOB), .val (.int (1 : Int32))] [])) _
      refine XS.aloadN X117.here hx rfl (hb hby at_194) rfl rfl ?_
      show Steps p.tables e below (T117.setTop (mkF m 195 #[.val (.int p0), .val (.ref b7), .val (.int (8 : Int32)), .val (.ref s_SHORT_BLOB), .val (.int (1 : Int32))] [(.ref s_SHORT_BLOB)])) _
      exact k
    obtain ⟨cq118, kq118, q118a, q118b, q118c⟩ := isOf hZ e117 (E_SHORT_BLOB.ext O73.2)
    obtain ⟨_, _, ⟨T118, L118, k118, n118⟩, -, X118, ⟨Lc118, hQ118, l118, y118, z118⟩, st118⟩ := X117.virtualBack hx (y := (⟨"com/example/rooted_kinds/rootedkinds/model/ValueType", "isIndexed", "()Z"⟩ : MethodName)) (z := (⟨"com/example/rooted_kinds/rootedkinds/model/ValueType", "isIndexed", "()Z"⟩ : MethodName)) hown (mvT hZ (hw _ (List.mem_of_getElem? (i := 49) rfl))) (mvT hZ (hw _ (List.mem_of_getElem? (i := 50) rfl))) (notFace_of_selects (args := #[]) (mvT hZ (hw _ (List.mem_of_getElem? (i := 52) rfl)))) (mvT hZ (hw _ (List.mem_of_getElem? (i := 52) rfl))) (mvT hZ (hw _ (List.mem_of_getElem? (i := 51) rfl))) (by decide) (backOf (W := 0) (rm1r l Z a0 hw [] s_NULL s_LONG s_DOUBLE s_BOOLEAN s_STRING s_DATE s_TEXT s_BLOB s_SHORT_BLOB s_GEO_PT s_POSTAL_ADDRESS s_PHONE_NUMBER s_EMAIL s_IM_HANDLE s_LINK s_CATEGORY s_RATING s_USER s_BLOB_KEY s_KEY s_EMBEDDED_ENTITY s_LIST s_Representation_NULL s_Representation_BOOLEAN s_Representation_STRING s_Representation_DOUBLE s_INT64 s_POINT s_REFERENCE s_Representation_USER HW s_SHORT_BLOB s_Representation_STRING h73 n0 O73 (F_SHORT_BLOB_representation.ext O73.2)) hZ (hw _ (List.mem_of_getElem? (i := 53) rfl)) (hw _ (List.mem_of_getElem? (i := 3) rfl)) (by decide) (by decide)) q118a q118c (g := (mkF m 195 #[.val (.int p0), .val (.ref b7), .val (.int (8 : Int32)), .val (.ref s_SHORT_BLOB), .val (.int (1 : Int32))] [(.ref s_SHORT_BLOB)])) rfl (by rw [hml]; rfl) (Steps.refl _) (argsL := []) (rest := []) (lenOf own_pd10 rfl) rfl (by show 2 * 0 + _ ≤ _; exact Nat.le_of_eq rfl) (hb hby at_195) (fun _ _ => ⟨rfl, e117, (by decide : 1 + 0 ≤ _), (by decide : 22 + 0 ≤ _)⟩)
    dsimp only [Pt.U, Pt.locs, Pt.cells, Pt.slots] at X118 l118 y118 z118 st118 hQ118
    subst l118 y118 z118
    obtain ⟨rfl, N118q, e118⟩ := hQ118
    have N118 := Fr.app N74 N118q
    refine Go.st (V' := T118.setTop (mkF m 198 #[.val (.int p0), .val (.ref b7), .val (.int (8 : Int32)), .val (.ref s_SHORT_BLOB), .val (.int (1 : Int32))] [(.int (1 : Int32))])) (fun t k => st118.trans k) ?_
    refine Go.st (V' := T118.setTop (mkF m 208 #[.val (.int p0), .val (.ref b7), .val (.int (8 : Int32)), .val (.ref s_SHORT_BLOB), .val (.int (1 : Int32))] [(.int (1 : Int32))])) (fun t k => ?_) ?_
    · refine XS.iload X118.here hx rfl (hb hby at_198) rfl  ?_
      show Steps p.tables e below (T118.setTop (mkF m 200 #[.val (.int p0), .val (.ref b7), .val (.int (8 : Int32)), .val (.ref s_SHORT_BLOB), .val (.int (1 : Int32))] [(.int (1 : Int32)), (.int (1 : Int32))])) _
      refine XS.icmpNo X118.here hx rfl (hb hby at_200) rfl (teq (by decide : ((1 : Int32) = (1 : Int32)))).2 ?_
      show Steps p.tables e below (T118.setTop (mkF m 203 #[.val (.int p0), .val (.ref b7), .val (.int (8 : Int32)), .val (.ref s_SHORT_BLOB), .val (.int (1 : Int32))] [])) _
      refine XS.iconst X118.here hx rfl (hb hby at_203) ?_
      show Steps p.tables e below (T118.setTop (mkF m 204 #[.val (.int p0), .val (.ref b7), .val (.int (8 : Int32)), .val (.ref s_SHORT_BLOB), .val (.int (1 : Int32))] [(.int (1 : Int32))])) _
      refine XS.goto X118.here hx rfl (pc0 := 204) (pc' := 208) rfl (hb hby at_204) (by decide) (by decide) ?_
      show Steps p.tables e below (T118.setTop (mkF m 208 #[.val (.int p0), .val (.ref b7), .val (.int (8 : Int32)), .val (.ref s_SHORT_BLOB), .val (.int (1 : Int32))] [(.int (1 : Int32))])) _
      exact k
    obtain ⟨fs, hr, hrun, hended, hW, hsame⟩ := X118.leave (v := some (.int (1 : Int32))) (fun h => by rw [Bd.returns] at h; cases h)
    refine Go.mk' ⟨_, _, retN X118 hx (t := .boolean) Bd.returns (by simp) (hb hby at_208) hr, hrun, hended, _, _, rfl, ?_, ⟨_, rfl⟩, hW, hsame.mono (by decide) (by decide)⟩
    show Q0 Z p0 h0 n0 _ T118.heap _
    rw [e118]
    exact ⟨rfl, N118⟩
  · show Go p e below _ (T73.setTop (mkF m 162 #[.val (.int p0), .val (.ref b7), .val (.int (9 : Int32)), .unset, .unset] []))
    refine Go.st (V' := T73.setTop (mkF m 164 #[.val (.int p0), .val (.ref b7), .val (.int (9 : Int32)), .unset, .unset] [(.int (9 : Int32)), (.ref b7)])) (fun t k => ?_) ?_
    · refine XS.aloadN X74.here hx rfl (hb hby at_162) rfl rfl ?_
      show Steps p.tables e below (T73.setTop (mkF m 163 #[.val (.int p0), .val (.ref b7), .val (.int (9 : Int32)), .unset, .unset] [(.ref b7)])) _
      refine XS.iloadN X74.here hx rfl (hb hby at_163) rfl  ?_
      show Steps p.tables e below (T73.setTop (mkF m 164 #[.val (.int p0), .val (.ref b7), .val (.int (9 : Int32)), .unset, .unset] [(.int (9 : Int32)), (.ref b7)])) _
      exact k
    obtain ⟨cl119, Ar119, q119, Sz119, Nn119, Ha119, Ga119⟩ := id (V73)
    have hin119 : ¬ ((9 : Int32) < 0 ∨ cl119.slots.size ≤ ((9 : Int32)).toNatClampNeg) := inb_of Sz119 ⟨by decide, by decide⟩
    refine Go.st (V' := T73.setTop (mkF m 167 #[.val (.int p0), .val (.ref b7), .val (.int (9 : Int32)), .val (.ref s_GEO_PT), .unset] [(.ref s_GEO_PT)])) (fun t k => ?_) ?_
    · show Steps p.tables e below (T73.setTop (mkF m 164 #[.val (.int p0), .val (.ref b7), .val (.int (9 : Int32)), .unset, .unset] [(.int (9 : Int32)), (.ref b7)])) _
      refine X74.aaload hx (j := (9 : Int32)) (v := (.ref s_GEO_PT)) (own_eT e73 Ar119) (State.isArrayOf_alike hZ.alike Ar119.2.1) rfl Ar119.2.2 hin119 (Ha119.at hin119 rfl) (g := (mkF m 164 #[.val (.int p0), .val (.ref b7), .val (.int (9 : Int32)), .unset, .unset] [(.int (9 : Int32)), (.ref b7)])) rfl rfl (hb hby at_164) _ ?_
      show Steps p.tables e below (T73.setTop (mkF m 165 #[.val (.int p0), .val (.ref b7), .val (.int (9 : Int32)), .unset, .unset] [(.ref s_GEO_PT)])) _
      refine XS.astoreN X74.here hx rfl (hb hby at_165) rfl rfl (l' := #[.val (.int p0), .val (.ref b7), .val (.int (9 : Int32)), .val (.ref s_GEO_PT), .unset]) rfl ?_
      show Steps p.tables e below (T73.setTop (mkF m 166 #[.val (.int p0), .val (.ref b7), .val (.int (9 : Int32)), .val (.ref s_GEO_PT), .unset] [])) _
      refine XS.aloadN X74.here hx rfl (hb hby at_166) rfl rfl ?_
      show Steps p.tables e below (T73.setTop (mkF m 167 #[.val (.int p0), .val (.ref b7), .val (.int (9 : Int32)), .val (.ref s_GEO_PT), .unset] [(.ref s_GEO_PT)])) _
      exact k
    obtain ⟨T120, X120, e120, st120⟩ := getS2 X74 hx hZ hown (host := "") (Or.inl (hw _ (List.mem_of_getElem? (i := 16) rfl))) Via.refl e73 (S_TEXT.ext O73.2) (g := (mkF m 167 #[.val (.int p0), .val (.ref b7), .val (.int (9 : Int32)), .val (.ref s_GEO_PT), .unset] [(.ref s_GEO_PT)])) rfl (hb hby at_167)
    refine Go.st (V' := T120.setTop (mkF m 170 #[.val (.int p0), .val (.ref b7), .val (.int (9 : Int32)), .val (.ref s_GEO_PT), .unset] [(.ref s_TEXT), (.ref s_GEO_PT)])) (fun t k => st120 t k) ?_
    refine Go.st (V' := T120.setTop (mkF m 174 #[.val (.int p0), .val (.ref b7), .val (.int (9 : Int32)), .val (.ref s_GEO_PT), .unset] [(.ref s_GEO_PT)])) (fun t k => ?_) ?_
    · refine Jvm.RoadKit.acmp (g := (mkF m 170 #[.val (.int p0), .val (.ref b7), .val (.int (9 : Int32)), .val (.ref s_GEO_PT), .unset] [(.ref s_TEXT), (.ref s_GEO_PT)])) X120 hx rfl rfl rfl (pc0 := 170) (pc' := 173) (same := false) rfl (hb hby at_170) rfl (decide_eq_false fun q => (Fld.ne (F_GEO_PT_ordinal.ext O73.2) (F_TEXT_ordinal.ext O73.2) (by decide)) (Value.ref.inj q)) (by decide) (by decide) ?_
      show Steps p.tables e below (T120.setTop (mkF m 173 #[.val (.int p0), .val (.ref b7), .val (.int (9 : Int32)), .val (.ref s_GEO_PT), .unset] [])) _
      refine XS.aloadN X120.here hx rfl (hb hby at_173) rfl rfl ?_
      show Steps p.tables e below (T120.setTop (mkF m 174 #[.val (.int p0), .val (.ref b7), .val (.int (9 : Int32)), .val (.ref s_GEO_PT), .unset] [(.ref s_GEO_PT)])) _
      exact k
    obtain ⟨T121, X121, e121, st121⟩ := getS2 X120 hx hZ hown (host := "") (Or.inl (hw _ (List.mem_of_getElem? (i := 18) rfl))) Via.refl e120 (S_BLOB.ext O73.2) (g := (mkF m 174 #[.val (.int p0), .val (.ref b7), .val (.int (9 : Int32)), .val (.ref s_GEO_PT), .unset] [(.ref s_GEO_PT)])) rfl (hb hby at_174)
    refine Go.st (V' := T121.setTop (mkF m 177 #[.val (.int p0), .val (.ref b7), .val (.int (9 : Int32)), .val (.ref s_GEO_PT), .unset] [(.ref s_BLOB), (.ref s_GEO_PT)])) (fun t k => st121 t k) ?_
    refine Go.st (V' := T121.setTop (mkF m 181 #[.val (.int p0), .val (.ref b7), .val (.int (9 : Int32)), .val (.ref s_GEO_PT), .unset] [(.ref s_GEO_PT)])) (fun t k => ?_) ?_
    · refine Jvm.RoadKit.acmp (g := (mkF m 177 #[.val (.int p0), .val (.ref b7), .val (.int (9 : Int32)), .val (.ref s_GEO_PT), .unset] [(.ref s_BLOB), (.ref s_GEO_PT)])) X121 hx rfl rfl rfl (pc0 := 177) (pc' := 180) (same := false) rfl (hb hby at_177) rfl (decide_eq_false fun q => (Fld.ne (F_GEO_PT_ordinal.ext O73.2) (F_BLOB_ordinal.ext O73.2) (by decide)) (Value.ref.inj q)) (by decide) (by decide) ?_
      show Steps p.tables e below (T121.setTop (mkF m 180 #[.val (.int p0), .val (.ref b7), .val (.int (9 : Int32)), .val (.ref s_GEO_PT), .unset] [])) _
      refine XS.aloadN X121.here hx rfl (hb hby at_180) rfl rfl ?_
      show Steps p.tables e below (T121.setTop (mkF m 181 #[.val (.int p0), .val (.ref b7), .val (.int (9 : Int32)), .val (.ref s_GEO_PT), .unset] [(.ref s_GEO_PT)])) _
      exact k
    obtain ⟨T122, X122, e122, st122⟩ := getS2 X121 hx hZ hown (host := "") (Or.inl (hw _ (List.mem_of_getElem? (i := 44) rfl))) Via.refl e121 (S_EMBEDDED_ENTITY.ext O73.2) (g := (mkF m 181 #[.val (.int p0), .val (.ref b7), .val (.int (9 : Int32)), .val (.ref s_GEO_PT), .unset] [(.ref s_GEO_PT)])) rfl (hb hby at_181)
    refine Go.st (V' := T122.setTop (mkF m 184 #[.val (.int p0), .val (.ref b7), .val (.int (9 : Int32)), .val (.ref s_GEO_PT), .unset] [(.ref s_EMBEDDED_ENTITY), (.ref s_GEO_PT)])) (fun t k => st122 t k) ?_
    refine Go.st (V' := T122.setTop (mkF m 195 #[.val (.int p0), .val (.ref b7), .val (.int (9 : Int32)), .val (.ref s_GEO_PT), .val (.int (1 : Int32))] [(.ref s_GEO_PT)])) (fun t k => ?_) ?_
    · refine Jvm.RoadKit.acmp (g := (mkF m 184 #[.val (.int p0), .val (.ref b7), .val (.int (9 : Int32)), .val (.ref s_GEO_PT), .unset] [(.ref s_EMBEDDED_ENTITY), (.ref s_GEO_PT)])) X122 hx rfl rfl rfl (pc0 := 184) (pc' := 187) (same := false) rfl (hb hby at_184) rfl (decide_eq_false fun q => (Fld.ne (F_GEO_PT_ordinal.ext O73.2) (F_EMBEDDED_ENTITY_ordinal.ext O73.2) (by decide)) (Value.ref.inj q)) (by decide) (by decide) ?_
      show Steps p.tables e below (T122.setTop (mkF m 187 #[.val (.int p0), .val (.ref b7), .val (.int (9 : Int32)), .val (.ref s_GEO_PT), .unset] [])) _
      refine XS.iconst X122.here hx rfl (hb hby at_187) ?_
      show Steps p.tables e below (T122.setTop (mkF m 188 #[.val (.int p0), .val (.ref b7), .val (.int (9 : Int32)), .val (.ref s_GEO_PT), .unset] [(.int (1 : Int32))])) _
      refine XS.goto X122.here hx rfl (pc0 := 188) (pc' := 192) rfl (hb hby at_188) (by decide) (by decide) ?_
      show Steps p.tables e below (T122.setTop (mkF m 192 #[.val (.int p0), .val (.ref b7), .val (.int (9 : Int32)), .val (.ref s_GEO_PT), .unset] [(.int (1 : Int32))])) _
      refine XS.istore X122.here hx rfl (hb hby at_192) rfl (l' := #[.val (.int p0), .val (.ref b7), .val (.int (9 : Int32)), .val (.ref s_GEO_PT), .val (.int (1 : Int32))]) rfl ?_
      show Steps p.tables e below (T122.setTop (mkF m 194 #[.val (.int p0), .val (.ref b7), .val (.int (9 : Int32)), .val (.ref s_GEO_PT), .val (.int (1 : Int32))] [])) _
      refine XS.aloadN X122.here hx rfl (hb hby at_194) rfl rfl ?_
      show Steps p.tables e below (T122.setTop (mkF m 195 #[.val (.int p0), .val (.ref b7), .val (.int (9 : Int32)), .val (.ref s_GEO_PT), .val (.int (1 : Int32))] [(.ref s_GEO_PT)])) _
      exact k
    obtain ⟨cq123, kq123, q123a, q123b, q123c⟩ := isOf hZ e122 (E_GEO_PT.ext O73.2)
    obtain ⟨_, _, ⟨T123, L123, k123, n123⟩, -, X123, ⟨Lc123, hQ123, l123, y123, z123⟩, st123⟩ := X122.virtualBack hx (y := (⟨"com/example/rooted_kinds/rootedkinds/model/ValueType", "isIndexed", "()Z"⟩ : MethodName)) (z := (⟨"com/example/rooted_kinds/rootedkinds/model/ValueType", "isIndexed", "()Z"⟩ : MethodName)) hown (mvT hZ (hw _ (List.mem_of_getElem? (i := 49) rfl))) (mvT hZ (hw _ (List.mem_of_getElem? (i := 50) rfl))) (notFace_of_selects (args := #[]) (mvT hZ (hw _ (List.mem_of_getElem? (i := 52) rfl)))) (mvT hZ (hw _ (List.mem_of_getElem? (i := 52) rfl))) (mvT hZ (hw _ (List.mem_of_getElem? (i := 51) rfl))) (by decide) (backOf (W := 0) (rm1r l Z a0 hw [] s_NULL s_LONG s_DOUBLE s_BOOLEAN s_STRING s_DATE s_TEXT s_BLOB s_SHORT_BLOB s_GEO_PT s_POSTAL_ADDRESS s_PHONE_NUMBER s_EMAIL s_IM_HANDLE s_LINK s_CATEGORY s_RATING s_USER s_BLOB_KEY s_KEY s_EMBEDDED_ENTITY s_LIST s_Representation_NULL s_Representation_BOOLEAN s_Representation_STRING s_Representation_DOUBLE s_INT64 s_POINT s_REFERENCE s_Representation_USER HW s_GEO_PT s_POINT h73 n0 O73 (F_GEO_PT_representation.ext O73.2)) hZ (hw _ (List.mem_of_getElem? (i := 53) rfl)) (hw _ (List.mem_of_getElem? (i := 3) rfl)) (by decide) (by decide)) q123a q123c (g := (mkF m 195 #[.val (.int p0), .val (.ref b7), .val (.int (9 : Int32)), .val (.ref s_GEO_PT), .val (.int (1 : Int32))] [(.ref s_GEO_PT)])) rfl (by rw [hml]; rfl) (Steps.refl _) (argsL := []) (rest := []) (lenOf own_pd10 rfl) rfl (by show 2 * 0 + _ ≤ _; exact Nat.le_of_eq rfl) (hb hby at_195) (fun _ _ => ⟨rfl, e122, (by decide : 1 + 0 ≤ _), (by decide : 22 + 0 ≤ _)⟩)
    dsimp only [Pt.U, Pt.locs, Pt.cells, Pt.slots] at X123 l123 y123 z123 st123 hQ123
    subst l123 y123 z123
    obtain ⟨rfl, N123q, e123⟩ := hQ123
    have N123 := Fr.app N74 N123q
    refine Go.st (V' := T123.setTop (mkF m 198 #[.val (.int p0), .val (.ref b7), .val (.int (9 : Int32)), .val (.ref s_GEO_PT), .val (.int (1 : Int32))] [(.int (1 : Int32))])) (fun t k => st123.trans k) ?_
    refine Go.st (V' := T123.setTop (mkF m 208 #[.val (.int p0), .val (.ref b7), .val (.int (9 : Int32)), .val (.ref s_GEO_PT), .val (.int (1 : Int32))] [(.int (1 : Int32))])) (fun t k => ?_) ?_
    · refine XS.iload X123.here hx rfl (hb hby at_198) rfl  ?_
      show Steps p.tables e below (T123.setTop (mkF m 200 #[.val (.int p0), .val (.ref b7), .val (.int (9 : Int32)), .val (.ref s_GEO_PT), .val (.int (1 : Int32))] [(.int (1 : Int32)), (.int (1 : Int32))])) _
      refine XS.icmpNo X123.here hx rfl (hb hby at_200) rfl (teq (by decide : ((1 : Int32) = (1 : Int32)))).2 ?_
      show Steps p.tables e below (T123.setTop (mkF m 203 #[.val (.int p0), .val (.ref b7), .val (.int (9 : Int32)), .val (.ref s_GEO_PT), .val (.int (1 : Int32))] [])) _
      refine XS.iconst X123.here hx rfl (hb hby at_203) ?_
      show Steps p.tables e below (T123.setTop (mkF m 204 #[.val (.int p0), .val (.ref b7), .val (.int (9 : Int32)), .val (.ref s_GEO_PT), .val (.int (1 : Int32))] [(.int (1 : Int32))])) _
      refine XS.goto X123.here hx rfl (pc0 := 204) (pc' := 208) rfl (hb hby at_204) (by decide) (by decide) ?_
      show Steps p.tables e below (T123.setTop (mkF m 208 #[.val (.int p0), .val (.ref b7), .val (.int (9 : Int32)), .val (.ref s_GEO_PT), .val (.int (1 : Int32))] [(.int (1 : Int32))])) _
      exact k
    obtain ⟨fs, hr, hrun, hended, hW, hsame⟩ := X123.leave (v := some (.int (1 : Int32))) (fun h => by rw [Bd.returns] at h; cases h)
    refine Go.mk' ⟨_, _, retN X123 hx (t := .boolean) Bd.returns (by simp) (hb hby at_208) hr, hrun, hended, _, _, rfl, ?_, ⟨_, rfl⟩, hW, hsame.mono (by decide) (by decide)⟩
    show Q0 Z p0 h0 n0 _ T123.heap _
    rw [e123]
    exact ⟨rfl, N123⟩
  · show Go p e below _ (T73.setTop (mkF m 162 #[.val (.int p0), .val (.ref b7), .val (.int (10 : Int32)), .unset, .unset] []))
    refine Go.st (V' := T73.setTop (mkF m 164 #[.val (.int p0), .val (.ref b7), .val (.int (10 : Int32)), .unset, .unset] [(.int (10 : Int32)), (.ref b7)])) (fun t k => ?_) ?_
    · refine XS.aloadN X74.here hx rfl (hb hby at_162) rfl rfl ?_
      show Steps p.tables e below (T73.setTop (mkF m 163 #[.val (.int p0), .val (.ref b7), .val (.int (10 : Int32)), .unset, .unset] [(.ref b7)])) _
      refine XS.iloadN X74.here hx rfl (hb hby at_163) rfl  ?_
      show Steps p.tables e below (T73.setTop (mkF m 164 #[.val (.int p0), .val (.ref b7), .val (.int (10 : Int32)), .unset, .unset] [(.int (10 : Int32)), (.ref b7)])) _
      exact k
    obtain ⟨cl124, Ar124, q124, Sz124, Nn124, Ha124, Ga124⟩ := id (V73)
    have hin124 : ¬ ((10 : Int32) < 0 ∨ cl124.slots.size ≤ ((10 : Int32)).toNatClampNeg) := inb_of Sz124 ⟨by decide, by decide⟩
    refine Go.st (V' := T73.setTop (mkF m 167 #[.val (.int p0), .val (.ref b7), .val (.int (10 : Int32)), .val (.ref s_POSTAL_ADDRESS), .unset] [(.ref s_POSTAL_ADDRESS)])) (fun t k => ?_) ?_
    · show Steps p.tables e below (T73.setTop (mkF m 164 #[.val (.int p0), .val (.ref b7), .val (.int (10 : Int32)), .unset, .unset] [(.int (10 : Int32)), (.ref b7)])) _
      refine X74.aaload hx (j := (10 : Int32)) (v := (.ref s_POSTAL_ADDRESS)) (own_eT e73 Ar124) (State.isArrayOf_alike hZ.alike Ar124.2.1) rfl Ar124.2.2 hin124 (Ha124.at hin124 rfl) (g := (mkF m 164 #[.val (.int p0), .val (.ref b7), .val (.int (10 : Int32)), .unset, .unset] [(.int (10 : Int32)), (.ref b7)])) rfl rfl (hb hby at_164) _ ?_
      show Steps p.tables e below (T73.setTop (mkF m 165 #[.val (.int p0), .val (.ref b7), .val (.int (10 : Int32)), .unset, .unset] [(.ref s_POSTAL_ADDRESS)])) _
      refine XS.astoreN X74.here hx rfl (hb hby at_165) rfl rfl (l' := #[.val (.int p0), .val (.ref b7), .val (.int (10 : Int32)), .val (.ref s_POSTAL_ADDRESS), .unset]) rfl ?_
      show Steps p.tables e below (T73.setTop (mkF m 166 #[.val (.int p0), .val (.ref b7), .val (.int (10 : Int32)), .val (.ref s_POSTAL_ADDRESS), .unset] [])) _
      refine XS.aloadN X74.here hx rfl (hb hby at_166) rfl rfl ?_
      show Steps p.tables e below (T73.setTop (mkF m 167 #[.val (.int p0), .val (.ref b7), .val (.int (10 : Int32)), .val (.ref s_POSTAL_ADDRESS), .unset] [(.ref s_POSTAL_ADDRESS)])) _
      exact k
    obtain ⟨T125, X125, e125, st125⟩ := getS2 X74 hx hZ hown (host := "") (Or.inl (hw _ (List.mem_of_getElem? (i := 16) rfl))) Via.refl e73 (S_TEXT.ext O73.2) (g := (mkF m 167 #[.val (.int p0), .val (.ref b7), .val (.int (10 : Int32)), .val (.ref s_POSTAL_ADDRESS), .unset] [(.ref s_POSTAL_ADDRESS)])) rfl (hb hby at_167)
    refine Go.st (V' := T125.setTop (mkF m 170 #[.val (.int p0), .val (.ref b7), .val (.int (10 : Int32)), .val (.ref s_POSTAL_ADDRESS), .unset] [(.ref s_TEXT), (.ref s_POSTAL_ADDRESS)])) (fun t k => st125 t k) ?_
    refine Go.st (V' := T125.setTop (mkF m 174 #[.val (.int p0), .val (.ref b7), .val (.int (10 : Int32)), .val (.ref s_POSTAL_ADDRESS), .unset] [(.ref s_POSTAL_ADDRESS)])) (fun t k => ?_) ?_
    · refine Jvm.RoadKit.acmp (g := (mkF m 170 #[.val (.int p0), .val (.ref b7), .val (.int (10 : Int32)), .val (.ref s_POSTAL_ADDRESS), .unset] [(.ref s_TEXT), (.ref s_POSTAL_ADDRESS)])) X125 hx rfl rfl rfl (pc0 := 170) (pc' := 173) (same := false) rfl (hb hby at_170) rfl (decide_eq_false fun q => (Fld.ne (F_POSTAL_ADDRESS_ordinal.ext O73.2) (F_TEXT_ordinal.ext O73.2) (by decide)) (Value.ref.inj q)) (by decide) (by decide) ?_
      show Steps p.tables e below (T125.setTop (mkF m 173 #[.val (.int p0), .val (.ref b7), .val (.int (10 : Int32)), .val (.ref s_POSTAL_ADDRESS), .unset] [])) _
      refine XS.aloadN X125.here hx rfl (hb hby at_173) rfl rfl ?_
      show Steps p.tables e below (T125.setTop (mkF m 174 #[.val (.int p0), .val (.ref b7), .val (.int (10 : Int32)), .val (.ref s_POSTAL_ADDRESS), .unset] [(.ref s_POSTAL_ADDRESS)])) _
      exact k
    obtain ⟨T126, X126, e126, st126⟩ := getS2 X125 hx hZ hown (host := "") (Or.inl (hw _ (List.mem_of_getElem? (i := 18) rfl))) Via.refl e125 (S_BLOB.ext O73.2) (g := (mkF m 174 #[.val (.int p0), .val (.ref b7), .val (.int (10 : Int32)), .val (.ref s_POSTAL_ADDRESS), .unset] [(.ref s_POSTAL_ADDRESS)])) rfl (hb hby at_174)
    refine Go.st (V' := T126.setTop (mkF m 177 #[.val (.int p0), .val (.ref b7), .val (.int (10 : Int32)), .val (.ref s_POSTAL_ADDRESS), .unset] [(.ref s_BLOB), (.ref s_POSTAL_ADDRESS)])) (fun t k => st126 t k) ?_
    refine Go.st (V' := T126.setTop (mkF m 181 #[.val (.int p0), .val (.ref b7), .val (.int (10 : Int32)), .val (.ref s_POSTAL_ADDRESS), .unset] [(.ref s_POSTAL_ADDRESS)])) (fun t k => ?_) ?_
    · refine Jvm.RoadKit.acmp (g := (mkF m 177 #[.val (.int p0), .val (.ref b7), .val (.int (10 : Int32)), .val (.ref s_POSTAL_ADDRESS), .unset] [(.ref s_BLOB), (.ref s_POSTAL_ADDRESS)])) X126 hx rfl rfl rfl (pc0 := 177) (pc' := 180) (same := false) rfl (hb hby at_177) rfl (decide_eq_false fun q => (Fld.ne (F_POSTAL_ADDRESS_ordinal.ext O73.2) (F_BLOB_ordinal.ext O73.2) (by decide)) (Value.ref.inj q)) (by decide) (by decide) ?_
      show Steps p.tables e below (T126.setTop (mkF m 180 #[.val (.int p0), .val (.ref b7), .val (.int (10 : Int32)), .val (.ref s_POSTAL_ADDRESS), .unset] [])) _
      refine XS.aloadN X126.here hx rfl (hb hby at_180) rfl rfl ?_
      show Steps p.tables e below (T126.setTop (mkF m 181 #[.val (.int p0), .val (.ref b7), .val (.int (10 : Int32)), .val (.ref s_POSTAL_ADDRESS), .unset] [(.ref s_POSTAL_ADDRESS)])) _
      exact k
    obtain ⟨T127, X127, e127, st127⟩ := getS2 X126 hx hZ hown (host := "") (Or.inl (hw _ (List.mem_of_getElem? (i := 44) rfl))) Via.refl e126 (S_EMBEDDED_ENTITY.ext O73.2) (g := (mkF m 181 #[.val (.int p0), .val (.ref b7), .val (.int (10 : Int32)), .val (.ref s_POSTAL_ADDRESS), .unset] [(.ref s_POSTAL_ADDRESS)])) rfl (hb hby at_181)
    refine Go.st (V' := T127.setTop (mkF m 184 #[.val (.int p0), .val (.ref b7), .val (.int (10 : Int32)), .val (.ref s_POSTAL_ADDRESS), .unset] [(.ref s_EMBEDDED_ENTITY), (.ref s_POSTAL_ADDRESS)])) (fun t k => st127 t k) ?_
    refine Go.st (V' := T127.setTop (mkF m 195 #[.val (.int p0), .val (.ref b7), .val (.int (10 : Int32)), .val (.ref s_POSTAL_ADDRESS), .val (.int (1 : Int32))] [(.ref s_POSTAL_ADDRESS)])) (fun t k => ?_) ?_
    · refine Jvm.RoadKit.acmp (g := (mkF m 184 #[.val (.int p0), .val (.ref b7), .val (.int (10 : Int32)), .val (.ref s_POSTAL_ADDRESS), .unset] [(.ref s_EMBEDDED_ENTITY), (.ref s_POSTAL_ADDRESS)])) X127 hx rfl rfl rfl (pc0 := 184) (pc' := 187) (same := false) rfl (hb hby at_184) rfl (decide_eq_false fun q => (Fld.ne (F_POSTAL_ADDRESS_ordinal.ext O73.2) (F_EMBEDDED_ENTITY_ordinal.ext O73.2) (by decide)) (Value.ref.inj q)) (by decide) (by decide) ?_
      show Steps p.tables e below (T127.setTop (mkF m 187 #[.val (.int p0), .val (.ref b7), .val (.int (10 : Int32)), .val (.ref s_POSTAL_ADDRESS), .unset] [])) _
      refine XS.iconst X127.here hx rfl (hb hby at_187) ?_
      show Steps p.tables e below (T127.setTop (mkF m 188 #[.val (.int p0), .val (.ref b7), .val (.int (10 : Int32)), .val (.ref s_POSTAL_ADDRESS), .unset] [(.int (1 : Int32))])) _
      refine XS.goto X127.here hx rfl (pc0 := 188) (pc' := 192) rfl (hb hby at_188) (by decide) (by decide) ?_
      show Steps p.tables e below (T127.setTop (mkF m 192 #[.val (.int p0), .val (.ref b7), .val (.int (10 : Int32)), .val (.ref s_POSTAL_ADDRESS), .unset] [(.int (1 : Int32))])) _
      refine XS.istore X127.here hx rfl (hb hby at_192) rfl (l' := #[.val (.int p0), .val (.ref b7), .val (.int (10 : Int32)), .val (.ref s_POSTAL_ADDRESS), .val (.int (1 : Int32))]) rfl ?_
      show Steps p.tables e below (T127.setTop (mkF m 194 #[.val (.int p0), .val (.ref b7), .val (.int (10 : Int32)), .val (.ref s_POSTAL_ADDRESS), .val (.int (1 : Int32))] [])) _
      refine XS.aloadN X127.here hx rfl (hb hby at_194) rfl rfl ?_
      show Steps p.tables e below (T127.setTop (mkF m 195 #[.val (.int p0), .val (.ref b7), .val (.int (10 : Int32)), .val (.ref s_POSTAL_ADDRESS), .val (.int (1 : Int32))] [(.ref s_POSTAL_ADDRESS)])) _
      exact k
    obtain ⟨cq128, kq128, q128a, q128b, q128c⟩ := isOf hZ e127 (E_POSTAL_ADDRESS.ext O73.2)
    obtain ⟨_, _, ⟨T128, L128, k128, n128⟩, -, X128, ⟨Lc128, hQ128, l128, y128, z128⟩, st128⟩ := X127.virtualBack hx (y := (⟨"com/example/rooted_kinds/rootedkinds/model/ValueType", "isIndexed", "()Z"⟩ : MethodName)) (z := (⟨"com/example/rooted_kinds/rootedkinds/model/ValueType", "isIndexed", "()Z"⟩ : MethodName)) hown (mvT hZ (hw _ (List.mem_of_getElem? (i := 49) rfl))) (mvT hZ (hw _ (List.mem_of_getElem? (i := 50) rfl))) (notFace_of_selects (args := #[]) (mvT hZ (hw _ (List.mem_of_getElem? (i := 52) rfl)))) (mvT hZ (hw _ (List.mem_of_getElem? (i := 52) rfl))) (mvT hZ (hw _ (List.mem_of_getElem? (i := 51) rfl))) (by decide) (backOf (W := 0) (rm1r l Z a0 hw [] s_NULL s_LONG s_DOUBLE s_BOOLEAN s_STRING s_DATE s_TEXT s_BLOB s_SHORT_BLOB s_GEO_PT s_POSTAL_ADDRESS s_PHONE_NUMBER s_EMAIL s_IM_HANDLE s_LINK s_CATEGORY s_RATING s_USER s_BLOB_KEY s_KEY s_EMBEDDED_ENTITY s_LIST s_Representation_NULL s_Representation_BOOLEAN s_Representation_STRING s_Representation_DOUBLE s_INT64 s_POINT s_REFERENCE s_Representation_USER HW s_POSTAL_ADDRESS s_Representation_STRING h73 n0 O73 (F_POSTAL_ADDRESS_representation.ext O73.2)) hZ (hw _ (List.mem_of_getElem? (i := 53) rfl)) (hw _ (List.mem_of_getElem? (i := 3) rfl)) (by decide) (by decide)) q128a q128c (g := (mkF m 195 #[.val (.int p0), .val (.ref b7), .val (.int (10 : Int32)), .val (.ref s_POSTAL_ADDRESS), .val (.int (1 : Int32))] [(.ref s_POSTAL_ADDRESS)])) rfl (by rw [hml]; rfl) (Steps.refl _) (argsL := []) (rest := []) (lenOf own_pd10 rfl) rfl (by show 2 * 0 + _ ≤ _; exact Nat.le_of_eq rfl) (hb hby at_195) (fun _ _ => ⟨rfl, e127, (by decide : 1 + 0 ≤ _), (by decide : 22 + 0 ≤ _)⟩)
    dsimp only [Pt.U, Pt.locs, Pt.cells, Pt.slots] at X128 l128 y128 z128 st128 hQ128
    subst l128 y128 z128
    obtain ⟨rfl, N128q, e128⟩ := hQ128
    have N128 := Fr.app N74 N128q
    refine Go.st (V' := T128.setTop (mkF m 198 #[.val (.int p0), .val (.ref b7), .val (.int (10 : Int32)), .val (.ref s_POSTAL_ADDRESS), .val (.int (1 : Int32))] [(.int (1 : Int32))])) (fun t k => st128.trans k) ?_
    refine Go.st (V' := T128.setTop (mkF m 208 #[.val (.int p0), .val (.ref b7), .val (.int (10 : Int32)), .val (.ref s_POSTAL_ADDRESS), .val (.int (1 : Int32))] [(.int (1 : Int32))])) (fun t k => ?_) ?_
    · refine XS.iload X128.here hx rfl (hb hby at_198) rfl  ?_
      show Steps p.tables e below (T128.setTop (mkF m 200 #[.val (.int p0), .val (.ref b7), .val (.int (10 : Int32)), .val (.ref s_POSTAL_ADDRESS), .val (.int (1 : Int32))] [(.int (1 : Int32)), (.int (1 : Int32))])) _
      refine XS.icmpNo X128.here hx rfl (hb hby at_200) rfl (teq (by decide : ((1 : Int32) = (1 : Int32)))).2 ?_
      show Steps p.tables e below (T128.setTop (mkF m 203 #[.val (.int p0), .val (.ref b7), .val (.int (10 : Int32)), .val (.ref s_POSTAL_ADDRESS), .val (.int (1 : Int32))] [])) _
      refine XS.iconst X128.here hx rfl (hb hby at_203) ?_
      show Steps p.tables e below (T128.setTop (mkF m 204 #[.val (.int p0), .val (.ref b7), .val (.int (10 : Int32)), .val (.ref s_POSTAL_ADDRESS), .val (.int (1 : Int32))] [(.int (1 : Int32))])) _
      refine XS.goto X128.here hx rfl (pc0 := 204) (pc' := 208) rfl (hb hby at_204) (by decide) (by decide) ?_
      show Steps p.tables e below (T128.setTop (mkF m 208 #[.val (.int p0), .val (.ref b7), .val (.int (10 : Int32)), .val (.ref s_POSTAL_ADDRESS), .val (.int (1 : Int32))] [(.int (1 : Int32))])) _
      exact k
    obtain ⟨fs, hr, hrun, hended, hW, hsame⟩ := X128.leave (v := some (.int (1 : Int32))) (fun h => by rw [Bd.returns] at h; cases h)
    refine Go.mk' ⟨_, _, retN X128 hx (t := .boolean) Bd.returns (by simp) (hb hby at_208) hr, hrun, hended, _, _, rfl, ?_, ⟨_, rfl⟩, hW, hsame.mono (by decide) (by decide)⟩
    show Q0 Z p0 h0 n0 _ T128.heap _
    rw [e128]
    exact ⟨rfl, N128⟩
  · show Go p e below _ (T73.setTop (mkF m 162 #[.val (.int p0), .val (.ref b7), .val (.int (11 : Int32)), .unset, .unset] []))
    refine Go.st (V' := T73.setTop (mkF m 164 #[.val (.int p0), .val (.ref b7), .val (.int (11 : Int32)), .unset, .unset] [(.int (11 : Int32)), (.ref b7)])) (fun t k => ?_) ?_
    · refine XS.aloadN X74.here hx rfl (hb hby at_162) rfl rfl ?_
      show Steps p.tables e below (T73.setTop (mkF m 163 #[.val (.int p0), .val (.ref b7), .val (.int (11 : Int32)), .unset, .unset] [(.ref b7)])) _
      refine XS.iloadN X74.here hx rfl (hb hby at_163) rfl  ?_
      show Steps p.tables e below (T73.setTop (mkF m 164 #[.val (.int p0), .val (.ref b7), .val (.int (11 : Int32)), .unset, .unset] [(.int (11 : Int32)), (.ref b7)])) _
      exact k
    obtain ⟨cl129, Ar129, q129, Sz129, Nn129, Ha129, Ga129⟩ := id (V73)
    have hin129 : ¬ ((11 : Int32) < 0 ∨ cl129.slots.size ≤ ((11 : Int32)).toNatClampNeg) := inb_of Sz129 ⟨by decide, by decide⟩
    refine Go.st (V' := T73.setTop (mkF m 167 #[.val (.int p0), .val (.ref b7), .val (.int (11 : Int32)), .val (.ref s_PHONE_NUMBER), .unset] [(.ref s_PHONE_NUMBER)])) (fun t k => ?_) ?_
    · show Steps p.tables e below (T73.setTop (mkF m 164 #[.val (.int p0), .val (.ref b7), .val (.int (11 : Int32)), .unset, .unset] [(.int (11 : Int32)), (.ref b7)])) _
      refine X74.aaload hx (j := (11 : Int32)) (v := (.ref s_PHONE_NUMBER)) (own_eT e73 Ar129) (State.isArrayOf_alike hZ.alike Ar129.2.1) rfl Ar129.2.2 hin129 (Ha129.at hin129 rfl) (g := (mkF m 164 #[.val (.int p0), .val (.ref b7), .val (.int (11 : Int32)), .unset, .unset] [(.int (11 : Int32)), (.ref b7)])) rfl rfl (hb hby at_164) _ ?_
      show Steps p.tables e below (T73.setTop (mkF m 165 #[.val (.int p0), .val (.ref b7), .val (.int (11 : Int32)), .unset, .unset] [(.ref s_PHONE_NUMBER)])) _
      refine XS.astoreN X74.here hx rfl (hb hby at_165) rfl rfl (l' := #[.val (.int p0), .val (.ref b7), .val (.int (11 : Int32)), .val (.ref s_PHONE_NUMBER), .unset]) rfl ?_
      show Steps p.tables e below (T73.setTop (mkF m 166 #[.val (.int p0), .val (.ref b7), .val (.int (11 : Int32)), .val (.ref s_PHONE_NUMBER), .unset] [])) _
      refine XS.aloadN X74.here hx rfl (hb hby at_166) rfl rfl ?_
      show Steps p.tables e below (T73.setTop (mkF m 167 #[.val (.int p0), .val (.ref b7), .val (.int (11 : Int32)), .val (.ref s_PHONE_NUMBER), .unset] [(.ref s_PHONE_NUMBER)])) _
      exact k
    obtain ⟨T130, X130, e130, st130⟩ := getS2 X74 hx hZ hown (host := "") (Or.inl (hw _ (List.mem_of_getElem? (i := 16) rfl))) Via.refl e73 (S_TEXT.ext O73.2) (g := (mkF m 167 #[.val (.int p0), .val (.ref b7), .val (.int (11 : Int32)), .val (.ref s_PHONE_NUMBER), .unset] [(.ref s_PHONE_NUMBER)])) rfl (hb hby at_167)
    refine Go.st (V' := T130.setTop (mkF m 170 #[.val (.int p0), .val (.ref b7), .val (.int (11 : Int32)), .val (.ref s_PHONE_NUMBER), .unset] [(.ref s_TEXT), (.ref s_PHONE_NUMBER)])) (fun t k => st130 t k) ?_
    refine Go.st (V' := T130.setTop (mkF m 174 #[.val (.int p0), .val (.ref b7), .val (.int (11 : Int32)), .val (.ref s_PHONE_NUMBER), .unset] [(.ref s_PHONE_NUMBER)])) (fun t k => ?_) ?_
    · refine Jvm.RoadKit.acmp (g := (mkF m 170 #[.val (.int p0), .val (.ref b7), .val (.int (11 : Int32)), .val (.ref s_PHONE_NUMBER), .unset] [(.ref s_TEXT), (.ref s_PHONE_NUMBER)])) X130 hx rfl rfl rfl (pc0 := 170) (pc' := 173) (same := false) rfl (hb hby at_170) rfl (decide_eq_false fun q => (Fld.ne (F_PHONE_NUMBER_ordinal.ext O73.2) (F_TEXT_ordinal.ext O73.2) (by decide)) (Value.ref.inj q)) (by decide) (by decide) ?_
      show Steps p.tables e below (T130.setTop (mkF m 173 #[.val (.int p0), .val (.ref b7), .val (.int (11 : Int32)), .val (.ref s_PHONE_NUMBER), .unset] [])) _
      refine XS.aloadN X130.here hx rfl (hb hby at_173) rfl rfl ?_
      show Steps p.tables e below (T130.setTop (mkF m 174 #[.val (.int p0), .val (.ref b7), .val (.int (11 : Int32)), .val (.ref s_PHONE_NUMBER), .unset] [(.ref s_PHONE_NUMBER)])) _
      exact k
    obtain ⟨T131, X131, e131, st131⟩ := getS2 X130 hx hZ hown (host := "") (Or.inl (hw _ (List.mem_of_getElem? (i := 18) rfl))) Via.refl e130 (S_BLOB.ext O73.2) (g := (mkF m 174 #[.val (.int p0), .val (.ref b7), .val (.int (11 : Int32)), .val (.ref s_PHONE_NUMBER), .unset] [(.ref s_PHONE_NUMBER)])) rfl (hb hby at_174)
    refine Go.st (V' := T131.setTop (mkF m 177 #[.val (.int p0), .val (.ref b7), .val (.int (11 : Int32)), .val (.ref s_PHONE_NUMBER), .unset] [(.ref s_BLOB), (.ref s_PHONE_NUMBER)])) (fun t k => st131 t k) ?_
    refine Go.st (V' := T131.setTop (mkF m 181 #[.val (.int p0), .val (.ref b7), .val (.int (11 : Int32)), .val (.ref s_PHONE_NUMBER), .unset] [(.ref s_PHONE_NUMBER)])) (fun t k => ?_) ?_
    · refine Jvm.RoadKit.acmp (g := (mkF m 177 #[.val (.int p0), .val (.ref b7), .val (.int (11 : Int32)), .val (.ref s_PHONE_NUMBER), .unset] [(.ref s_BLOB), (.ref s_PHONE_NUMBER)])) X131 hx rfl rfl rfl (pc0 := 177) (pc' := 180) (same := false) rfl (hb hby at_177) rfl (decide_eq_false fun q => (Fld.ne (F_PHONE_NUMBER_ordinal.ext O73.2) (F_BLOB_ordinal.ext O73.2) (by decide)) (Value.ref.inj q)) (by decide) (by decide) ?_
      show Steps p.tables e below (T131.setTop (mkF m 180 #[.val (.int p0), .val (.ref b7), .val (.int (11 : Int32)), .val (.ref s_PHONE_NUMBER), .unset] [])) _
      refine XS.aloadN X131.here hx rfl (hb hby at_180) rfl rfl ?_
      show Steps p.tables e below (T131.setTop (mkF m 181 #[.val (.int p0), .val (.ref b7), .val (.int (11 : Int32)), .val (.ref s_PHONE_NUMBER), .unset] [(.ref s_PHONE_NUMBER)])) _
      exact k
    obtain ⟨T132, X132, e132, st132⟩ := getS2 X131 hx hZ hown (host := "") (Or.inl (hw _ (List.mem_of_getElem? (i := 44) rfl))) Via.refl e131 (S_EMBEDDED_ENTITY.ext O73.2) (g := (mkF m 181 #[.val (.int p0), .val (.ref b7), .val (.int (11 : Int32)), .val (.ref s_PHONE_NUMBER), .unset] [(.ref s_PHONE_NUMBER)])) rfl (hb hby at_181)
    refine Go.st (V' := T132.setTop (mkF m 184 #[.val (.int p0), .val (.ref b7), .val (.int (11 : Int32)), .val (.ref s_PHONE_NUMBER), .unset] [(.ref s_EMBEDDED_ENTITY), (.ref s_PHONE_NUMBER)])) (fun t k => st132 t k) ?_
    refine Go.st (V' := T132.setTop (mkF m 195 #[.val (.int p0), .val (.ref b7), .val (.int (11 : Int32)), .val (.ref s_PHONE_NUMBER), .val (.int (1 : Int32))] [(.ref s_PHONE_NUMBER)])) (fun t k => ?_) ?_
    · refine Jvm.RoadKit.acmp (g := (mkF m 184 #[.val (.int p0), .val (.ref b7), .val (.int (11 : Int32)), .val (.ref s_PHONE_NUMBER), .unset] [(.ref s_EMBEDDED_ENTITY), (.ref s_PHONE_NUMBER)])) X132 hx rfl rfl rfl (pc0 := 184) (pc' := 187) (same := false) rfl (hb hby at_184) rfl (decide_eq_false fun q => (Fld.ne (F_PHONE_NUMBER_ordinal.ext O73.2) (F_EMBEDDED_ENTITY_ordinal.ext O73.2) (by decide)) (Value.ref.inj q)) (by decide) (by decide) ?_
      show Steps p.tables e below (T132.setTop (mkF m 187 #[.val (.int p0), .val (.ref b7), .val (.int (11 : Int32)), .val (.ref s_PHONE_NUMBER), .unset] [])) _
      refine XS.iconst X132.here hx rfl (hb hby at_187) ?_
      show Steps p.tables e below (T132.setTop (mkF m 188 #[.val (.int p0), .val (.ref b7), .val (.int (11 : Int32)), .val (.ref s_PHONE_NUMBER), .unset] [(.int (1 : Int32))])) _
      refine XS.goto X132.here hx rfl (pc0 := 188) (pc' := 192) rfl (hb hby at_188) (by decide) (by decide) ?_
      show Steps p.tables e below (T132.setTop (mkF m 192 #[.val (.int p0), .val (.ref b7), .val (.int (11 : Int32)), .val (.ref s_PHONE_NUMBER), .unset] [(.int (1 : Int32))])) _
      refine XS.istore X132.here hx rfl (hb hby at_192) rfl (l' := #[.val (.int p0), .val (.ref b7), .val (.int (11 : Int32)), .val (.ref s_PHONE_NUMBER), .val (.int (1 : Int32))]) rfl ?_
      show Steps p.tables e below (T132.setTop (mkF m 194 #[.val (.int p0), .val (.ref b7), .val (.int (11 : Int32)), .val (.ref s_PHONE_NUMBER), .val (.int (1 : Int32))] [])) _
      refine XS.aloadN X132.here hx rfl (hb hby at_194) rfl rfl ?_
      show Steps p.tables e below (T132.setTop (mkF m 195 #[.val (.int p0), .val (.ref b7), .val (.int (11 : Int32)), .val (.ref s_PHONE_NUMBER), .val (.int (1 : Int32))] [(.ref s_PHONE_NUMBER)])) _
      exact k
    obtain ⟨cq133, kq133, q133a, q133b, q133c⟩ := isOf hZ e132 (E_PHONE_NUMBER.ext O73.2)
    obtain ⟨_, _, ⟨T133, L133, k133, n133⟩, -, X133, ⟨Lc133, hQ133, l133, y133, z133⟩, st133⟩ := X132.virtualBack hx (y := (⟨"com/example/rooted_kinds/rootedkinds/model/ValueType", "isIndexed", "()Z"⟩ : MethodName)) (z := (⟨"com/example/rooted_kinds/rootedkinds/model/ValueType", "isIndexed", "()Z"⟩ : MethodName)) hown (mvT hZ (hw _ (List.mem_of_getElem? (i := 49) rfl))) (mvT hZ (hw _ (List.mem_of_getElem? (i := 50) rfl))) (notFace_of_selects (args := #[]) (mvT hZ (hw _ (List.mem_of_getElem? (i := 52) rfl)))) (mvT hZ (hw _ (List.mem_of_getElem? (i := 52) rfl))) (mvT hZ (hw _ (List.mem_of_getElem? (i := 51) rfl))) (by decide) (backOf (W := 0) (rm1r l Z a0 hw [] s_NULL s_LONG s_DOUBLE s_BOOLEAN s_STRING s_DATE s_TEXT s_BLOB s_SHORT_BLOB s_GEO_PT s_POSTAL_ADDRESS s_PHONE_NUMBER s_EMAIL s_IM_HANDLE s_LINK s_CATEGORY s_RATING s_USER s_BLOB_KEY s_KEY s_EMBEDDED_ENTITY s_LIST s_Representation_NULL s_Representation_BOOLEAN s_Representation_STRING s_Representation_DOUBLE s_INT64 s_POINT s_REFERENCE s_Representation_USER HW s_PHONE_NUMBER s_Representation_STRING h73 n0 O73 (F_PHONE_NUMBER_representation.ext O73.2)) hZ (hw _ (List.mem_of_getElem? (i := 53) rfl)) (hw _ (List.mem_of_getElem? (i := 3) rfl)) (by decide) (by decide)) q133a q133c (g := (mkF m 195 #[.val (.int p0), .val (.ref b7), .val (.int (11 : Int32)), .val (.ref s_PHONE_NUMBER), .val (.int (1 : Int32))] [(.ref s_PHONE_NUMBER)])) rfl (by rw [hml]; rfl) (Steps.refl _) (argsL := []) (rest := []) (lenOf own_pd10 rfl) rfl (by show 2 * 0 + _ ≤ _; exact Nat.le_of_eq rfl) (hb hby at_195) (fun _ _ => ⟨rfl, e132, (by decide : 1 + 0 ≤ _), (by decide : 22 + 0 ≤ _)⟩)
    dsimp only [Pt.U, Pt.locs, Pt.cells, Pt.slots] at X133 l133 y133 z133 st133 hQ133
    subst l133 y133 z133
    obtain ⟨rfl, N133q, e133⟩ := hQ133
    have N133 := Fr.app N74 N133q
    refine Go.st (V' := T133.setTop (mkF m 198 #[.val (.int p0), .val (.ref b7), .val (.int (11 : Int32)), .val (.ref s_PHONE_NUMBER), .val (.int (1 : Int32))] [(.int (1 : Int32))])) (fun t k => st133.trans k) ?_
    refine Go.st (V' := T133.setTop (mkF m 208 #[.val (.int p0), .val (.ref b7), .val (.int (11 : Int32)), .val (.ref s_PHONE_NUMBER), .val (.int (1 : Int32))] [(.int (1 : Int32))])) (fun t k => ?_) ?_
    · refine XS.iload X133.here hx rfl (hb hby at_198) rfl  ?_
      show Steps p.tables e below (T133.setTop (mkF m 200 #[.val (.int p0), .val (.ref b7), .val (.int (11 : Int32)), .val (.ref s_PHONE_NUMBER), .val (.int (1 : Int32))] [(.int (1 : Int32)), (.int (1 : Int32))])) _
      refine XS.icmpNo X133.here hx rfl (hb hby at_200) rfl (teq (by decide : ((1 : Int32) = (1 : Int32)))).2 ?_
      show Steps p.tables e below (T133.setTop (mkF m 203 #[.val (.int p0), .val (.ref b7), .val (.int (11 : Int32)), .val (.ref s_PHONE_NUMBER), .val (.int (1 : Int32))] [])) _
      refine XS.iconst X133.here hx rfl (hb hby at_203) ?_
      show Steps p.tables e below (T133.setTop (mkF m 204 #[.val (.int p0), .val (.ref b7), .val (.int (11 : Int32)), .val (.ref s_PHONE_NUMBER), .val (.int (1 : Int32))] [(.int (1 : Int32))])) _
      refine XS.goto X133.here hx rfl (pc0 := 204) (pc' := 208) rfl (hb hby at_204) (by decide) (by decide) ?_
      show Steps p.tables e below (T133.setTop (mkF m 208 #[.val (.int p0), .val (.ref b7), .val (.int (11 : Int32)), .val (.ref s_PHONE_NUMBER), .val (.int (1 : Int32))] [(.int (1 : Int32))])) _
      exact k
    obtain ⟨fs, hr, hrun, hended, hW, hsame⟩ := X133.leave (v := some (.int (1 : Int32))) (fun h => by rw [Bd.returns] at h; cases h)
    refine Go.mk' ⟨_, _, retN X133 hx (t := .boolean) Bd.returns (by simp) (hb hby at_208) hr, hrun, hended, _, _, rfl, ?_, ⟨_, rfl⟩, hW, hsame.mono (by decide) (by decide)⟩
    show Q0 Z p0 h0 n0 _ T133.heap _
    rw [e133]
    exact ⟨rfl, N133⟩
  · show Go p e below _ (T73.setTop (mkF m 162 #[.val (.int p0), .val (.ref b7), .val (.int (12 : Int32)), .unset, .unset] []))
    refine Go.st (V' := T73.setTop (mkF m 164 #[.val (.int p0), .val (.ref b7), .val (.int (12 : Int32)), .unset, .unset] [(.int (12 : Int32)), (.ref b7)])) (fun t k => ?_) ?_
    · refine XS.aloadN X74.here hx rfl (hb hby at_162) rfl rfl ?_
      show Steps p.tables e below (T73.setTop (mkF m 163 #[.val (.int p0), .val (.ref b7), .val (.int (12 : Int32)), .unset, .unset] [(.ref b7)])) _
      refine XS.iloadN X74.here hx rfl (hb hby at_163) rfl  ?_
      show Steps p.tables e below (T73.setTop (mkF m 164 #[.val (.int p0), .val (.ref b7), .val (.int (12 : Int32)), .unset, .unset] [(.int (12 : Int32)), (.ref b7)])) _
      exact k
    obtain ⟨cl134, Ar134, q134, Sz134, Nn134, Ha134, Ga134⟩ := id (V73)
    have hin134 : ¬ ((12 : Int32) < 0 ∨ cl134.slots.size ≤ ((12 : Int32)).toNatClampNeg) := inb_of Sz134 ⟨by decide, by decide⟩
    refine Go.st (V' := T73.setTop (mkF m 167 #[.val (.int p0), .val (.ref b7), .val (.int (12 : Int32)), .val (.ref s_EMAIL), .unset] [(.ref s_EMAIL)])) (fun t k => ?_) ?_
    · show Steps p.tables e below (T73.setTop (mkF m 164 #[.val (.int p0), .val (.ref b7), .val (.int (12 : Int32)), .unset, .unset] [(.int (12 : Int32)), (.ref b7)])) _
      refine X74.aaload hx (j := (12 : Int32)) (v := (.ref s_EMAIL)) (own_eT e73 Ar134) (State.isArrayOf_alike hZ.alike Ar134.2.1) rfl Ar134.2.2 hin134 (Ha134.at hin134 rfl) (g := (mkF m 164 #[.val (.int p0), .val (.ref b7), .val (.int (12 : Int32)), .unset, .unset] [(.int (12 : Int32)), (.ref b7)])) rfl rfl (hb hby at_164) _ ?_
      show Steps p.tables e below (T73.setTop (mkF m 165 #[.val (.int p0), .val (.ref b7), .val (.int (12 : Int32)), .unset, .unset] [(.ref s_EMAIL)])) _
      refine XS.astoreN X74.here hx rfl (hb hby at_165) rfl rfl (l' := #[.val (.int p0), .val (.ref b7), .val (.int (12 : Int32)), .val (.ref s_EMAIL), .unset]) rfl ?_
      show Steps p.tables e below (T73.setTop (mkF m 166 #[.val (.int p0), .val (.ref b7), .val (.int (12 : Int32)), .val (.ref s_EMAIL), .unset] [])) _
      refine XS.aloadN X74.here hx rfl (hb hby at_166) rfl rfl ?_
      show Steps p.tables e below (T73.setTop (mkF m 167 #[.val (.int p0), .val (.ref b7), .val (.int (12 : Int32)), .val (.ref s_EMAIL), .unset] [(.ref s_EMAIL)])) _
      exact k
    obtain ⟨T135, X135, e135, st135⟩ := getS2 X74 hx hZ hown (host := "") (Or.inl (hw _ (List.mem_of_getElem? (i := 16) rfl))) Via.refl e73 (S_TEXT.ext O73.2) (g := (mkF m 167 #[.val (.int p0), .val (.ref b7), .val (.int (12 : Int32)), .val (.ref s_EMAIL), .unset] [(.ref s_EMAIL)])) rfl (hb hby at_167)
    refine Go.st (V' := T135.setTop (mkF m 170 #[.val (.int p0), .val (.ref b7), .val (.int (12 : Int32)), .val (.ref s_EMAIL), .unset] [(.ref s_TEXT), (.ref s_EMAIL)])) (fun t k => st135 t k) ?_
    refine Go.st (V' := T135.setTop (mkF m 174 #[.val (.int p0), .val (.ref b7), .val (.int (12 : Int32)), .val (.ref s_EMAIL), .unset] [(.ref s_EMAIL)])) (fun t k => ?_) ?_
    · refine Jvm.RoadKit.acmp (g := (mkF m 170 #[.val (.int p0), .val (.ref b7), .val (.int (12 : Int32)), .val (.ref s_EMAIL), .unset] [(.ref s_TEXT), (.ref s_EMAIL)])) X135 hx rfl rfl rfl (pc0 := 170) (pc' := 173) (same := false) rfl (hb hby at_170) rfl (decide_eq_false fun q => (Fld.ne (F_EMAIL_ordinal.ext O73.2) (F_TEXT_ordinal.ext O73.2) (by decide)) (Value.ref.inj q)) (by decide) (by decide) ?_
      show Steps p.tables e below (T135.setTop (mkF m 173 #[.val (.int p0), .val (.ref b7), .val (.int (12 : Int32)), .val (.ref s_EMAIL), .unset] [])) _
      refine XS.aloadN X135.here hx rfl (hb hby at_173) rfl rfl ?_
      show Steps p.tables e below (T135.setTop (mkF m 174 #[.val (.int p0), .val (.ref b7), .val (.int (12 : Int32)), .val (.ref s_EMAIL), .unset] [(.ref s_EMAIL)])) _
      exact k
    obtain ⟨T136, X136, e136, st136⟩ := getS2 X135 hx hZ hown (host := "") (Or.inl (hw _ (List.mem_of_getElem? (i := 18) rfl))) Via.refl e135 (S_BLOB.ext O73.2) (g := (mkF m 174 #[.val (.int p0), .val (.ref b7), .val (.int (12 : Int32)), .val (.ref s_EMAIL), .unset] [(.ref s_EMAIL)])) rfl (hb hby at_174)
    refine Go.st (V' := T136.setTop (mkF m 177 #[.val (.int p0), .val (.ref b7), .val (.int (12 : Int32)), .val (.ref s_EMAIL), .unset] [(.ref s_BLOB), (.ref s_EMAIL)])) (fun t k => st136 t k) ?_
    refine Go.st (V' := T136.setTop (mkF m 181 #[.val (.int p0), .val (.ref b7), .val (.int (12 : Int32)), .val (.ref s_EMAIL), .unset] [(.ref s_EMAIL)])) (fun t k => ?_) ?_
    · refine Jvm.RoadKit.acmp (g := (mkF m 177 #[.val (.int p0), .val (.ref b7), .val (.int (12 : Int32)), .val (.ref s_EMAIL), .unset] [(.ref s_BLOB), (.ref s_EMAIL)])) X136 hx rfl rfl rfl (pc0 := 177) (pc' := 180) (same := false) rfl (hb hby at_177) rfl (decide_eq_false fun q => (Fld.ne (F_EMAIL_ordinal.ext O73.2) (F_BLOB_ordinal.ext O73.2) (by decide)) (Value.ref.inj q)) (by decide) (by decide) ?_
      show Steps p.tables e below (T136.setTop (mkF m 180 #[.val (.int p0), .val (.ref b7), .val (.int (12 : Int32)), .val (.ref s_EMAIL), .unset] [])) _
      refine XS.aloadN X136.here hx rfl (hb hby at_180) rfl rfl ?_
      show Steps p.tables e below (T136.setTop (mkF m 181 #[.val (.int p0), .val (.ref b7), .val (.int (12 : Int32)), .val (.ref s_EMAIL), .unset] [(.ref s_EMAIL)])) _
      exact k
    obtain ⟨T137, X137, e137, st137⟩ := getS2 X136 hx hZ hown (host := "") (Or.inl (hw _ (List.mem_of_getElem? (i := 44) rfl))) Via.refl e136 (S_EMBEDDED_ENTITY.ext O73.2) (g := (mkF m 181 #[.val (.int p0), .val (.ref b7), .val (.int (12 : Int32)), .val (.ref s_EMAIL), .unset] [(.ref s_EMAIL)])) rfl (hb hby at_181)
    refine Go.st (V' := T137.setTop (mkF m 184 #[.val (.int p0), .val (.ref b7), .val (.int (12 : Int32)), .val (.ref s_EMAIL), .unset] [(.ref s_EMBEDDED_ENTITY), (.ref s_EMAIL)])) (fun t k => st137 t k) ?_
    refine Go.st (V' := T137.setTop (mkF m 195 #[.val (.int p0), .val (.ref b7), .val (.int (12 : Int32)), .val (.ref s_EMAIL), .val (.int (1 : Int32))] [(.ref s_EMAIL)])) (fun t k => ?_) ?_
    · refine Jvm.RoadKit.acmp (g := (mkF m 184 #[.val (.int p0), .val (.ref b7), .val (.int (12 : Int32)), .val (.ref s_EMAIL), .unset] [(.ref s_EMBEDDED_ENTITY), (.ref s_EMAIL)])) X137 hx rfl rfl rfl (pc0 := 184) (pc' := 187) (same := false) rfl (hb hby at_184) rfl (decide_eq_false fun q => (Fld.ne (F_EMAIL_ordinal.ext O73.2) (F_EMBEDDED_ENTITY_ordinal.ext O73.2) (by decide)) (Value.ref.inj q)) (by decide) (by decide) ?_
      show Steps p.tables e below (T137.setTop (mkF m 187 #[.val (.int p0), .val (.ref b7), .val (.int (12 : Int32)), .val (.ref s_EMAIL), .unset] [])) _
      refine XS.iconst X137.here hx rfl (hb hby at_187) ?_
      show Steps p.tables e below (T137.setTop (mkF m 188 #[.val (.int p0), .val (.ref b7), .val (.int (12 : Int32)), .val (.ref s_EMAIL), .unset] [(.int (1 : Int32))])) _
      refine XS.goto X137.here hx rfl (pc0 := 188) (pc' := 192) rfl (hb hby at_188) (by decide) (by decide) ?_
      show Steps p.tables e below (T137.setTop (mkF m 192 #[.val (.int p0), .val (.ref b7), .val (.int (12 : Int32)), .val (.ref s_EMAIL), .unset] [(.int (1 : Int32))])) _
      refine XS.istore X137.here hx rfl (hb hby at_192) rfl (l' := #[.val (.int p0), .val (.ref b7), .val (.int (12 : Int32)), .val (.ref s_EMAIL), .val (.int (1 : Int32))]) rfl ?_
      show Steps p.tables e below (T137.setTop (mkF m 194 #[.val (.int p0), .val (.ref b7), .val (.int (12 : Int32)), .val (.ref s_EMAIL), .val (.int (1 : Int32))] [])) _
      refine XS.aloadN X137.here hx rfl (hb hby at_194) rfl rfl ?_
      show Steps p.tables e below (T137.setTop (mkF m 195 #[.val (.int p0), .val (.ref b7), .val (.int (12 : Int32)), .val (.ref s_EMAIL), .val (.int (1 : Int32))] [(.ref s_EMAIL)])) _
      exact k
    obtain ⟨cq138, kq138, q138a, q138b, q138c⟩ := isOf hZ e137 (E_EMAIL.ext O73.2)
    obtain ⟨_, _, ⟨T138, L138, k138, n138⟩, -, X138, ⟨Lc138, hQ138, l138, y138, z138⟩, st138⟩ := X137.virtualBack hx (y := (⟨"com/example/rooted_kinds/rootedkinds/model/ValueType", "isIndexed", "()Z"⟩ : MethodName)) (z := (⟨"com/example/rooted_kinds/rootedkinds/model/ValueType", "isIndexed", "()Z"⟩ : MethodName)) hown (mvT hZ (hw _ (List.mem_of_getElem? (i := 49) rfl))) (mvT hZ (hw _ (List.mem_of_getElem? (i := 50) rfl))) (notFace_of_selects (args := #[]) (mvT hZ (hw _ (List.mem_of_getElem? (i := 52) rfl)))) (mvT hZ (hw _ (List.mem_of_getElem? (i := 52) rfl))) (mvT hZ (hw _ (List.mem_of_getElem? (i := 51) rfl))) (by decide) (backOf (W := 0) (rm1r l Z a0 hw [] s_NULL s_LONG s_DOUBLE s_BOOLEAN s_STRING s_DATE s_TEXT s_BLOB s_SHORT_BLOB s_GEO_PT s_POSTAL_ADDRESS s_PHONE_NUMBER s_EMAIL s_IM_HANDLE s_LINK s_CATEGORY s_RATING s_USER s_BLOB_KEY s_KEY s_EMBEDDED_ENTITY s_LIST s_Representation_NULL s_Representation_BOOLEAN s_Representation_STRING s_Representation_DOUBLE s_INT64 s_POINT s_REFERENCE s_Representation_USER HW s_EMAIL s_Representation_STRING h73 n0 O73 (F_EMAIL_representation.ext O73.2)) hZ (hw _ (List.mem_of_getElem? (i := 53) rfl)) (hw _ (List.mem_of_getElem? (i := 3) rfl)) (by decide) (by decide)) q138a q138c (g := (mkF m 195 #[.val (.int p0), .val (.ref b7), .val (.int (12 : Int32)), .val (.ref s_EMAIL), .val (.int (1 : Int32))] [(.ref s_EMAIL)])) rfl (by rw [hml]; rfl) (Steps.refl _) (argsL := []) (rest := []) (lenOf own_pd10 rfl) rfl (by show 2 * 0 + _ ≤ _; exact Nat.le_of_eq rfl) (hb hby at_195) (fun _ _ => ⟨rfl, e137, (by decide : 1 + 0 ≤ _), (by decide : 22 + 0 ≤ _)⟩)
    dsimp only [Pt.U, Pt.locs, Pt.cells, Pt.slots] at X138 l138 y138 z138 st138 hQ138
    subst l138 y138 z138
    obtain ⟨rfl, N138q, e138⟩ := hQ138
    have N138 := Fr.app N74 N138q
    refine Go.st (V' := T138.setTop (mkF m 198 #[.val (.int p0), .val (.ref b7), .val (.int (12 : Int32)), .val (.ref s_EMAIL), .val (.int (1 : Int32))] [(.int (1 : Int32))])) (fun t k => st138.trans k) ?_
    refine Go.st (V' := T138.setTop (mkF m 208 #[.val (.int p0), .val (.ref b7), .val (.int (12 : Int32)), .val (.ref s_EMAIL), .val (.int (1 : Int32))] [(.int (1 : Int32))])) (fun t k => ?_) ?_
    · refine XS.iload X138.here hx rfl (hb hby at_198) rfl  ?_
      show Steps p.tables e below (T138.setTop (mkF m 200 #[.val (.int p0), .val (.ref b7), .val (.int (12 : Int32)), .val (.ref s_EMAIL), .val (.int (1 : Int32))] [(.int (1 : Int32)), (.int (1 : Int32))])) _
      refine XS.icmpNo X138.here hx rfl (hb hby at_200) rfl (teq (by decide : ((1 : Int32) = (1 : Int32)))).2 ?_
      show Steps p.tables e below (T138.setTop (mkF m 203 #[.val (.int p0), .val (.ref b7), .val (.int (12 : Int32)), .val (.ref s_EMAIL), .val (.int (1 : Int32))] [])) _
      refine XS.iconst X138.here hx rfl (hb hby at_203) ?_
      show Steps p.tables e below (T138.setTop (mkF m 204 #[.val (.int p0), .val (.ref b7), .val (.int (12 : Int32)), .val (.ref s_EMAIL), .val (.int (1 : Int32))] [(.int (1 : Int32))])) _
      refine XS.goto X138.here hx rfl (pc0 := 204) (pc' := 208) rfl (hb hby at_204) (by decide) (by decide) ?_
      show Steps p.tables e below (T138.setTop (mkF m 208 #[.val (.int p0), .val (.ref b7), .val (.int (12 : Int32)), .val (.ref s_EMAIL), .val (.int (1 : Int32))] [(.int (1 : Int32))])) _
      exact k
    obtain ⟨fs, hr, hrun, hended, hW, hsame⟩ := X138.leave (v := some (.int (1 : Int32))) (fun h => by rw [Bd.returns] at h; cases h)
    refine Go.mk' ⟨_, _, retN X138 hx (t := .boolean) Bd.returns (by simp) (hb hby at_208) hr, hrun, hended, _, _, rfl, ?_, ⟨_, rfl⟩, hW, hsame.mono (by decide) (by decide)⟩
    show Q0 Z p0 h0 n0 _ T138.heap _
    rw [e138]
    exact ⟨rfl, N138⟩
  · show Go p e below _ (T73.setTop (mkF m 162 #[.val (.int p0), .val (.ref b7), .val (.int (13 : Int32)), .unset, .unset] []))
    refine Go.st (V' := T73.setTop (mkF m 164 #[.val (.int p0), .val (.ref b7), .val (.int (13 : Int32)), .unset, .unset] [(.int (13 : Int32)), (.ref b7)])) (fun t k => ?_) ?_
    · refine XS.aloadN X74.here hx rfl (hb hby at_162) rfl rfl ?_
      show Steps p.tables e below (T73.setTop (mkF m 163 #[.val (.int p0), .val (.ref b7), .val (.int (13 : Int32)), .unset, .unset] [(.ref b7)])) _
      refine XS.iloadN X74.here hx rfl (hb hby at_163) rfl  ?_
      show Steps p.tables e below (T73.setTop (mkF m 164 #[.val (.int p0), .val (.ref b7), .val (.int (13 : Int32)), .unset, .unset] [(.int (13 : Int32)), (.ref b7)])) _
      exact k
    obtain ⟨cl139, Ar139, q139, Sz139, Nn139, Ha139, Ga139⟩ := id (V73)
    have hin139 : ¬ ((13 : Int32) < 0 ∨ cl139.slots.size ≤ ((13 : Int32)).toNatClampNeg) := inb_of Sz139 ⟨by decide, by decide⟩
    refine Go.st (V' := T73.setTop (mkF m 167 #[.val (.int p0), .val (.ref b7), .val (.int (13 : Int32)), .val (.ref s_IM_HANDLE), .unset] [(.ref s_IM_HANDLE)])) (fun t k => ?_) ?_
    · show Steps p.tables e below (T73.setTop (mkF m 164 #[.val (.int p0), .val (.ref b7), .val (.int (13 : Int32)), .unset, .unset] [(.int (13 : Int32)), (.ref b7)])) _
      refine X74.aaload hx (j := (13 : Int32)) (v := (.ref s_IM_HANDLE)) (own_eT e73 Ar139) (State.isArrayOf_alike hZ.alike Ar139.2.1) rfl Ar139.2.2 hin139 (Ha139.at hin139 rfl) (g := (mkF m 164 #[.val (.int p0), .val (.ref b7), .val (.int (13 : Int32)), .unset, .unset] [(.int (13 : Int32)), (.ref b7)])) rfl rfl (hb hby at_164) _ ?_
      show Steps p.tables e below (T73.setTop (mkF m 165 #[.val (.int p0), .val (.ref b7), .val (.int (13 : Int32)), .unset, .unset] [(.ref s_IM_HANDLE)])) _
      refine XS.astoreN X74.here hx rfl (hb hby at_165) rfl rfl (l' := #[.val (.int p0), .val (.ref b7), .val (.int (13 : Int32)), .val (.ref s_IM_HANDLE), .unset]) rfl ?_
      show Steps p.tables e below (T73.setTop (mkF m 166 #[.val (.int p0), .val (.ref b7), .val (.int (13 : Int32)), .val (.ref s_IM_HANDLE), .unset] [])) _
      refine XS.aloadN X74.here hx rfl (hb hby at_166) rfl rfl ?_
      show Steps p.tables e below (T73.setTop (mkF m 167 #[.val (.int p0), .val (.ref b7), .val (.int (13 : Int32)), .val (.ref s_IM_HANDLE), .unset] [(.ref s_IM_HANDLE)])) _
      exact k
    obtain ⟨T140, X140, e140, st140⟩ := getS2 X74 hx hZ hown (host := "") (Or.inl (hw _ (List.mem_of_getElem? (i := 16) rfl))) Via.refl e73 (S_TEXT.ext O73.2) (g := (mkF m 167 #[.val (.int p0), .val (.ref b7), .val (.int (13 : Int32)), .val (.ref s_IM_HANDLE), .unset] [(.ref s_IM_HANDLE)])) rfl (hb hby at_167)
    refine Go.st (V' := T140.setTop (mkF m 170 #[.val (.int p0), .val (.ref b7), .val (.int (13 : Int32)), .val (.ref s_IM_HANDLE), .unset] [(.ref s_TEXT), (.ref s_IM_HANDLE)])) (fun t k => st140 t k) ?_
    refine Go.st (V' := T140.setTop (mkF m 174 #[.val (.int p0), .val (.ref b7), .val (.int (13 : Int32)), .val (.ref s_IM_HANDLE), .unset] [(.ref s_IM_HANDLE)])) (fun t k => ?_) ?_
    · refine Jvm.RoadKit.acmp (g := (mkF m 170 #[.val (.int p0), .val (.ref b7), .val (.int (13 : Int32)), .val (.ref s_IM_HANDLE), .unset] [(.ref s_TEXT), (.ref s_IM_HANDLE)])) X140 hx rfl rfl rfl (pc0 := 170) (pc' := 173) (same := false) rfl (hb hby at_170) rfl (decide_eq_false fun q => (Fld.ne (F_IM_HANDLE_ordinal.ext O73.2) (F_TEXT_ordinal.ext O73.2) (by decide)) (Value.ref.inj q)) (by decide) (by decide) ?_
      show Steps p.tables e below (T140.setTop (mkF m 173 #[.val (.int p0), .val (.ref b7), .val (.int (13 : Int32)), .val (.ref s_IM_HANDLE), .unset] [])) _
      refine XS.aloadN X140.here hx rfl (hb hby at_173) rfl rfl ?_
      show Steps p.tables e below (T140.setTop (mkF m 174 #[.val (.int p0), .val (.ref b7), .val (.int (13 : Int32)), .val (.ref s_IM_HANDLE), .unset] [(.ref s_IM_HANDLE)])) _
      exact k
    obtain ⟨T141, X141, e141, st141⟩ := getS2 X140 hx hZ hown (host := "") (Or.inl (hw _ (List.mem_of_getElem? (i := 18) rfl))) Via.refl e140 (S_BLOB.ext O73.2) (g := (mkF m 174 #[.val (.int p0), .val (.ref b7), .val (.int (13 : Int32)), .val (.ref s_IM_HANDLE), .unset] [(.ref s_IM_HANDLE)])) rfl (hb hby at_174)
    refine Go.st (V' := T141.setTop (mkF m 177 #[.val (.int p0), .val (.ref b7), .val (.int (13 : Int32)), .val (.ref s_IM_HANDLE), .unset] [(.ref s_BLOB), (.ref s_IM_HANDLE)])) (fun t k => st141 t k) ?_
    refine Go.st (V' := T141.setTop (mkF m 181 #[.val (.int p0), .val (.ref b7), .val (.int (13 : Int32)), .val (.ref s_IM_HANDLE), .unset] [(.ref s_IM_HANDLE)])) (fun t k => ?_) ?_
    · refine Jvm.RoadKit.acmp (g := (mkF m 177 #[.val (.int p0), .val (.ref b7), .val (.int (13 : Int32)), .val (.ref s_IM_HANDLE), .unset] [(.ref s_BLOB), (.ref s_IM_HANDLE)])) X141 hx rfl rfl rfl (pc0 := 177) (pc' := 180) (same := false) rfl (hb hby at_177) rfl (decide_eq_false fun q => (Fld.ne (F_IM_HANDLE_ordinal.ext O73.2) (F_BLOB_ordinal.ext O73.2) (by decide)) (Value.ref.inj q)) (by decide) (by decide) ?_
      show Steps p.tables e below (T141.setTop (mkF m 180 #[.val (.int p0), .val (.ref b7), .val (.int (13 : Int32)), .val (.ref s_IM_HANDLE), .unset] [])) _
      refine XS.aloadN X141.here hx rfl (hb hby at_180) rfl rfl ?_
      show Steps p.tables e below (T141.setTop (mkF m 181 #[.val (.int p0), .val (.ref b7), .val (.int (13 : Int32)), .val (.ref s_IM_HANDLE), .unset] [(.ref s_IM_HANDLE)])) _
      exact k
    obtain ⟨T142, X142, e142, st142⟩ := getS2 X141 hx hZ hown (host := "") (Or.inl (hw _ (List.mem_of_getElem? (i := 44) rfl))) Via.refl e141 (S_EMBEDDED_ENTITY.ext O73.2) (g := (mkF m 181 #[.val (.int p0), .val (.ref b7), .val (.int (13 : Int32)), .val (.ref s_IM_HANDLE), .unset] [(.ref s_IM_HANDLE)])) rfl (hb hby at_181)
    refine Go.st (V' := T142.setTop (mkF m 184 #[.val (.int p0), .val (.ref b7), .val (.int (13 : Int32)), .val (.ref s_IM_HANDLE), .unset] [(.ref s_EMBEDDED_ENTITY), (.ref s_IM_HANDLE)])) (fun t k => st142 t k) ?_
    refine Go.st (V' := T142.setTop (mkF m 195 #[.val (.int p0), .val (.ref b7), .val (.int (13 : Int32)), .val (.ref s_IM_HANDLE), .val (.int (1 : Int32))] [(.ref s_IM_HANDLE)])) (fun t k => ?_) ?_
    · refine Jvm.RoadKit.acmp (g := (mkF m 184 #[.val (.int p0), .val (.ref b7), .val (.int (13 : Int32)), .val (.ref s_IM_HANDLE), .unset] [(.ref s_EMBEDDED_ENTITY), (.ref s_IM_HANDLE)])) X142 hx rfl rfl rfl (pc0 := 184) (pc' := 187) (same := false) rfl (hb hby at_184) rfl (decide_eq_false fun q => (Fld.ne (F_IM_HANDLE_ordinal.ext O73.2) (F_EMBEDDED_ENTITY_ordinal.ext O73.2) (by decide)) (Value.ref.inj q)) (by decide) (by decide) ?_
      show Steps p.tables e below (T142.setTop (mkF m 187 #[.val (.int p0), .val (.ref b7), .val (.int (13 : Int32)), .val (.ref s_IM_HANDLE), .unset] [])) _
      refine XS.iconst X142.here hx rfl (hb hby at_187) ?_
      show Steps p.tables e below (T142.setTop (mkF m 188 #[.val (.int p0), .val (.ref b7), .val (.int (13 : Int32)), .val (.ref s_IM_HANDLE), .unset] [(.int (1 : Int32))])) _
      refine XS.goto X142.here hx rfl (pc0 := 188) (pc' := 192) rfl (hb hby at_188) (by decide) (by decide) ?_
      show Steps p.tables e below (T142.setTop (mkF m 192 #[.val (.int p0), .val (.ref b7), .val (.int (13 : Int32)), .val (.ref s_IM_HANDLE), .unset] [(.int (1 : Int32))])) _
      refine XS.istore X142.here hx rfl (hb hby at_192) rfl (l' := #[.val (.int p0), .val (.ref b7), .val (.int (13 : Int32)), .val (.ref s_IM_HANDLE), .val (.int (1 : Int32))]) rfl ?_
      show Steps p.tables e below (T142.setTop (mkF m 194 #[.val (.int p0), .val (.ref b7), .val (.int (13 : Int32)), .val (.ref s_IM_HANDLE), .val (.int (1 : Int32))] [])) _
      refine XS.aloadN X142.here hx rfl (hb hby at_194) rfl rfl ?_
      show Steps p.tables e below (T142.setTop (mkF m 195 #[.val (.int p0), .val (.ref b7), .val (.int (13 : Int32)), .val (.ref s_IM_HANDLE), .val (.int (1 : Int32))] [(.ref s_IM_HANDLE)])) _
      exact k
    obtain ⟨cq143, kq143, q143a, q143b, q143c⟩ := isOf hZ e142 (E_IM_HANDLE.ext O73.2)
    obtain ⟨_, _, ⟨T143, L143, k143, n143⟩, -, X143, ⟨Lc143, hQ143, l143, y143, z143⟩, st143⟩ := X142.virtualBack hx (y := (⟨"com/example/rooted_kinds/rootedkinds/model/ValueType", "isIndexed", "()Z"⟩ : MethodName)) (z := (⟨"com/example/rooted_kinds/rootedkinds/model/ValueType", "isIndexed", "()Z"⟩ : MethodName)) hown (mvT hZ (hw _ (List.mem_of_getElem? (i := 49) rfl))) (mvT hZ (hw _ (List.mem_of_getElem? (i := 50) rfl))) (notFace_of_selects (args := #[]) (mvT hZ (hw _ (List.mem_of_getElem? (i := 52) rfl)))) (mvT hZ (hw _ (List.mem_of_getElem? (i := 52) rfl))) (mvT hZ (hw _ (List.mem_of_getElem? (i := 51) rfl))) (by decide) (backOf (W := 0) (rm1r l Z a0 hw [] s_NULL s_LONG s_DOUBLE s_BOOLEAN s_STRING s_DATE s_TEXT s_BLOB s_SHORT_BLOB s_GEO_PT s_POSTAL_ADDRESS s_PHONE_NUMBER s_EMAIL s_IM_HANDLE s_LINK s_CATEGORY s_RATING s_USER s_BLOB_KEY s_KEY s_EMBEDDED_ENTITY s_LIST s_Representation_NULL s_Representation_BOOLEAN s_Representation_STRING s_Representation_DOUBLE s_INT64 s_POINT s_REFERENCE s_Representation_USER HW s_IM_HANDLE s_Representation_STRING h73 n0 O73 (F_IM_HANDLE_representation.ext O73.2)) hZ (hw _ (List.mem_of_getElem? (i := 53) rfl)) (hw _ (List.mem_of_getElem? (i := 3) rfl)) (by decide) (by decide)) q143a q143c (g := (mkF m 195 #[.val (.int p0), .val (.ref b7), .val (.int (13 : Int32)), .val (.ref s_IM_HANDLE), .val (.int (1 : Int32))] [(.ref s_IM_HANDLE)])) rfl (by rw [hml]; rfl) (Steps.refl _) (argsL := []) (rest := []) (lenOf own_pd10 rfl) rfl (by show 2 * 0 + _ ≤ _; exact Nat.le_of_eq rfl) (hb hby at_195) (fun _ _ => ⟨rfl, e142, (by decide : 1 + 0 ≤ _), (by decide : 22 + 0 ≤ _)⟩)
    dsimp only [Pt.U, Pt.locs, Pt.cells, Pt.slots] at X143 l143 y143 z143 st143 hQ143
    subst l143 y143 z143
    obtain ⟨rfl, N143q, e143⟩ := hQ143
    have N143 := Fr.app N74 N143q
    refine Go.st (V' := T143.setTop (mkF m 198 #[.val (.int p0), .val (.ref b7), .val (.int (13 : Int32)), .val (.ref s_IM_HANDLE), .val (.int (1 : Int32))] [(.int (1 : Int32))])) (fun t k => st143.trans k) ?_
    refine Go.st (V' := T143.setTop (mkF m 208 #[.val (.int p0), .val (.ref b7), .val (.int (13 : Int32)), .val (.ref s_IM_HANDLE), .val (.int (1 : Int32))] [(.int (1 : Int32))])) (fun t k => ?_) ?_
    · refine XS.iload X143.here hx rfl (hb hby at_198) rfl  ?_
      show Steps p.tables e below (T143.setTop (mkF m 200 #[.val (.int p0), .val (.ref b7), .val (.int (13 : Int32)), .val (.ref s_IM_HANDLE), .val (.int (1 : Int32))] [(.int (1 : Int32)), (.int (1 : Int32))])) _
      refine XS.icmpNo X143.here hx rfl (hb hby at_200) rfl (teq (by decide : ((1 : Int32) = (1 : Int32)))).2 ?_
      show Steps p.tables e below (T143.setTop (mkF m 203 #[.val (.int p0), .val (.ref b7), .val (.int (13 : Int32)), .val (.ref s_IM_HANDLE), .val (.int (1 : Int32))] [])) _
      refine XS.iconst X143.here hx rfl (hb hby at_203) ?_
      show Steps p.tables e below (T143.setTop (mkF m 204 #[.val (.int p0), .val (.ref b7), .val (.int (13 : Int32)), .val (.ref s_IM_HANDLE), .val (.int (1 : Int32))] [(.int (1 : Int32))])) _
      refine XS.goto X143.here hx rfl (pc0 := 204) (pc' := 208) rfl (hb hby at_204) (by decide) (by decide) ?_
      show Steps p.tables e below (T143.setTop (mkF m 208 #[.val (.int p0), .val (.ref b7), .val (.int (13 : Int32)), .val (.ref s_IM_HANDLE), .val (.int (1 : Int32))] [(.int (1 : Int32))])) _
      exact k
    obtain ⟨fs, hr, hrun, hended, hW, hsame⟩ := X143.leave (v := some (.int (1 : Int32))) (fun h => by rw [Bd.returns] at h; cases h)
    refine Go.mk' ⟨_, _, retN X143 hx (t := .boolean) Bd.returns (by simp) (hb hby at_208) hr, hrun, hended, _, _, rfl, ?_, ⟨_, rfl⟩, hW, hsame.mono (by decide) (by decide)⟩
    show Q0 Z p0 h0 n0 _ T143.heap _
    rw [e143]
    exact ⟨rfl, N143⟩
  · show Go p e below _ (T73.setTop (mkF m 162 #[.val (.int p0), .val (.ref b7), .val (.int (14 : Int32)), .unset, .unset] []))
    refine Go.st (V' := T73.setTop (mkF m 164 #[.val (.int p0), .val (.ref b7), .val (.int (14 : Int32)), .unset, .unset] [(.int (14 : Int32)), (.ref b7)])) (fun t k => ?_) ?_
    · refine XS.aloadN X74.here hx rfl (hb hby at_162) rfl rfl ?_
      show Steps p.tables e below (T73.setTop (mkF m 163 #[.val (.int p0), .val (.ref b7), .val (.int (14 : Int32)), .unset, .unset] [(.ref b7)])) _
      refine XS.iloadN X74.here hx rfl (hb hby at_163) rfl  ?_
      show Steps p.tables e below (T73.setTop (mkF m 164 #[.val (.int p0), .val (.ref b7), .val (.int (14 : Int32)), .unset, .unset] [(.int (14 : Int32)), (.ref b7)])) _
      exact k
    obtain ⟨cl144, Ar144, q144, Sz144, Nn144, Ha144, Ga144⟩ := id (V73)
    have hin144 : ¬ ((14 : Int32) < 0 ∨ cl144.slots.size ≤ ((14 : Int32)).toNatClampNeg) := inb_of Sz144 ⟨by decide, by decide⟩
    refine Go.st (V' := T73.setTop (mkF m 167 #[.val (.int p0), .val (.ref b7), .val (.int (14 : Int32)), .val (.ref s_LINK), .unset] [(.ref s_LINK)])) (fun t k => ?_) ?_
    · show Steps p.tables e below (T73.setTop (mkF m 164 #[.val (.int p0), .val (.ref b7), .val (.int (14 : Int32)), .unset, .unset] [(.int (14 : Int32)), (.ref b7)])) _
      refine X74.aaload hx (j := (14 : Int32)) (v := (.ref s_LINK)) (own_eT e73 Ar144) (State.isArrayOf_alike hZ.alike Ar144.2.1) rfl Ar144.2.2 hin144 (Ha144.at hin144 rfl) (g := (mkF m 164 #[.val (.int p0), .val (.ref b7), .val (.int (14 : Int32)), .unset, .unset] [(.int (14 : Int32)), (.ref b7)])) rfl rfl (hb hby at_164) _ ?_
      show Steps p.tables e below (T73.setTop (mkF m 165 #[.val (.int p0), .val (.ref b7), .val (.int (14 : Int32)), .unset, .unset] [(.ref s_LINK)])) _
      refine XS.astoreN X74.here hx rfl (hb hby at_165) rfl rfl (l' := #[.val (.int p0), .val (.ref b7), .val (.int (14 : Int32)), .val (.ref s_LINK), .unset]) rfl ?_
      show Steps p.tables e below (T73.setTop (mkF m 166 #[.val (.int p0), .val (.ref b7), .val (.int (14 : Int32)), .val (.ref s_LINK), .unset] [])) _
      refine XS.aloadN X74.here hx rfl (hb hby at_166) rfl rfl ?_
      show Steps p.tables e below (T73.setTop (mkF m 167 #[.val (.int p0), .val (.ref b7), .val (.int (14 : Int32)), .val (.ref s_LINK), .unset] [(.ref s_LINK)])) _
      exact k
    obtain ⟨T145, X145, e145, st145⟩ := getS2 X74 hx hZ hown (host := "") (Or.inl (hw _ (List.mem_of_getElem? (i := 16) rfl))) Via.refl e73 (S_TEXT.ext O73.2) (g := (mkF m 167 #[.val (.int p0), .val (.ref b7), .val (.int (14 : Int32)), .val (.ref s_LINK), .unset] [(.ref s_LINK)])) rfl (hb hby at_167)
    refine Go.st (V' := T145.setTop (mkF m 170 #[.val (.int p0), .val (.ref b7), .val (.int (14 : Int32)), .val (.ref s_LINK), .unset] [(.ref s_TEXT), (.ref s_LINK)])) (fun t k => st145 t k) ?_
    refine Go.st (V' := T145.setTop (mkF m 174 #[.val (.int p0), .val (.ref b7), .val (.int (14 : Int32)), .val (.ref s_LINK), .unset] [(.ref s_LINK)])) (fun t k => ?_) ?_
    · refine Jvm.RoadKit.acmp (g := (mkF m 170 #[.val (.int p0), .val (.ref b7), .val (.int (14 : Int32)), .val (.ref s_LINK), .unset] [(.ref s_TEXT), (.ref s_LINK)])) X145 hx rfl rfl rfl (pc0 := 170) (pc' := 173) (same := false) rfl (hb hby at_170) rfl (decide_eq_false fun q => (Fld.ne (F_LINK_ordinal.ext O73.2) (F_TEXT_ordinal.ext O73.2) (by decide)) (Value.ref.inj q)) (by decide) (by decide) ?_
      show Steps p.tables e below (T145.setTop (mkF m 173 #[.val (.int p0), .val (.ref b7), .val (.int (14 : Int32)), .val (.ref s_LINK), .unset] [])) _
      refine XS.aloadN X145.here hx rfl (hb hby at_173) rfl rfl ?_
      show Steps p.tables e below (T145.setTop (mkF m 174 #[.val (.int p0), .val (.ref b7), .val (.int (14 : Int32)), .val (.ref s_LINK), .unset] [(.ref s_LINK)])) _
      exact k
    obtain ⟨T146, X146, e146, st146⟩ := getS2 X145 hx hZ hown (host := "") (Or.inl (hw _ (List.mem_of_getElem? (i := 18) rfl))) Via.refl e145 (S_BLOB.ext O73.2) (g := (mkF m 174 #[.val (.int p0), .val (.ref b7), .val (.int (14 : Int32)), .val (.ref s_LINK), .unset] [(.ref s_LINK)])) rfl (hb hby at_174)
    refine Go.st (V' := T146.setTop (mkF m 177 #[.val (.int p0), .val (.ref b7), .val (.int (14 : Int32)), .val (.ref s_LINK), .unset] [(.ref s_BLOB), (.ref s_LINK)])) (fun t k => st146 t k) ?_
    refine Go.st (V' := T146.setTop (mkF m 181 #[.val (.int p0), .val (.ref b7), .val (.int (14 : Int32)), .val (.ref s_LINK), .unset] [(.ref s_LINK)])) (fun t k => ?_) ?_
    · refine Jvm.RoadKit.acmp (g := (mkF m 177 #[.val (.int p0), .val (.ref b7), .val (.int (14 : Int32)), .val (.ref s_LINK), .unset] [(.ref s_BLOB), (.ref s_LINK)])) X146 hx rfl rfl rfl (pc0 := 177) (pc' := 180) (same := false) rfl (hb hby at_177) rfl (decide_eq_false fun q => (Fld.ne (F_LINK_ordinal.ext O73.2) (F_BLOB_ordinal.ext O73.2) (by decide)) (Value.ref.inj q)) (by decide) (by decide) ?_
      show Steps p.tables e below (T146.setTop (mkF m 180 #[.val (.int p0), .val (.ref b7), .val (.int (14 : Int32)), .val (.ref s_LINK), .unset] [])) _
      refine XS.aloadN X146.here hx rfl (hb hby at_180) rfl rfl ?_
      show Steps p.tables e below (T146.setTop (mkF m 181 #[.val (.int p0), .val (.ref b7), .val (.int (14 : Int32)), .val (.ref s_LINK), .unset] [(.ref s_LINK)])) _
      exact k
    obtain ⟨T147, X147, e147, st147⟩ := getS2 X146 hx hZ hown (host := "") (Or.inl (hw _ (List.mem_of_getElem? (i := 44) rfl))) Via.refl e146 (S_EMBEDDED_ENTITY.ext O73.2) (g := (mkF m 181 #[.val (.int p0), .val (.ref b7), .val (.int (14 : Int32)), .val (.ref s_LINK), .unset] [(.ref s_LINK)])) rfl (hb hby at_181)
    refine Go.st (V' := T147.setTop (mkF m 184 #[.val (.int p0), .val (.ref b7), .val (.int (14 : Int32)), .val (.ref s_LINK), .unset] [(.ref s_EMBEDDED_ENTITY), (.ref s_LINK)])) (fun t k => st147 t k) ?_
    refine Go.st (V' := T147.setTop (mkF m 195 #[.val (.int p0), .val (.ref b7), .val (.int (14 : Int32)), .val (.ref s_LINK), .val (.int (1 : Int32))] [(.ref s_LINK)])) (fun t k => ?_) ?_
    · refine Jvm.RoadKit.acmp (g := (mkF m 184 #[.val (.int p0), .val (.ref b7), .val (.int (14 : Int32)), .val (.ref s_LINK), .unset] [(.ref s_EMBEDDED_ENTITY), (.ref s_LINK)])) X147 hx rfl rfl rfl (pc0 := 184) (pc' := 187) (same := false) rfl (hb hby at_184) rfl (decide_eq_false fun q => (Fld.ne (F_LINK_ordinal.ext O73.2) (F_EMBEDDED_ENTITY_ordinal.ext O73.2) (by decide)) (Value.ref.inj q)) (by decide) (by decide) ?_
      show Steps p.tables e below (T147.setTop (mkF m 187 #[.val (.int p0), .val (.ref b7), .val (.int (14 : Int32)), .val (.ref s_LINK), .unset] [])) _
      refine XS.iconst X147.here hx rfl (hb hby at_187) ?_
      show Steps p.tables e below (T147.setTop (mkF m 188 #[.val (.int p0), .val (.ref b7), .val (.int (14 : Int32)), .val (.ref s_LINK), .unset] [(.int (1 : Int32))])) _
      refine XS.goto X147.here hx rfl (pc0 := 188) (pc' := 192) rfl (hb hby at_188) (by decide) (by decide) ?_
      show Steps p.tables e below (T147.setTop (mkF m 192 #[.val (.int p0), .val (.ref b7), .val (.int (14 : Int32)), .val (.ref s_LINK), .unset] [(.int (1 : Int32))])) _
      refine XS.istore X147.here hx rfl (hb hby at_192) rfl (l' := #[.val (.int p0), .val (.ref b7), .val (.int (14 : Int32)), .val (.ref s_LINK), .val (.int (1 : Int32))]) rfl ?_
      show Steps p.tables e below (T147.setTop (mkF m 194 #[.val (.int p0), .val (.ref b7), .val (.int (14 : Int32)), .val (.ref s_LINK), .val (.int (1 : Int32))] [])) _
      refine XS.aloadN X147.here hx rfl (hb hby at_194) rfl rfl ?_
      show Steps p.tables e below (T147.setTop (mkF m 195 #[.val (.int p0), .val (.ref b7), .val (.int (14 : Int32)), .val (.ref s_LINK), .val (.int (1 : Int32))] [(.ref s_LINK)])) _
      exact k
    obtain ⟨cq148, kq148, q148a, q148b, q148c⟩ := isOf hZ e147 (E_LINK.ext O73.2)
    obtain ⟨_, _, ⟨T148, L148, k148, n148⟩, -, X148, ⟨Lc148, hQ148, l148, y148, z148⟩, st148⟩ := X147.virtualBack hx (y := (⟨"com/example/rooted_kinds/rootedkinds/model/ValueType", "isIndexed", "()Z"⟩ : MethodName)) (z := (⟨"com/example/rooted_kinds/rootedkinds/model/ValueType", "isIndexed", "()Z"⟩ : MethodName)) hown (mvT hZ (hw _ (List.mem_of_getElem? (i := 49) rfl))) (mvT hZ (hw _ (List.mem_of_getElem? (i := 50) rfl))) (notFace_of_selects (args := #[]) (mvT hZ (hw _ (List.mem_of_getElem? (i := 52) rfl)))) (mvT hZ (hw _ (List.mem_of_getElem? (i := 52) rfl))) (mvT hZ (hw _ (List.mem_of_getElem? (i := 51) rfl))) (by decide) (backOf (W := 0) (rm1r l Z a0 hw [] s_NULL s_LONG s_DOUBLE s_BOOLEAN s_STRING s_DATE s_TEXT s_BLOB s_SHORT_BLOB s_GEO_PT s_POSTAL_ADDRESS s_PHONE_NUMBER s_EMAIL s_IM_HANDLE s_LINK s_CATEGORY s_RATING s_USER s_BLOB_KEY s_KEY s_EMBEDDED_ENTITY s_LIST s_Representation_NULL s_Representation_BOOLEAN s_Representation_STRING s_Representation_DOUBLE s_INT64 s_POINT s_REFERENCE s_Representation_USER HW s_LINK s_Representation_STRING h73 n0 O73 (F_LINK_representation.ext O73.2)) hZ (hw _ (List.mem_of_getElem? (i := 53) rfl)) (hw _ (List.mem_of_getElem? (i := 3) rfl)) (by decide) (by decide)) q148a q148c (g := (mkF m 195 #[.val (.int p0), .val (.ref b7), .val (.int (14 : Int32)), .val (.ref s_LINK), .val (.int (1 : Int32))] [(.ref s_LINK)])) rfl (by rw [hml]; rfl) (Steps.refl _) (argsL := []) (rest := []) (lenOf own_pd10 rfl) rfl (by show 2 * 0 + _ ≤ _; exact Nat.le_of_eq rfl) (hb hby at_195) (fun _ _ => ⟨rfl, e147, (by decide : 1 + 0 ≤ _), (by decide : 22 + 0 ≤ _)⟩)
    dsimp only [Pt.U, Pt.locs, Pt.cells, Pt.slots] at X148 l148 y148 z148 st148 hQ148
    subst l148 y148 z148
    obtain ⟨rfl, N148q, e148⟩ := hQ148
    have N148 := Fr.app N74 N148q
    refine Go.st (V' := T148.setTop (mkF m 198 #[.val (.int p0), .val (.ref b7), .val (.int (14 : Int32)), .val (.ref s_LINK), .val (.int (1 : Int32))] [(.int (1 : Int32))])) (fun t k => st148.trans k) ?_
    refine Go.st (V' := T148.setTop (mkF m 208 #[.val (.int p0), .val (.ref b7), .val (.int (14 : Int32)), .val (.ref s_LINK), .val (.int (1 : Int32))] [(.int (1 : Int32))])) (fun t k => ?_) ?_
    · refine XS.iload X148.here hx rfl (hb hby at_198) rfl  ?_
      show Steps p.tables e below (T148.setTop (mkF m 200 #[.val (.int p0), .val (.ref b7), .val (.int (14 : Int32)), .val (.ref s_LINK), .val (.int (1 : Int32))] [(.int (1 : Int32)), (.int (1 : Int32))])) _
      refine XS.icmpNo X148.here hx rfl (hb hby at_200) rfl (teq (by decide : ((1 : Int32) = (1 : Int32)))).2 ?_
      show Steps p.tables e below (T148.setTop (mkF m 203 #[.val (.int p0), .val (.ref b7), .val (.int (14 : Int32)), .val (.ref s_LINK), .val (.int (1 : Int32))] [])) _
      refine XS.iconst X148.here hx rfl (hb hby at_203) ?_
      show Steps p.tables e below (T148.setTop (mkF m 204 #[.val (.int p0), .val (.ref b7), .val (.int (14 : Int32)), .val (.ref s_LINK), .val (.int (1 : Int32))] [(.int (1 : Int32))])) _
      refine XS.goto X148.here hx rfl (pc0 := 204) (pc' := 208) rfl (hb hby at_204) (by decide) (by decide) ?_
      show Steps p.tables e below (T148.setTop (mkF m 208 #[.val (.int p0), .val (.ref b7), .val (.int (14 : Int32)), .val (.ref s_LINK), .val (.int (1 : Int32))] [(.int (1 : Int32))])) _
      exact k
    obtain ⟨fs, hr, hrun, hended, hW, hsame⟩ := X148.leave (v := some (.int (1 : Int32))) (fun h => by rw [Bd.returns] at h; cases h)
    refine Go.mk' ⟨_, _, retN X148 hx (t := .boolean) Bd.returns (by simp) (hb hby at_208) hr, hrun, hended, _, _, rfl, ?_, ⟨_, rfl⟩, hW, hsame.mono (by decide) (by decide)⟩
    show Q0 Z p0 h0 n0 _ T148.heap _
    rw [e148]
    exact ⟨rfl, N148⟩
  · show Go p e below _ (T73.setTop (mkF m 162 #[.val (.int p0), .val (.ref b7), .val (.int (15 : Int32)), .unset, .unset] []))
    refine Go.st (V' := T73.setTop (mkF m 164 #[.val (.int p0), .val (.ref b7), .val (.int (15 : Int32)), .unset, .unset] [(.int (15 : Int32)), (.ref b7)])) (fun t k => ?_) ?_
    · refine XS.aloadN X74.here hx rfl (hb hby at_162) rfl rfl ?_
      show Steps p.tables e below (T73.setTop (mkF m 163 #[.val (.int p0), .val (.ref b7), .val (.int (15 : Int32)), .unset, .unset] [(.ref b7)])) _
      refine XS.iloadN X74.here hx rfl (hb hby at_163) rfl  ?_
      show Steps p.tables e below (T73.setTop (mkF m 164 #[.val (.int p0), .val (.ref b7), .val (.int (15 : Int32)), .unset, .unset] [(.int (15 : Int32)), (.ref b7)])) _
      exact k
    obtain ⟨cl149, Ar149, q149, Sz149, Nn149, Ha149, Ga149⟩ := id (V73)
    have hin149 : ¬ ((15 : Int32) < 0 ∨ cl149.slots.size ≤ ((15 : Int32)).toNatClampNeg) := inb_of Sz149 ⟨by decide, by decide⟩
    refine Go.st (V' := T73.setTop (mkF m 167 #[.val (.int p0), .val (.ref b7), .val (.int (15 : Int32)), .val (.ref s_CATEGORY), .unset] [(.ref s_CATEGORY)])) (fun t k => ?_) ?_
    · show Steps p.tables e below (T73.setTop (mkF m 164 #[.val (.int p0), .val (.ref b7), .val (.int (15 : Int32)), .unset, .unset] [(.int (15 : Int32)), (.ref b7)])) _
      refine X74.aaload hx (j := (15 : Int32)) (v := (.ref s_CATEGORY)) (own_eT e73 Ar149) (State.isArrayOf_alike hZ.alike Ar149.2.1) rfl Ar149.2.2 hin149 (Ha149.at hin149 rfl) (g := (mkF m 164 #[.val (.int p0), .val (.ref b7), .val (.int (15 : Int32)), .unset, .unset] [(.int (15 : Int32)), (.ref b7)])) rfl rfl (hb hby at_164) _ ?_
      show Steps p.tables e below (T73.setTop (mkF m 165 #[.val (.int p0), .val (.ref b7), .val (.int (15 : Int32)), .unset, .unset] [(.ref s_CATEGORY)])) _
      refine XS.astoreN X74.here hx rfl (hb hby at_165) rfl rfl (l' := #[.val (.int p0), .val (.ref b7), .val (.int (15 : Int32)), .val (.ref s_CATEGORY), .unset]) rfl ?_
      show Steps p.tables e below (T73.setTop (mkF m 166 #[.val (.int p0), .val (.ref b7), .val (.int (15 : Int32)), .val (.ref s_CATEGORY), .unset] [])) _
      refine XS.aloadN X74.here hx rfl (hb hby at_166) rfl rfl ?_
      show Steps p.tables e below (T73.setTop (mkF m 167 #[.val (.int p0), .val (.ref b7), .val (.int (15 : Int32)), .val (.ref s_CATEGORY), .unset] [(.ref s_CATEGORY)])) _
      exact k
    obtain ⟨T150, X150, e150, st150⟩ := getS2 X74 hx hZ hown (host := "") (Or.inl (hw _ (List.mem_of_getElem? (i := 16) rfl))) Via.refl e73 (S_TEXT.ext O73.2) (g := (mkF m 167 #[.val (.int p0), .val (.ref b7), .val (.int (15 : Int32)), .val (.ref s_CATEGORY), .unset] [(.ref s_CATEGORY)])) rfl (hb hby at_167)
    refine Go.st (V' := T150.setTop (mkF m 170 #[.val (.int p0), .val (.ref b7), .val (.int (15 : Int32)), .val (.ref s_CATEGORY), .unset] [(.ref s_TEXT), (.ref s_CATEGORY)])) (fun t k => st150 t k) ?_
    refine Go.st (V' := T150.setTop (mkF m 174 #[.val (.int p0), .val (.ref b7), .val (.int (15 : Int32)), .val (.ref s_CATEGORY), .unset] [(.ref s_CATEGORY)])) (fun t k => ?_) ?_
    · refine Jvm.RoadKit.acmp (g := (mkF m 170 #[.val (.int p0), .val (.ref b7), .val (.int (15 : Int32)), .val (.ref s_CATEGORY), .unset] [(.ref s_TEXT), (.ref s_CATEGORY)])) X150 hx rfl rfl rfl (pc0 := 170) (pc' := 173) (same := false) rfl (hb hby at_170) rfl (decide_eq_false fun q => (Fld.ne (F_CATEGORY_ordinal.ext O73.2) (F_TEXT_ordinal.ext O73.2) (by decide)) (Value.ref.inj q)) (by decide) (by decide) ?_
      show Steps p.tables e below (T150.setTop (mkF m 173 #[.val (.int p0), .val (.ref b7), .val (.int (15 : Int32)), .val (.ref s_CATEGORY), .unset] [])) _
      refine XS.aloadN X150.here hx rfl (hb hby at_173) rfl rfl ?_
      show Steps p.tables e below (T150.setTop (mkF m 174 #[.val (.int p0), .val (.ref b7), .val (.int (15 : Int32)), .val (.ref s_CATEGORY), .unset] [(.ref s_CATEGORY)])) _
      exact k
    obtain ⟨T151, X151, e151, st151⟩ := getS2 X150 hx hZ hown (host := "") (Or.inl (hw _ (List.mem_of_getElem? (i := 18) rfl))) Via.refl e150 (S_BLOB.ext O73.2) (g := (mkF m 174 #[.val (.int p0), .val (.ref b7), .val (.int (15 : Int32)), .val (.ref s_CATEGORY), .unset] [(.ref s_CATEGORY)])) rfl (hb hby at_174)
    refine Go.st (V' := T151.setTop (mkF m 177 #[.val (.int p0), .val (.ref b7), .val (.int (15 : Int32)), .val (.ref s_CATEGORY), .unset] [(.ref s_BLOB), (.ref s_CATEGORY)])) (fun t k => st151 t k) ?_
    refine Go.st (V' := T151.setTop (mkF m 181 #[.val (.int p0), .val (.ref b7), .val (.int (15 : Int32)), .val (.ref s_CATEGORY), .unset] [(.ref s_CATEGORY)])) (fun t k => ?_) ?_
    · refine Jvm.RoadKit.acmp (g := (mkF m 177 #[.val (.int p0), .val (.ref b7), .val (.int (15 : Int32)), .val (.ref s_CATEGORY), .unset] [(.ref s_BLOB), (.ref s_CATEGORY)])) X151 hx rfl rfl rfl (pc0 := 177) (pc' := 180) (same := false) rfl (hb hby at_177) rfl (decide_eq_false fun q => (Fld.ne (F_CATEGORY_ordinal.ext O73.2) (F_BLOB_ordinal.ext O73.2) (by decide)) (Value.ref.inj q)) (by decide) (by decide) ?_
      show Steps p.tables e below (T151.setTop (mkF m 180 #[.val (.int p0), .val (.ref b7), .val (.int (15 : Int32)), .val (.ref s_CATEGORY), .unset] [])) _
      refine XS.aloadN X151.here hx rfl (hb hby at_180) rfl rfl ?_
      show Steps p.tables e below (T151.setTop (mkF m 181 #[.val (.int p0), .val (.ref b7), .val (.int (15 : Int32)), .val (.ref s_CATEGORY), .unset] [(.ref s_CATEGORY)])) _
      exact k
    obtain ⟨T152, X152, e152, st152⟩ := getS2 X151 hx hZ hown (host := "") (Or.inl (hw _ (List.mem_of_getElem? (i := 44) rfl))) Via.refl e151 (S_EMBEDDED_ENTITY.ext O73.2) (g := (mkF m 181 #[.val (.int p0), .val (.ref b7), .val (.int (15 : Int32)), .val (.ref s_CATEGORY), .unset] [(.ref s_CATEGORY)])) rfl (hb hby at_181)
    refine Go.st (V' := T152.setTop (mkF m 184 #[.val (.int p0), .val (.ref b7), .val (.int (15 : Int32)), .val (.ref s_CATEGORY), .unset] [(.ref s_EMBEDDED_ENTITY), (.ref s_CATEGORY)])) (fun t k => st152 t k) ?_
    refine Go.st (V' := T152.setTop (mkF m 195 #[.val (.int p0), .val (.ref b7), .val (.int (15 : Int32)), .val (.ref s_CATEGORY), .val (.int (1 : Int32))] [(.ref s_CATEGORY)])) (fun t k => ?_) ?_
    · refine Jvm.RoadKit.acmp (g := (mkF m 184 #[.val (.int p0), .val (.ref b7), .val (.int (15 : Int32)), .val (.ref s_CATEGORY), .unset] [(.ref s_EMBEDDED_ENTITY), (.ref s_CATEGORY)])) X152 hx rfl rfl rfl (pc0 := 184) (pc' := 187) (same := false) rfl (hb hby at_184) rfl (decide_eq_false fun q => (Fld.ne (F_CATEGORY_ordinal.ext O73.2) (F_EMBEDDED_ENTITY_ordinal.ext O73.2) (by decide)) (Value.ref.inj q)) (by decide) (by decide) ?_
      show Steps p.tables e below (T152.setTop (mkF m 187 #[.val (.int p0), .val (.ref b7), .val (.int (15 : Int32)), .val (.ref s_CATEGORY), .unset] [])) _
      refine XS.iconst X152.here hx rfl (hb hby at_187) ?_
      show Steps p.tables e below (T152.setTop (mkF m 188 #[.val (.int p0), .val (.ref b7), .val (.int (15 : Int32)), .val (.ref s_CATEGORY), .unset] [(.int (1 : Int32))])) _
      refine XS.goto X152.here hx rfl (pc0 := 188) (pc' := 192) rfl (hb hby at_188) (by decide) (by decide) ?_
      show Steps p.tables e below (T152.setTop (mkF m 192 #[.val (.int p0), .val (.ref b7), .val (.int (15 : Int32)), .val (.ref s_CATEGORY), .unset] [(.int (1 : Int32))])) _
      refine XS.istore X152.here hx rfl (hb hby at_192) rfl (l' := #[.val (.int p0), .val (.ref b7), .val (.int (15 : Int32)), .val (.ref s_CATEGORY), .val (.int (1 : Int32))]) rfl ?_
      show Steps p.tables e below (T152.setTop (mkF m 194 #[.val (.int p0), .val (.ref b7), .val (.int (15 : Int32)), .val (.ref s_CATEGORY), .val (.int (1 : Int32))] [])) _
      refine XS.aloadN X152.here hx rfl (hb hby at_194) rfl rfl ?_
      show Steps p.tables e below (T152.setTop (mkF m 195 #[.val (.int p0), .val (.ref b7), .val (.int (15 : Int32)), .val (.ref s_CATEGORY), .val (.int (1 : Int32))] [(.ref s_CATEGORY)])) _
      exact k
    obtain ⟨cq153, kq153, q153a, q153b, q153c⟩ := isOf hZ e152 (E_CATEGORY.ext O73.2)
    obtain ⟨_, _, ⟨T153, L153, k153, n153⟩, -, X153, ⟨Lc153, hQ153, l153, y153, z153⟩, st153⟩ := X152.virtualBack hx (y := (⟨"com/example/rooted_kinds/rootedkinds/model/ValueType", "isIndexed", "()Z"⟩ : MethodName)) (z := (⟨"com/example/rooted_kinds/rootedkinds/model/ValueType", "isIndexed", "()Z"⟩ : MethodName)) hown (mvT hZ (hw _ (List.mem_of_getElem? (i := 49) rfl))) (mvT hZ (hw _ (List.mem_of_getElem? (i := 50) rfl))) (notFace_of_selects (args := #[]) (mvT hZ (hw _ (List.mem_of_getElem? (i := 52) rfl)))) (mvT hZ (hw _ (List.mem_of_getElem? (i := 52) rfl))) (mvT hZ (hw _ (List.mem_of_getElem? (i := 51) rfl))) (by decide) (backOf (W := 0) (rm1r l Z a0 hw [] s_NULL s_LONG s_DOUBLE s_BOOLEAN s_STRING s_DATE s_TEXT s_BLOB s_SHORT_BLOB s_GEO_PT s_POSTAL_ADDRESS s_PHONE_NUMBER s_EMAIL s_IM_HANDLE s_LINK s_CATEGORY s_RATING s_USER s_BLOB_KEY s_KEY s_EMBEDDED_ENTITY s_LIST s_Representation_NULL s_Representation_BOOLEAN s_Representation_STRING s_Representation_DOUBLE s_INT64 s_POINT s_REFERENCE s_Representation_USER HW s_CATEGORY s_Representation_STRING h73 n0 O73 (F_CATEGORY_representation.ext O73.2)) hZ (hw _ (List.mem_of_getElem? (i := 53) rfl)) (hw _ (List.mem_of_getElem? (i := 3) rfl)) (by decide) (by decide)) q153a q153c (g := (mkF m 195 #[.val (.int p0), .val (.ref b7), .val (.int (15 : Int32)), .val (.ref s_CATEGORY), .val (.int (1 : Int32))] [(.ref s_CATEGORY)])) rfl (by rw [hml]; rfl) (Steps.refl _) (argsL := []) (rest := []) (lenOf own_pd10 rfl) rfl (by show 2 * 0 + _ ≤ _; exact Nat.le_of_eq rfl) (hb hby at_195) (fun _ _ => ⟨rfl, e152, (by decide : 1 + 0 ≤ _), (by decide : 22 + 0 ≤ _)⟩)
    dsimp only [Pt.U, Pt.locs, Pt.cells, Pt.slots] at X153 l153 y153 z153 st153 hQ153
    subst l153 y153 z153
    obtain ⟨rfl, N153q, e153⟩ := hQ153
    have N153 := Fr.app N74 N153q
    refine Go.st (V' := T153.setTop (mkF m 198 #[.val (.int p0), .val (.ref b7), .val (.int (15 : Int32)), .val (.ref s_CATEGORY), .val (.int (1 : Int32))] [(.int (1 : Int32))])) (fun t k => st153.trans k) ?_
    refine Go.st (V' := T153.setTop (mkF m 208 #[.val (.int p0), .val (.ref b7), .val (.int (15 : Int32)), .val (.ref s_CATEGORY), .val (.int (1 : Int32))] [(.int (1 : Int32))])) (fun t k => ?_) ?_
    · refine XS.iload X153.here hx rfl (hb hby at_198) rfl  ?_
      show Steps p.tables e below (T153.setTop (mkF m 200 #[.val (.int p0), .val (.ref b7), .val (.int (15 : Int32)), .val (.ref s_CATEGORY), .val (.int (1 : Int32))] [(.int (1 : Int32)), (.int (1 : Int32))])) _
      refine XS.icmpNo X153.here hx rfl (hb hby at_200) rfl (teq (by decide : ((1 : Int32) = (1 : Int32)))).2 ?_
      show Steps p.tables e below (T153.setTop (mkF m 203 #[.val (.int p0), .val (.ref b7), .val (.int (15 : Int32)), .val (.ref s_CATEGORY), .val (.int (1 : Int32))] [])) _
      refine XS.iconst X153.here hx rfl (hb hby at_203) ?_
      show Steps p.tables e below (T153.setTop (mkF m 204 #[.val (.int p0), .val (.ref b7), .val (.int (15 : Int32)), .val (.ref s_CATEGORY), .val (.int (1 : Int32))] [(.int (1 : Int32))])) _
      refine XS.goto X153.here hx rfl (pc0 := 204) (pc' := 208) rfl (hb hby at_204) (by decide) (by decide) ?_
      show Steps p.tables e below (T153.setTop (mkF m 208 #[.val (.int p0), .val (.ref b7), .val (.int (15 : Int32)), .val (.ref s_CATEGORY), .val (.int (1 : Int32))] [(.int (1 : Int32))])) _
      exact k
    obtain ⟨fs, hr, hrun, hended, hW, hsame⟩ := X153.leave (v := some (.int (1 : Int32))) (fun h => by rw [Bd.returns] at h; cases h)
    refine Go.mk' ⟨_, _, retN X153 hx (t := .boolean) Bd.returns (by simp) (hb hby at_208) hr, hrun, hended, _, _, rfl, ?_, ⟨_, rfl⟩, hW, hsame.mono (by decide) (by decide)⟩
    show Q0 Z p0 h0 n0 _ T153.heap _
    rw [e153]
    exact ⟨rfl, N153⟩
  · show Go p e below _ (T73.setTop (mkF m 162 #[.val (.int p0), .val (.ref b7), .val (.int (16 : Int32)), .unset, .unset] []))
    refine Go.st (V' := T73.setTop (mkF m 164 #[.val (.int p0), .val (.ref b7), .val (.int (16 : Int32)), .unset, .unset] [(.int (16 : Int32)), (.ref b7)])) (fun t k => ?_) ?_
    · refine XS.aloadN X74.here hx rfl (hb hby at_162) rfl rfl ?_
      show Steps p.tables e below (T73.setTop (mkF m 163 #[.val (.int p0), .val (.ref b7), .val (.int (16 : Int32)), .unset, .unset] [(.ref b7)])) _
      refine XS.iloadN X74.here hx rfl (hb hby at_163) rfl  ?_
      show Steps p.tables e below (T73.setTop (mkF m 164 #[.val (.int p0), .val (.ref b7), .val (.int (16 : Int32)), .unset, .unset] [(.int (16 : Int32)), (.ref b7)])) _
      exact k
    obtain ⟨cl154, Ar154, q154, Sz154, Nn154, Ha154, Ga154⟩ := id (V73)
    have hin154 : ¬ ((16 : Int32) < 0 ∨ cl154.slots.size ≤ ((16 : Int32)).toNatClampNeg) := inb_of Sz154 ⟨by decide, by decide⟩
    refine Go.st (V' := T73.setTop (mkF m 167 #[.val (.int p0), .val (.ref b7), .val (.int (16 : Int32)), .val (.ref s_RATING), .unset] [(.ref s_RATING)])) (fun t k => ?_) ?_
    · show Steps p.tables e below (T73.setTop (mkF m 164 #[.val (.int p0), .val (.ref b7), .val (.int (16 : Int32)), .unset, .unset] [(.int (16 : Int32)), (.ref b7)])) _
      refine X74.aaload hx (j := (16 : Int32)) (v := (.ref s_RATING)) (own_eT e73 Ar154) (State.isArrayOf_alike hZ.alike Ar154.2.1) rfl Ar154.2.2 hin154 (Ha154.at hin154 rfl) (g := (mkF m 164 #[.val (.int p0), .val (.ref b7), .val (.int (16 : Int32)), .unset, .unset] [(.int (16 : Int32)), (.ref b7)])) rfl rfl (hb hby at_164) _ ?_
      show Steps p.tables e below (T73.setTop (mkF m 165 #[.val (.int p0), .val (.ref b7), .val (.int (16 : Int32)), .unset, .unset] [(.ref s_RATING)])) _
      refine XS.astoreN X74.here hx rfl (hb hby at_165) rfl rfl (l' := #[.val (.int p0), .val (.ref b7), .val (.int (16 : Int32)), .val (.ref s_RATING), .unset]) rfl ?_
      show Steps p.tables e below (T73.setTop (mkF m 166 #[.val (.int p0), .val (.ref b7), .val (.int (16 : Int32)), .val (.ref s_RATING), .unset] [])) _
      refine XS.aloadN X74.here hx rfl (hb hby at_166) rfl rfl ?_
      show Steps p.tables e below (T73.setTop (mkF m 167 #[.val (.int p0), .val (.ref b7), .val (.int (16 : Int32)), .val (.ref s_RATING), .unset] [(.ref s_RATING)])) _
      exact k
    obtain ⟨T155, X155, e155, st155⟩ := getS2 X74 hx hZ hown (host := "") (Or.inl (hw _ (List.mem_of_getElem? (i := 16) rfl))) Via.refl e73 (S_TEXT.ext O73.2) (g := (mkF m 167 #[.val (.int p0), .val (.ref b7), .val (.int (16 : Int32)), .val (.ref s_RATING), .unset] [(.ref s_RATING)])) rfl (hb hby at_167)
    refine Go.st (V' := T155.setTop (mkF m 170 #[.val (.int p0), .val (.ref b7), .val (.int (16 : Int32)), .val (.ref s_RATING), .unset] [(.ref s_TEXT), (.ref s_RATING)])) (fun t k => st155 t k) ?_
    refine Go.st (V' := T155.setTop (mkF m 174 #[.val (.int p0), .val (.ref b7), .val (.int (16 : Int32)), .val (.ref s_RATING), .unset] [(.ref s_RATING)])) (fun t k => ?_) ?_
    · refine Jvm.RoadKit.acmp (g := (mkF m 170 #[.val (.int p0), .val (.ref b7), .val (.int (16 : Int32)), .val (.ref s_RATING), .unset] [(.ref s_TEXT), (.ref s_RATING)])) X155 hx rfl rfl rfl (pc0 := 170) (pc' := 173) (same := false) rfl (hb hby at_170) rfl (decide_eq_false fun q => (Fld.ne (F_RATING_ordinal.ext O73.2) (F_TEXT_ordinal.ext O73.2) (by decide)) (Value.ref.inj q)) (by decide) (by decide) ?_
      show Steps p.tables e below (T155.setTop (mkF m 173 #[.val (.int p0), .val (.ref b7), .val (.int (16 : Int32)), .val (.ref s_RATING), .unset] [])) _
      refine XS.aloadN X155.here hx rfl (hb hby at_173) rfl rfl ?_
      show Steps p.tables e below (T155.setTop (mkF m 174 #[.val (.int p0), .val (.ref b7), .val (.int (16 : Int32)), .val (.ref s_RATING), .unset] [(.ref s_RATING)])) _
      exact k
    obtain ⟨T156, X156, e156, st156⟩ := getS2 X155 hx hZ hown (host := "") (Or.inl (hw _ (List.mem_of_getElem? (i := 18) rfl))) Via.refl e155 (S_BLOB.ext O73.2) (g := (mkF m 174 #[.val (.int p0), .val (.ref b7), .val (.int (16 : Int32)), .val (.ref s_RATING), .unset] [(.ref s_RATING)])) rfl (hb hby at_174)
    refine Go.st (V' := T156.setTop (mkF m 177 #[.val (.int p0), .val (.ref b7), .val (.int (16 : Int32)), .val (.ref s_RATING), .unset] [(.ref s_BLOB), (.ref s_RATING)])) (fun t k => st156 t k) ?_
    refine Go.st (V' := T156.setTop (mkF m 181 #[.val (.int p0), .val (.ref b7), .val (.int (16 : Int32)), .val (.ref s_RATING), .unset] [(.ref s_RATING)])) (fun t k => ?_) ?_
    · refine Jvm.RoadKit.acmp (g := (mkF m 177 #[.val (.int p0), .val (.ref b7), .val (.int (16 : Int32)), .val (.ref s_RATING), .unset] [(.ref s_BLOB), (.ref s_RATING)])) X156 hx rfl rfl rfl (pc0 := 177) (pc' := 180) (same := false) rfl (hb hby at_177) rfl (decide_eq_false fun q => (Fld.ne (F_RATING_ordinal.ext O73.2) (F_BLOB_ordinal.ext O73.2) (by decide)) (Value.ref.inj q)) (by decide) (by decide) ?_
      show Steps p.tables e below (T156.setTop (mkF m 180 #[.val (.int p0), .val (.ref b7), .val (.int (16 : Int32)), .val (.ref s_RATING), .unset] [])) _
      refine XS.aloadN X156.here hx rfl (hb hby at_180) rfl rfl ?_
      show Steps p.tables e below (T156.setTop (mkF m 181 #[.val (.int p0), .val (.ref b7), .val (.int (16 : Int32)), .val (.ref s_RATING), .unset] [(.ref s_RATING)])) _
      exact k
    obtain ⟨T157, X157, e157, st157⟩ := getS2 X156 hx hZ hown (host := "") (Or.inl (hw _ (List.mem_of_getElem? (i := 44) rfl))) Via.refl e156 (S_EMBEDDED_ENTITY.ext O73.2) (g := (mkF m 181 #[.val (.int p0), .val (.ref b7), .val (.int (16 : Int32)), .val (.ref s_RATING), .unset] [(.ref s_RATING)])) rfl (hb hby at_181)
    refine Go.st (V' := T157.setTop (mkF m 184 #[.val (.int p0), .val (.ref b7), .val (.int (16 : Int32)), .val (.ref s_RATING), .unset] [(.ref s_EMBEDDED_ENTITY), (.ref s_RATING)])) (fun t k => st157 t k) ?_
    refine Go.st (V' := T157.setTop (mkF m 195 #[.val (.int p0), .val (.ref b7), .val (.int (16 : Int32)), .val (.ref s_RATING), .val (.int (1 : Int32))] [(.ref s_RATING)])) (fun t k => ?_) ?_
    · refine Jvm.RoadKit.acmp (g := (mkF m 184 #[.val (.int p0), .val (.ref b7), .val (.int (16 : Int32)), .val (.ref s_RATING), .unset] [(.ref s_EMBEDDED_ENTITY), (.ref s_RATING)])) X157 hx rfl rfl rfl (pc0 := 184) (pc' := 187) (same := false) rfl (hb hby at_184) rfl (decide_eq_false fun q => (Fld.ne (F_RATING_ordinal.ext O73.2) (F_EMBEDDED_ENTITY_ordinal.ext O73.2) (by decide)) (Value.ref.inj q)) (by decide) (by decide) ?_
      show Steps p.tables e below (T157.setTop (mkF m 187 #[.val (.int p0), .val (.ref b7), .val (.int (16 : Int32)), .val (.ref s_RATING), .unset] [])) _
      refine XS.iconst X157.here hx rfl (hb hby at_187) ?_
      show Steps p.tables e below (T157.setTop (mkF m 188 #[.val (.int p0), .val (.ref b7), .val (.int (16 : Int32)), .val (.ref s_RATING), .unset] [(.int (1 : Int32))])) _
      refine XS.goto X157.here hx rfl (pc0 := 188) (pc' := 192) rfl (hb hby at_188) (by decide) (by decide) ?_
      show Steps p.tables e below (T157.setTop (mkF m 192 #[.val (.int p0), .val (.ref b7), .val (.int (16 : Int32)), .val (.ref s_RATING), .unset] [(.int (1 : Int32))])) _
      refine XS.istore X157.here hx rfl (hb hby at_192) rfl (l' := #[.val (.int p0), .val (.ref b7), .val (.int (16 : Int32)), .val (.ref s_RATING), .val (.int (1 : Int32))]) rfl ?_
      show Steps p.tables e below (T157.setTop (mkF m 194 #[.val (.int p0), .val (.ref b7), .val (.int (16 : Int32)), .val (.ref s_RATING), .val (.int (1 : Int32))] [])) _
      refine XS.aloadN X157.here hx rfl (hb hby at_194) rfl rfl ?_
      show Steps p.tables e below (T157.setTop (mkF m 195 #[.val (.int p0), .val (.ref b7), .val (.int (16 : Int32)), .val (.ref s_RATING), .val (.int (1 : Int32))] [(.ref s_RATING)])) _
      exact k
    obtain ⟨cq158, kq158, q158a, q158b, q158c⟩ := isOf hZ e157 (E_RATING.ext O73.2)
    obtain ⟨_, _, ⟨T158, L158, k158, n158⟩, -, X158, ⟨Lc158, hQ158, l158, y158, z158⟩, st158⟩ := X157.virtualBack hx (y := (⟨"com/example/rooted_kinds/rootedkinds/model/ValueType", "isIndexed", "()Z"⟩ : MethodName)) (z := (⟨"com/example/rooted_kinds/rootedkinds/model/ValueType", "isIndexed", "()Z"⟩ : MethodName)) hown (mvT hZ (hw _ (List.mem_of_getElem? (i := 49) rfl))) (mvT hZ (hw _ (List.mem_of_getElem? (i := 50) rfl))) (notFace_of_selects (args := #[]) (mvT hZ (hw _ (List.mem_of_getElem? (i := 52) rfl)))) (mvT hZ (hw _ (List.mem_of_getElem? (i := 52) rfl))) (mvT hZ (hw _ (List.mem_of_getElem? (i := 51) rfl))) (by decide) (backOf (W := 0) (rm1r l Z a0 hw [] s_NULL s_LONG s_DOUBLE s_BOOLEAN s_STRING s_DATE s_TEXT s_BLOB s_SHORT_BLOB s_GEO_PT s_POSTAL_ADDRESS s_PHONE_NUMBER s_EMAIL s_IM_HANDLE s_LINK s_CATEGORY s_RATING s_USER s_BLOB_KEY s_KEY s_EMBEDDED_ENTITY s_LIST s_Representation_NULL s_Representation_BOOLEAN s_Representation_STRING s_Representation_DOUBLE s_INT64 s_POINT s_REFERENCE s_Representation_USER HW s_RATING s_INT64 h73 n0 O73 (F_RATING_representation.ext O73.2)) hZ (hw _ (List.mem_of_getElem? (i := 53) rfl)) (hw _ (List.mem_of_getElem? (i := 3) rfl)) (by decide) (by decide)) q158a q158c (g := (mkF m 195 #[.val (.int p0), .val (.ref b7), .val (.int (16 : Int32)), .val (.ref s_RATING), .val (.int (1 : Int32))] [(.ref s_RATING)])) rfl (by rw [hml]; rfl) (Steps.refl _) (argsL := []) (rest := []) (lenOf own_pd10 rfl) rfl (by show 2 * 0 + _ ≤ _; exact Nat.le_of_eq rfl) (hb hby at_195) (fun _ _ => ⟨rfl, e157, (by decide : 1 + 0 ≤ _), (by decide : 22 + 0 ≤ _)⟩)
    dsimp only [Pt.U, Pt.locs, Pt.cells, Pt.slots] at X158 l158 y158 z158 st158 hQ158
    subst l158 y158 z158
    obtain ⟨rfl, N158q, e158⟩ := hQ158
    have N158 := Fr.app N74 N158q
    refine Go.st (V' := T158.setTop (mkF m 198 #[.val (.int p0), .val (.ref b7), .val (.int (16 : Int32)), .val (.ref s_RATING), .val (.int (1 : Int32))] [(.int (1 : Int32))])) (fun t k => st158.trans k) ?_
    refine Go.st (V' := T158.setTop (mkF m 208 #[.val (.int p0), .val (.ref b7), .val (.int (16 : Int32)), .val (.ref s_RATING), .val (.int (1 : Int32))] [(.int (1 : Int32))])) (fun t k => ?_) ?_
    · refine XS.iload X158.here hx rfl (hb hby at_198) rfl  ?_
      show Steps p.tables e below (T158.setTop (mkF m 200 #[.val (.int p0), .val (.ref b7), .val (.int (16 : Int32)), .val (.ref s_RATING), .val (.int (1 : Int32))] [(.int (1 : Int32)), (.int (1 : Int32))])) _
      refine XS.icmpNo X158.here hx rfl (hb hby at_200) rfl (teq (by decide : ((1 : Int32) = (1 : Int32)))).2 ?_
      show Steps p.tables e below (T158.setTop (mkF m 203 #[.val (.int p0), .val (.ref b7), .val (.int (16 : Int32)), .val (.ref s_RATING), .val (.int (1 : Int32))] [])) _
      refine XS.iconst X158.here hx rfl (hb hby at_203) ?_
      show Steps p.tables e below (T158.setTop (mkF m 204 #[.val (.int p0), .val (.ref b7), .val (.int (16 : Int32)), .val (.ref s_RATING), .val (.int (1 : Int32))] [(.int (1 : Int32))])) _
      refine XS.goto X158.here hx rfl (pc0 := 204) (pc' := 208) rfl (hb hby at_204) (by decide) (by decide) ?_
      show Steps p.tables e below (T158.setTop (mkF m 208 #[.val (.int p0), .val (.ref b7), .val (.int (16 : Int32)), .val (.ref s_RATING), .val (.int (1 : Int32))] [(.int (1 : Int32))])) _
      exact k
    obtain ⟨fs, hr, hrun, hended, hW, hsame⟩ := X158.leave (v := some (.int (1 : Int32))) (fun h => by rw [Bd.returns] at h; cases h)
    refine Go.mk' ⟨_, _, retN X158 hx (t := .boolean) Bd.returns (by simp) (hb hby at_208) hr, hrun, hended, _, _, rfl, ?_, ⟨_, rfl⟩, hW, hsame.mono (by decide) (by decide)⟩
    show Q0 Z p0 h0 n0 _ T158.heap _
    rw [e158]
    exact ⟨rfl, N158⟩
  · show Go p e below _ (T73.setTop (mkF m 162 #[.val (.int p0), .val (.ref b7), .val (.int (17 : Int32)), .unset, .unset] []))
    refine Go.st (V' := T73.setTop (mkF m 164 #[.val (.int p0), .val (.ref b7), .val (.int (17 : Int32)), .unset, .unset] [(.int (17 : Int32)), (.ref b7)])) (fun t k => ?_) ?_
    · refine XS.aloadN X74.here hx rfl (hb hby at_162) rfl rfl ?_
      show Steps p.tables e below (T73.setTop (mkF m 163 #[.val (.int p0), .val (.ref b7), .val (.int (17 : Int32)), .unset, .unset] [(.ref b7)])) _
      refine XS.iloadN X74.here hx rfl (hb hby at_163) rfl  ?_
      show Steps p.tables e below (T73.setTop (mkF m 164 #[.val (.int p0), .val (.ref b7), .val (.int (17 : Int32)), .unset, .unset] [(.int (17 : Int32)), (.ref b7)])) _
      exact k
    obtain ⟨cl159, Ar159, q159, Sz159, Nn159, Ha159, Ga159⟩ := id (V73)
    have hin159 : ¬ ((17 : Int32) < 0 ∨ cl159.slots.size ≤ ((17 : Int32)).toNatClampNeg) := inb_of Sz159 ⟨by decide, by decide⟩
    refine Go.st (V' := T73.setTop (mkF m 167 #[.val (.int p0), .val (.ref b7), .val (.int (17 : Int32)), .val (.ref s_USER), .unset] [(.ref s_USER)])) (fun t k => ?_) ?_
    · show Steps p.tables e below (T73.setTop (mkF m 164 #[.val (.int p0), .val (.ref b7), .val (.int (17 : Int32)), .unset, .unset] [(.int (17 : Int32)), (.ref b7)])) _
      refine X74.aaload hx (j := (17 : Int32)) (v := (.ref s_USER)) (own_eT e73 Ar159) (State.isArrayOf_alike hZ.alike Ar159.2.1) rfl Ar159.2.2 hin159 (Ha159.at hin159 rfl) (g := (mkF m 164 #[.val (.int p0), .val (.ref b7), .val (.int (17 : Int32)), .unset, .unset] [(.int (17 : Int32)), (.ref b7)])) rfl rfl (hb hby at_164) _ ?_
      show Steps p.tables e below (T73.setTop (mkF m 165 #[.val (.int p0), .val (.ref b7), .val (.int (17 : Int32)), .unset, .unset] [(.ref s_USER)])) _
      refine XS.astoreN X74.here hx rfl (hb hby at_165) rfl rfl (l' := #[.val (.int p0), .val (.ref b7), .val (.int (17 : Int32)), .val (.ref s_USER), .unset]) rfl ?_
      show Steps p.tables e below (T73.setTop (mkF m 166 #[.val (.int p0), .val (.ref b7), .val (.int (17 : Int32)), .val (.ref s_USER), .unset] [])) _
      refine XS.aloadN X74.here hx rfl (hb hby at_166) rfl rfl ?_
      show Steps p.tables e below (T73.setTop (mkF m 167 #[.val (.int p0), .val (.ref b7), .val (.int (17 : Int32)), .val (.ref s_USER), .unset] [(.ref s_USER)])) _
      exact k
    obtain ⟨T160, X160, e160, st160⟩ := getS2 X74 hx hZ hown (host := "") (Or.inl (hw _ (List.mem_of_getElem? (i := 16) rfl))) Via.refl e73 (S_TEXT.ext O73.2) (g := (mkF m 167 #[.val (.int p0), .val (.ref b7), .val (.int (17 : Int32)), .val (.ref s_USER), .unset] [(.ref s_USER)])) rfl (hb hby at_167)
    refine Go.st (V' := T160.setTop (mkF m 170 #[.val (.int p0), .val (.ref b7), .val (.int (17 : Int32)), .val (.ref s_USER), .unset] [(.ref s_TEXT), (.ref s_USER)])) (fun t k => st160 t k) ?_
    refine Go.st (V' := T160.setTop (mkF m 174 #[.val (.int p0), .val (.ref b7), .val (.int (17 : Int32)), .val (.ref s_USER), .unset] [(.ref s_USER)])) (fun t k => ?_) ?_
    · refine Jvm.RoadKit.acmp (g := (mkF m 170 #[.val (.int p0), .val (.ref b7), .val (.int (17 : Int32)), .val (.ref s_USER), .unset] [(.ref s_TEXT), (.ref s_USER)])) X160 hx rfl rfl rfl (pc0 := 170) (pc' := 173) (same := false) rfl (hb hby at_170) rfl (decide_eq_false fun q => (Fld.ne (F_USER_ordinal.ext O73.2) (F_TEXT_ordinal.ext O73.2) (by decide)) (Value.ref.inj q)) (by decide) (by decide) ?_
      show Steps p.tables e below (T160.setTop (mkF m 173 #[.val (.int p0), .val (.ref b7), .val (.int (17 : Int32)), .val (.ref s_USER), .unset] [])) _
      refine XS.aloadN X160.here hx rfl (hb hby at_173) rfl rfl ?_
      show Steps p.tables e below (T160.setTop (mkF m 174 #[.val (.int p0), .val (.ref b7), .val (.int (17 : Int32)), .val (.ref s_USER), .unset] [(.ref s_USER)])) _
      exact k
    obtain ⟨T161, X161, e161, st161⟩ := getS2 X160 hx hZ hown (host := "") (Or.inl (hw _ (List.mem_of_getElem? (i := 18) rfl))) Via.refl e160 (S_BLOB.ext O73.2) (g := (mkF m 174 #[.val (.int p0), .val (.ref b7), .val (.int (17 : Int32)), .val (.ref s_USER), .unset] [(.ref s_USER)])) rfl (hb hby at_174)
    refine Go.st (V' := T161.setTop (mkF m 177 #[.val (.int p0), .val (.ref b7), .val (.int (17 : Int32)), .val (.ref s_USER), .unset] [(.ref s_BLOB), (.ref s_USER)])) (fun t k => st161 t k) ?_
    refine Go.st (V' := T161.setTop (mkF m 181 #[.val (.int p0), .val (.ref b7), .val (.int (17 : Int32)), .val (.ref s_USER), .unset] [(.ref s_USER)])) (fun t k => ?_) ?_
    · refine Jvm.RoadKit.acmp (g := (mkF m 177 #[.val (.int p0), .val (.ref b7), .val (.int (17 : Int32)), .val (.ref s_USER), .unset] [(.ref s_BLOB), (.ref s_USER)])) X161 hx rfl rfl rfl (pc0 := 177) (pc' := 180) (same := false) rfl (hb hby at_177) rfl (decide_eq_false fun q => (Fld.ne (F_USER_ordinal.ext O73.2) (F_BLOB_ordinal.ext O73.2) (by decide)) (Value.ref.inj q)) (by decide) (by decide) ?_
      show Steps p.tables e below (T161.setTop (mkF m 180 #[.val (.int p0), .val (.ref b7), .val (.int (17 : Int32)), .val (.ref s_USER), .unset] [])) _
      refine XS.aloadN X161.here hx rfl (hb hby at_180) rfl rfl ?_
      show Steps p.tables e below (T161.setTop (mkF m 181 #[.val (.int p0), .val (.ref b7), .val (.int (17 : Int32)), .val (.ref s_USER), .unset] [(.ref s_USER)])) _
      exact k
    obtain ⟨T162, X162, e162, st162⟩ := getS2 X161 hx hZ hown (host := "") (Or.inl (hw _ (List.mem_of_getElem? (i := 44) rfl))) Via.refl e161 (S_EMBEDDED_ENTITY.ext O73.2) (g := (mkF m 181 #[.val (.int p0), .val (.ref b7), .val (.int (17 : Int32)), .val (.ref s_USER), .unset] [(.ref s_USER)])) rfl (hb hby at_181)
    refine Go.st (V' := T162.setTop (mkF m 184 #[.val (.int p0), .val (.ref b7), .val (.int (17 : Int32)), .val (.ref s_USER), .unset] [(.ref s_EMBEDDED_ENTITY), (.ref s_USER)])) (fun t k => st162 t k) ?_
    refine Go.st (V' := T162.setTop (mkF m 195 #[.val (.int p0), .val (.ref b7), .val (.int (17 : Int32)), .val (.ref s_USER), .val (.int (1 : Int32))] [(.ref s_USER)])) (fun t k => ?_) ?_
    · refine Jvm.RoadKit.acmp (g := (mkF m 184 #[.val (.int p0), .val (.ref b7), .val (.int (17 : Int32)), .val (.ref s_USER), .unset] [(.ref s_EMBEDDED_ENTITY), (.ref s_USER)])) X162 hx rfl rfl rfl (pc0 := 184) (pc' := 187) (same := false) rfl (hb hby at_184) rfl (decide_eq_false fun q => (Fld.ne (F_USER_ordinal.ext O73.2) (F_EMBEDDED_ENTITY_ordinal.ext O73.2) (by decide)) (Value.ref.inj q)) (by decide) (by decide) ?_
      show Steps p.tables e below (T162.setTop (mkF m 187 #[.val (.int p0), .val (.ref b7), .val (.int (17 : Int32)), .val (.ref s_USER), .unset] [])) _
      refine XS.iconst X162.here hx rfl (hb hby at_187) ?_
      show Steps p.tables e below (T162.setTop (mkF m 188 #[.val (.int p0), .val (.ref b7), .val (.int (17 : Int32)), .val (.ref s_USER), .unset] [(.int (1 : Int32))])) _
      refine XS.goto X162.here hx rfl (pc0 := 188) (pc' := 192) rfl (hb hby at_188) (by decide) (by decide) ?_
      show Steps p.tables e below (T162.setTop (mkF m 192 #[.val (.int p0), .val (.ref b7), .val (.int (17 : Int32)), .val (.ref s_USER), .unset] [(.int (1 : Int32))])) _
      refine XS.istore X162.here hx rfl (hb hby at_192) rfl (l' := #[.val (.int p0), .val (.ref b7), .val (.int (17 : Int32)), .val (.ref s_USER), .val (.int (1 : Int32))]) rfl ?_
      show Steps p.tables e below (T162.setTop (mkF m 194 #[.val (.int p0), .val (.ref b7), .val (.int (17 : Int32)), .val (.ref s_USER), .val (.int (1 : Int32))] [])) _
      refine XS.aloadN X162.here hx rfl (hb hby at_194) rfl rfl ?_
      show Steps p.tables e below (T162.setTop (mkF m 195 #[.val (.int p0), .val (.ref b7), .val (.int (17 : Int32)), .val (.ref s_USER), .val (.int (1 : Int32))] [(.ref s_USER)])) _
      exact k
    obtain ⟨cq163, kq163, q163a, q163b, q163c⟩ := isOf hZ e162 (E_USER.ext O73.2)
    obtain ⟨_, _, ⟨T163, L163, k163, n163⟩, -, X163, ⟨Lc163, hQ163, l163, y163, z163⟩, st163⟩ := X162.virtualBack hx (y := (⟨"com/example/rooted_kinds/rootedkinds/model/ValueType", "isIndexed", "()Z"⟩ : MethodName)) (z := (⟨"com/example/rooted_kinds/rootedkinds/model/ValueType", "isIndexed", "()Z"⟩ : MethodName)) hown (mvT hZ (hw _ (List.mem_of_getElem? (i := 49) rfl))) (mvT hZ (hw _ (List.mem_of_getElem? (i := 50) rfl))) (notFace_of_selects (args := #[]) (mvT hZ (hw _ (List.mem_of_getElem? (i := 52) rfl)))) (mvT hZ (hw _ (List.mem_of_getElem? (i := 52) rfl))) (mvT hZ (hw _ (List.mem_of_getElem? (i := 51) rfl))) (by decide) (backOf (W := 0) (rm1r l Z a0 hw [] s_NULL s_LONG s_DOUBLE s_BOOLEAN s_STRING s_DATE s_TEXT s_BLOB s_SHORT_BLOB s_GEO_PT s_POSTAL_ADDRESS s_PHONE_NUMBER s_EMAIL s_IM_HANDLE s_LINK s_CATEGORY s_RATING s_USER s_BLOB_KEY s_KEY s_EMBEDDED_ENTITY s_LIST s_Representation_NULL s_Representation_BOOLEAN s_Representation_STRING s_Representation_DOUBLE s_INT64 s_POINT s_REFERENCE s_Representation_USER HW s_USER s_Representation_USER h73 n0 O73 (F_USER_representation.ext O73.2)) hZ (hw _ (List.mem_of_getElem? (i := 53) rfl)) (hw _ (List.mem_of_getElem? (i := 3) rfl)) (by decide) (by decide)) q163a q163c (g := (mkF m 195 #[.val (.int p0), .val (.ref b7), .val (.int (17 : Int32)), .val (.ref s_USER), .val (.int (1 : Int32))] [(.ref s_USER)])) rfl (by rw [hml]; rfl) (Steps.refl _) (argsL := []) (rest := []) (lenOf own_pd10 rfl) rfl (by show 2 * 0 + _ ≤ _; exact Nat.le_of_eq rfl) (hb hby at_195) (fun _ _ => ⟨rfl, e162, (by decide : 1 + 0 ≤ _), (by decide : 22 + 0 ≤ _)⟩)
    dsimp only [Pt.U, Pt.locs, Pt.cells, Pt.slots] at X163 l163 y163 z163 st163 hQ163
    subst l163 y163 z163
    obtain ⟨rfl, N163q, e163⟩ := hQ163
    have N163 := Fr.app N74 N163q
    refine Go.st (V' := T163.setTop (mkF m 198 #[.val (.int p0), .val (.ref b7), .val (.int (17 : Int32)), .val (.ref s_USER), .val (.int (1 : Int32))] [(.int (1 : Int32))])) (fun t k => st163.trans k) ?_
    refine Go.st (V' := T163.setTop (mkF m 208 #[.val (.int p0), .val (.ref b7), .val (.int (17 : Int32)), .val (.ref s_USER), .val (.int (1 : Int32))] [(.int (1 : Int32))])) (fun t k => ?_) ?_
    · refine XS.iload X163.here hx rfl (hb hby at_198) rfl  ?_
      show Steps p.tables e below (T163.setTop (mkF m 200 #[.val (.int p0), .val (.ref b7), .val (.int (17 : Int32)), .val (.ref s_USER), .val (.int (1 : Int32))] [(.int (1 : Int32)), (.int (1 : Int32))])) _
      refine XS.icmpNo X163.here hx rfl (hb hby at_200) rfl (teq (by decide : ((1 : Int32) = (1 : Int32)))).2 ?_
      show Steps p.tables e below (T163.setTop (mkF m 203 #[.val (.int p0), .val (.ref b7), .val (.int (17 : Int32)), .val (.ref s_USER), .val (.int (1 : Int32))] [])) _
      refine XS.iconst X163.here hx rfl (hb hby at_203) ?_
      show Steps p.tables e below (T163.setTop (mkF m 204 #[.val (.int p0), .val (.ref b7), .val (.int (17 : Int32)), .val (.ref s_USER), .val (.int (1 : Int32))] [(.int (1 : Int32))])) _
      refine XS.goto X163.here hx rfl (pc0 := 204) (pc' := 208) rfl (hb hby at_204) (by decide) (by decide) ?_
      show Steps p.tables e below (T163.setTop (mkF m 208 #[.val (.int p0), .val (.ref b7), .val (.int (17 : Int32)), .val (.ref s_USER), .val (.int (1 : Int32))] [(.int (1 : Int32))])) _
      exact k
    obtain ⟨fs, hr, hrun, hended, hW, hsame⟩ := X163.leave (v := some (.int (1 : Int32))) (fun h => by rw [Bd.returns] at h; cases h)
    refine Go.mk' ⟨_, _, retN X163 hx (t := .boolean) Bd.returns (by simp) (hb hby at_208) hr, hrun, hended, _, _, rfl, ?_, ⟨_, rfl⟩, hW, hsame.mono (by decide) (by decide)⟩
    show Q0 Z p0 h0 n0 _ T163.heap _
    rw [e163]
    exact ⟨rfl, N163⟩
  · show Go p e below _ (T73.setTop (mkF m 162 #[.val (.int p0), .val (.ref b7), .val (.int (18 : Int32)), .unset, .unset] []))
    refine Go.st (V' := T73.setTop (mkF m 164 #[.val (.int p0), .val (.ref b7), .val (.int (18 : Int32)), .unset, .unset] [(.int (18 : Int32)), (.ref b7)])) (fun t k => ?_) ?_
    · refine XS.aloadN X74.here hx rfl (hb hby at_162) rfl rfl ?_
      show Steps p.tables e below (T73.setTop (mkF m 163 #[.val (.int p0), .val (.ref b7), .val (.int (18 : Int32)), .unset, .unset] [(.ref b7)])) _
      refine XS.iloadN X74.here hx rfl (hb hby at_163) rfl  ?_
      show Steps p.tables e below (T73.setTop (mkF m 164 #[.val (.int p0), .val (.ref b7), .val (.int (18 : Int32)), .unset, .unset] [(.int (18 : Int32)), (.ref b7)])) _
      exact k
    obtain ⟨cl164, Ar164, q164, Sz164, Nn164, Ha164, Ga164⟩ := id (V73)
    have hin164 : ¬ ((18 : Int32) < 0 ∨ cl164.slots.size ≤ ((18 : Int32)).toNatClampNeg) := inb_of Sz164 ⟨by decide, by decide⟩
    refine Go.st (V' := T73.setTop (mkF m 167 #[.val (.int p0), .val (.ref b7), .val (.int (18 : Int32)), .val (.ref s_BLOB_KEY), .unset] [(.ref s_BLOB_KEY)])) (fun t k => ?_) ?_
    · show Steps p.tables e below (T73.setTop (mkF m 164 #[.val (.int p0), .val (.ref b7), .val (.int (18 : Int32)), .unset, .unset] [(.int (18 : Int32)), (.ref b7)])) _
      refine X74.aaload hx (j := (18 : Int32)) (v := (.ref s_BLOB_KEY)) (own_eT e73 Ar164) (State.isArrayOf_alike hZ.alike Ar164.2.1) rfl Ar164.2.2 hin164 (Ha164.at hin164 rfl) (g := (mkF m 164 #[.val (.int p0), .val (.ref b7), .val (.int (18 : Int32)), .unset, .unset] [(.int (18 : Int32)), (.ref b7)])) rfl rfl (hb hby at_164) _ ?_
      show Steps p.tables e below (T73.setTop (mkF m 165 #[.val (.int p0), .val (.ref b7), .val (.int (18 : Int32)), .unset, .unset] [(.ref s_BLOB_KEY)])) _
      refine XS.astoreN X74.here hx rfl (hb hby at_165) rfl rfl (l' := #[.val (.int p0), .val (.ref b7), .val (.int (18 : Int32)), .val (.ref s_BLOB_KEY), .unset]) rfl ?_
      show Steps p.tables e below (T73.setTop (mkF m 166 #[.val (.int p0), .val (.ref b7), .val (.int (18 : Int32)), .val (.ref s_BLOB_KEY), .unset] [])) _
      refine XS.aloadN X74.here hx rfl (hb hby at_166) rfl rfl ?_
      show Steps p.tables e below (T73.setTop (mkF m 167 #[.val (.int p0), .val (.ref b7), .val (.int (18 : Int32)), .val (.ref s_BLOB_KEY), .unset] [(.ref s_BLOB_KEY)])) _
      exact k
    obtain ⟨T165, X165, e165, st165⟩ := getS2 X74 hx hZ hown (host := "") (Or.inl (hw _ (List.mem_of_getElem? (i := 16) rfl))) Via.refl e73 (S_TEXT.ext O73.2) (g := (mkF m 167 #[.val (.int p0), .val (.ref b7), .val (.int (18 : Int32)), .val (.ref s_BLOB_KEY), .unset] [(.ref s_BLOB_KEY)])) rfl (hb hby at_167)
    refine Go.st (V' := T165.setTop (mkF m 170 #[.val (.int p0), .val (.ref b7), .val (.int (18 : Int32)), .val (.ref s_BLOB_KEY), .unset] [(.ref s_TEXT), (.ref s_BLOB_KEY)])) (fun t k => st165 t k) ?_
    refine Go.st (V' := T165.setTop (mkF m 174 #[.val (.int p0), .val (.ref b7), .val (.int (18 : Int32)), .val (.ref s_BLOB_KEY), .unset] [(.ref s_BLOB_KEY)])) (fun t k => ?_) ?_
    · refine Jvm.RoadKit.acmp (g := (mkF m 170 #[.val (.int p0), .val (.ref b7), .val (.int (18 : Int32)), .val (.ref s_BLOB_KEY), .unset] [(.ref s_TEXT), (.ref s_BLOB_KEY)])) X165 hx rfl rfl rfl (pc0 := 170) (pc' := 173) (same := false) rfl (hb hby at_170) rfl (decide_eq_false fun q => (Fld.ne (F_BLOB_KEY_ordinal.ext O73.2) (F_TEXT_ordinal.ext O73.2) (by decide)) (Value.ref.inj q)) (by decide) (by decide) ?_
      show Steps p.tables e below (T165.setTop (mkF m 173 #[.val (.int p0), .val (.ref b7), .val (.int (18 : Int32)), .val (.ref s_BLOB_KEY), .unset] [])) _
      refine XS.aloadN X165.here hx rfl (hb hby at_173) rfl rfl ?_
      show Steps p.tables e below (T165.setTop (mkF m 174 #[.val (.int p0), .val (.ref b7), .val (.int (18 : Int32)), .val (.ref s_BLOB_KEY), .unset] [(.ref s_BLOB_KEY)])) _
      exact k
    obtain ⟨T166, X166, e166, st166⟩ := getS2 X165 hx hZ hown (host := "") (Or.inl (hw _ (List.mem_of_getElem? (i := 18) rfl))) Via.refl e165 (S_BLOB.ext O73.2) (g := (mkF m 174 #[.val (.int p0), .val (.ref b7), .val (.int (18 : Int32)), .val (.ref s_BLOB_KEY), .unset] [(.ref s_BLOB_KEY)])) rfl (hb hby at_174)
    refine Go.st (V' := T166.setTop (mkF m 177 #[.val (.int p0), .val (.ref b7), .val (.int (18 : Int32)), .val (.ref s_BLOB_KEY), .unset] [(.ref s_BLOB), (.ref s_BLOB_KEY)])) (fun t k => st166 t k) ?_
    refine Go.st (V' := T166.setTop (mkF m 181 #[.val (.int p0), .val (.ref b7), .val (.int (18 : Int32)), .val (.ref s_BLOB_KEY), .unset] [(.ref s_BLOB_KEY)])) (fun t k => ?_) ?_
    · refine Jvm.RoadKit.acmp (g := (mkF m 177 #[.val (.int p0), .val (.ref b7), .val (.int (18 : Int32)), .val (.ref s_BLOB_KEY), .unset] [(.ref s_BLOB), (.ref s_BLOB_KEY)])) X166 hx rfl rfl rfl (pc0 := 177) (pc' := 180) (same := false) rfl (hb hby at_177) rfl (decide_eq_false fun q => (Fld.ne (F_BLOB_KEY_ordinal.ext O73.2) (F_BLOB_ordinal.ext O73.2) (by decide)) (Value.ref.inj q)) (by decide) (by decide) ?_
      show Steps p.tables e below (T166.setTop (mkF m 180 #[.val (.int p0), .val (.ref b7), .val (.int (18 : Int32)), .val (.ref s_BLOB_KEY), .unset] [])) _
      refine XS.aloadN X166.here hx rfl (hb hby at_180) rfl rfl ?_
      show Steps p.tables e below (T166.setTop (mkF m 181 #[.val (.int p0), .val (.ref b7), .val (.int (18 : Int32)), .val (.ref s_BLOB_KEY), .unset] [(.ref s_BLOB_KEY)])) _
      exact k
    obtain ⟨T167, X167, e167, st167⟩ := getS2 X166 hx hZ hown (host := "") (Or.inl (hw _ (List.mem_of_getElem? (i := 44) rfl))) Via.refl e166 (S_EMBEDDED_ENTITY.ext O73.2) (g := (mkF m 181 #[.val (.int p0), .val (.ref b7), .val (.int (18 : Int32)), .val (.ref s_BLOB_KEY), .unset] [(.ref s_BLOB_KEY)])) rfl (hb hby at_181)
    refine Go.st (V' := T167.setTop (mkF m 184 #[.val (.int p0), .val (.ref b7), .val (.int (18 : Int32)), .val (.ref s_BLOB_KEY), .unset] [(.ref s_EMBEDDED_ENTITY), (.ref s_BLOB_KEY)])) (fun t k => st167 t k) ?_
    refine Go.st (V' := T167.setTop (mkF m 195 #[.val (.int p0), .val (.ref b7), .val (.int (18 : Int32)), .val (.ref s_BLOB_KEY), .val (.int (1 : Int32))] [(.ref s_BLOB_KEY)])) (fun t k => ?_) ?_
    · refine Jvm.RoadKit.acmp (g := (mkF m 184 #[.val (.int p0), .val (.ref b7), .val (.int (18 : Int32)), .val (.ref s_BLOB_KEY), .unset] [(.ref s_EMBEDDED_ENTITY), (.ref s_BLOB_KEY)])) X167 hx rfl rfl rfl (pc0 := 184) (pc' := 187) (same := false) rfl (hb hby at_184) rfl (decide_eq_false fun q => (Fld.ne (F_BLOB_KEY_ordinal.ext O73.2) (F_EMBEDDED_ENTITY_ordinal.ext O73.2) (by decide)) (Value.ref.inj q)) (by decide) (by decide) ?_
      show Steps p.tables e below (T167.setTop (mkF m 187 #[.val (.int p0), .val (.ref b7), .val (.int (18 : Int32)), .val (.ref s_BLOB_KEY), .unset] [])) _
      refine XS.iconst X167.here hx rfl (hb hby at_187) ?_
      show Steps p.tables e below (T167.setTop (mkF m 188 #[.val (.int p0), .val (.ref b7), .val (.int (18 : Int32)), .val (.ref s_BLOB_KEY), .unset] [(.int (1 : Int32))])) _
      refine XS.goto X167.here hx rfl (pc0 := 188) (pc' := 192) rfl (hb hby at_188) (by decide) (by decide) ?_
      show Steps p.tables e below (T167.setTop (mkF m 192 #[.val (.int p0), .val (.ref b7), .val (.int (18 : Int32)), .val (.ref s_BLOB_KEY), .unset] [(.int (1 : Int32))])) _
      refine XS.istore X167.here hx rfl (hb hby at_192) rfl (l' := #[.val (.int p0), .val (.ref b7), .val (.int (18 : Int32)), .val (.ref s_BLOB_KEY), .val (.int (1 : Int32))]) rfl ?_
      show Steps p.tables e below (T167.setTop (mkF m 194 #[.val (.int p0), .val (.ref b7), .val (.int (18 : Int32)), .val (.ref s_BLOB_KEY), .val (.int (1 : Int32))] [])) _
      refine XS.aloadN X167.here hx rfl (hb hby at_194) rfl rfl ?_
      show Steps p.tables e below (T167.setTop (mkF m 195 #[.val (.int p0), .val (.ref b7), .val (.int (18 : Int32)), .val (.ref s_BLOB_KEY), .val (.int (1 : Int32))] [(.ref s_BLOB_KEY)])) _
      exact k
    obtain ⟨cq168, kq168, q168a, q168b, q168c⟩ := isOf hZ e167 (E_BLOB_KEY.ext O73.2)
    obtain ⟨_, _, ⟨T168, L168, k168, n168⟩, -, X168, ⟨Lc168, hQ168, l168, y168, z168⟩, st168⟩ := X167.virtualBack hx (y := (⟨"com/example/rooted_kinds/rootedkinds/model/ValueType", "isIndexed", "()Z"⟩ : MethodName)) (z := (⟨"com/example/rooted_kinds/rootedkinds/model/ValueType", "isIndexed", "()Z"⟩ : MethodName)) hown (mvT hZ (hw _ (List.mem_of_getElem? (i := 49) rfl))) (mvT hZ (hw _ (List.mem_of_getElem? (i := 50) rfl))) (notFace_of_selects (args := #[]) (mvT hZ (hw _ (List.mem_of_getElem? (i := 52) rfl)))) (mvT hZ (hw _ (List.mem_of_getElem? (i := 52) rfl))) (mvT hZ (hw _ (List.mem_of_getElem? (i := 51) rfl))) (by decide) (backOf (W := 0) (rm1r l Z a0 hw [] s_NULL s_LONG s_DOUBLE s_BOOLEAN s_STRING s_DATE s_TEXT s_BLOB s_SHORT_BLOB s_GEO_PT s_POSTAL_ADDRESS s_PHONE_NUMBER s_EMAIL s_IM_HANDLE s_LINK s_CATEGORY s_RATING s_USER s_BLOB_KEY s_KEY s_EMBEDDED_ENTITY s_LIST s_Representation_NULL s_Representation_BOOLEAN s_Representation_STRING s_Representation_DOUBLE s_INT64 s_POINT s_REFERENCE s_Representation_USER HW s_BLOB_KEY s_Representation_STRING h73 n0 O73 (F_BLOB_KEY_representation.ext O73.2)) hZ (hw _ (List.mem_of_getElem? (i := 53) rfl)) (hw _ (List.mem_of_getElem? (i := 3) rfl)) (by decide) (by decide)) q168a q168c (g := (mkF m 195 #[.val (.int p0), .val (.ref b7), .val (.int (18 : Int32)), .val (.ref s_BLOB_KEY), .val (.int (1 : Int32))] [(.ref s_BLOB_KEY)])) rfl (by rw [hml]; rfl) (Steps.refl _) (argsL := []) (rest := []) (lenOf own_pd10 rfl) rfl (by show 2 * 0 + _ ≤ _; exact Nat.le_of_eq rfl) (hb hby at_195) (fun _ _ => ⟨rfl, e167, (by decide : 1 + 0 ≤ _), (by decide : 22 + 0 ≤ _)⟩)
    dsimp only [Pt.U, Pt.locs, Pt.cells, Pt.slots] at X168 l168 y168 z168 st168 hQ168
    subst l168 y168 z168
    obtain ⟨rfl, N168q, e168⟩ := hQ168
    have N168 := Fr.app N74 N168q
    refine Go.st (V' := T168.setTop (mkF m 198 #[.val (.int p0), .val (.ref b7), .val (.int (18 : Int32)), .val (.ref s_BLOB_KEY), .val (.int (1 : Int32))] [(.int (1 : Int32))])) (fun t k => st168.trans k) ?_
    refine Go.st (V' := T168.setTop (mkF m 208 #[.val (.int p0), .val (.ref b7), .val (.int (18 : Int32)), .val (.ref s_BLOB_KEY), .val (.int (1 : Int32))] [(.int (1 : Int32))])) (fun t k => ?_) ?_
    · refine XS.iload X168.here hx rfl (hb hby at_198) rfl  ?_
      show Steps p.tables e below (T168.setTop (mkF m 200 #[.val (.int p0), .val (.ref b7), .val (.int (18 : Int32)), .val (.ref s_BLOB_KEY), .val (.int (1 : Int32))] [(.int (1 : Int32)), (.int (1 : Int32))])) _
      refine XS.icmpNo X168.here hx rfl (hb hby at_200) rfl (teq (by decide : ((1 : Int32) = (1 : Int32)))).2 ?_
      show Steps p.tables e below (T168.setTop (mkF m 203 #[.val (.int p0), .val (.ref b7), .val (.int (18 : Int32)), .val (.ref s_BLOB_KEY), .val (.int (1 : Int32))] [])) _
      refine XS.iconst X168.here hx rfl (hb hby at_203) ?_
      show Steps p.tables e below (T168.setTop (mkF m 204 #[.val (.int p0), .val (.ref b7), .val (.int (18 : Int32)), .val (.ref s_BLOB_KEY), .val (.int (1 : Int32))] [(.int (1 : Int32))])) _
      refine XS.goto X168.here hx rfl (pc0 := 204) (pc' := 208) rfl (hb hby at_204) (by decide) (by decide) ?_
      show Steps p.tables e below (T168.setTop (mkF m 208 #[.val (.int p0), .val (.ref b7), .val (.int (18 : Int32)), .val (.ref s_BLOB_KEY), .val (.int (1 : Int32))] [(.int (1 : Int32))])) _
      exact k
    obtain ⟨fs, hr, hrun, hended, hW, hsame⟩ := X168.leave (v := some (.int (1 : Int32))) (fun h => by rw [Bd.returns] at h; cases h)
    refine Go.mk' ⟨_, _, retN X168 hx (t := .boolean) Bd.returns (by simp) (hb hby at_208) hr, hrun, hended, _, _, rfl, ?_, ⟨_, rfl⟩, hW, hsame.mono (by decide) (by decide)⟩
    show Q0 Z p0 h0 n0 _ T168.heap _
    rw [e168]
    exact ⟨rfl, N168⟩
  · show Go p e below _ (T73.setTop (mkF m 162 #[.val (.int p0), .val (.ref b7), .val (.int (19 : Int32)), .unset, .unset] []))
    refine Go.st (V' := T73.setTop (mkF m 164 #[.val (.int p0), .val (.ref b7), .val (.int (19 : Int32)), .unset, .unset] [(.int (19 : Int32)), (.ref b7)])) (fun t k => ?_) ?_
    · refine XS.aloadN X74.here hx rfl (hb hby at_162) rfl rfl ?_
      show Steps p.tables e below (T73.setTop (mkF m 163 #[.val (.int p0), .val (.ref b7), .val (.int (19 : Int32)), .unset, .unset] [(.ref b7)])) _
      refine XS.iloadN X74.here hx rfl (hb hby at_163) rfl  ?_
      show Steps p.tables e below (T73.setTop (mkF m 164 #[.val (.int p0), .val (.ref b7), .val (.int (19 : Int32)), .unset, .unset] [(.int (19 : Int32)), (.ref b7)])) _
      exact k
    obtain ⟨cl169, Ar169, q169, Sz169, Nn169, Ha169, Ga169⟩ := id (V73)
    have hin169 : ¬ ((19 : Int32) < 0 ∨ cl169.slots.size ≤ ((19 : Int32)).toNatClampNeg) := inb_of Sz169 ⟨by decide, by decide⟩
    refine Go.st (V' := T73.setTop (mkF m 167 #[.val (.int p0), .val (.ref b7), .val (.int (19 : Int32)), .val (.ref s_KEY), .unset] [(.ref s_KEY)])) (fun t k => ?_) ?_
    · show Steps p.tables e below (T73.setTop (mkF m 164 #[.val (.int p0), .val (.ref b7), .val (.int (19 : Int32)), .unset, .unset] [(.int (19 : Int32)), (.ref b7)])) _
      refine X74.aaload hx (j := (19 : Int32)) (v := (.ref s_KEY)) (own_eT e73 Ar169) (State.isArrayOf_alike hZ.alike Ar169.2.1) rfl Ar169.2.2 hin169 (Ha169.at hin169 rfl) (g := (mkF m 164 #[.val (.int p0), .val (.ref b7), .val (.int (19 : Int32)), .unset, .unset] [(.int (19 : Int32)), (.ref b7)])) rfl rfl (hb hby at_164) _ ?_
      show Steps p.tables e below (T73.setTop (mkF m 165 #[.val (.int p0), .val (.ref b7), .val (.int (19 : Int32)), .unset, .unset] [(.ref s_KEY)])) _
      refine XS.astoreN X74.here hx rfl (hb hby at_165) rfl rfl (l' := #[.val (.int p0), .val (.ref b7), .val (.int (19 : Int32)), .val (.ref s_KEY), .unset]) rfl ?_
      show Steps p.tables e below (T73.setTop (mkF m 166 #[.val (.int p0), .val (.ref b7), .val (.int (19 : Int32)), .val (.ref s_KEY), .unset] [])) _
      refine XS.aloadN X74.here hx rfl (hb hby at_166) rfl rfl ?_
      show Steps p.tables e below (T73.setTop (mkF m 167 #[.val (.int p0), .val (.ref b7), .val (.int (19 : Int32)), .val (.ref s_KEY), .unset] [(.ref s_KEY)])) _
      exact k
    obtain ⟨T170, X170, e170, st170⟩ := getS2 X74 hx hZ hown (host := "") (Or.inl (hw _ (List.mem_of_getElem? (i := 16) rfl))) Via.refl e73 (S_TEXT.ext O73.2) (g := (mkF m 167 #[.val (.int p0), .val (.ref b7), .val (.int (19 : Int32)), .val (.ref s_KEY), .unset] [(.ref s_KEY)])) rfl (hb hby at_167)
    refine Go.st (V' := T170.setTop (mkF m 170 #[.val (.int p0), .val (.ref b7), .val (.int (19 : Int32)), .val (.ref s_KEY), .unset] [(.ref s_TEXT), (.ref s_KEY)])) (fun t k => st170 t k) ?_
    refine Go.st (V' := T170.setTop (mkF m 174 #[.val (.int p0), .val (.ref b7), .val (.int (19 : Int32)), .val (.ref s_KEY), .unset] [(.ref s_KEY)])) (fun t k => ?_) ?_
    · refine Jvm.RoadKit.acmp (g := (mkF m 170 #[.val (.int p0), .val (.ref b7), .val (.int (19 : Int32)), .val (.ref s_KEY), .unset] [(.ref s_TEXT), (.ref s_KEY)])) X170 hx rfl rfl rfl (pc0 := 170) (pc' := 173) (same := false) rfl (hb hby at_170) rfl (decide_eq_false fun q => (Fld.ne (F_KEY_ordinal.ext O73.2) (F_TEXT_ordinal.ext O73.2) (by decide)) (Value.ref.inj q)) (by decide) (by decide) ?_
      show Steps p.tables e below (T170.setTop (mkF m 173 #[.val (.int p0), .val (.ref b7), .val (.int (19 : Int32)), .val (.ref s_KEY), .unset] [])) _
      refine XS.aloadN X170.here hx rfl (hb hby at_173) rfl rfl ?_
      show Steps p.tables e below (T170.setTop (mkF m 174 #[.val (.int p0), .val (.ref b7), .val (.int (19 : Int32)), .val (.ref s_KEY), .unset] [(.ref s_KEY)])) _
      exact k
    obtain ⟨T171, X171, e171, st171⟩ := getS2 X170 hx hZ hown (host := "") (Or.inl (hw _ (List.mem_of_getElem? (i := 18) rfl))) Via.refl e170 (S_BLOB.ext O73.2) (g := (mkF m 174 #[.val (.int p0), .val (.ref b7), .val (.int (19 : Int32)), .val (.ref s_KEY), .unset] [(.ref s_KEY)])) rfl (hb hby at_174)
    refine Go.st (V' := T171.setTop (mkF m 177 #[.val (.int p0), .val (.ref b7), .val (.int (19 : Int32)), .val (.ref s_KEY), .unset] [(.ref s_BLOB), (.ref s_KEY)])) (fun t k => st171 t k) ?_
    refine Go.st (V' := T171.setTop (mkF m 181 #[.val (.int p0), .val (.ref b7), .val (.int (19 : Int32)), .val (.ref s_KEY), .unset] [(.ref s_KEY)])) (fun t k => ?_) ?_
    · refine Jvm.RoadKit.acmp (g := (mkF m 177 #[.val (.int p0), .val (.ref b7), .val (.int (19 : Int32)), .val (.ref s_KEY), .unset] [(.ref s_BLOB), (.ref s_KEY)])) X171 hx rfl rfl rfl (pc0 := 177) (pc' := 180) (same := false) rfl (hb hby at_177) rfl (decide_eq_false fun q => (Fld.ne (F_KEY_ordinal.ext O73.2) (F_BLOB_ordinal.ext O73.2) (by decide)) (Value.ref.inj q)) (by decide) (by decide) ?_
      show Steps p.tables e below (T171.setTop (mkF m 180 #[.val (.int p0), .val (.ref b7), .val (.int (19 : Int32)), .val (.ref s_KEY), .unset] [])) _
      refine XS.aloadN X171.here hx rfl (hb hby at_180) rfl rfl ?_
      show Steps p.tables e below (T171.setTop (mkF m 181 #[.val (.int p0), .val (.ref b7), .val (.int (19 : Int32)), .val (.ref s_KEY), .unset] [(.ref s_KEY)])) _
      exact k
    obtain ⟨T172, X172, e172, st172⟩ := getS2 X171 hx hZ hown (host := "") (Or.inl (hw _ (List.mem_of_getElem? (i := 44) rfl))) Via.refl e171 (S_EMBEDDED_ENTITY.ext O73.2) (g := (mkF m 181 #[.val (.int p0), .val (.ref b7), .val (.int (19 : Int32)), .val (.ref s_KEY), .unset] [(.ref s_KEY)])) rfl (hb hby at_181)
    refine Go.st (V' := T172.setTop (mkF m 184 #[.val (.int p0), .val (.ref b7), .val (.int (19 : Int32)), .val (.ref s_KEY), .unset] [(.ref s_EMBEDDED_ENTITY), (.ref s_KEY)])) (fun t k => st172 t k) ?_
    refine Go.st (V' := T172.setTop (mkF m 195 #[.val (.int p0), .val (.ref b7), .val (.int (19 : Int32)), .val (.ref s_KEY), .val (.int (1 : Int32))] [(.ref s_KEY)])) (fun t k => ?_) ?_
    · refine Jvm.RoadKit.acmp (g := (mkF m 184 #[.val (.int p0), .val (.ref b7), .val (.int (19 : Int32)), .val (.ref s_KEY), .unset] [(.ref s_EMBEDDED_ENTITY), (.ref s_KEY)])) X172 hx rfl rfl rfl (pc0 := 184) (pc' := 187) (same := false) rfl (hb hby at_184) rfl (decide_eq_false fun q => (Fld.ne (F_KEY_ordinal.ext O73.2) (F_EMBEDDED_ENTITY_ordinal.ext O73.2) (by decide)) (Value.ref.inj q)) (by decide) (by decide) ?_
      show Steps p.tables e below (T172.setTop (mkF m 187 #[.val (.int p0), .val (.ref b7), .val (.int (19 : Int32)), .val (.ref s_KEY), .unset] [])) _
      refine XS.iconst X172.here hx rfl (hb hby at_187) ?_
      show Steps p.tables e below (T172.setTop (mkF m 188 #[.val (.int p0), .val (.ref b7), .val (.int (19 : Int32)), .val (.ref s_KEY), .unset] [(.int (1 : Int32))])) _
      refine XS.goto X172.here hx rfl (pc0 := 188) (pc' := 192) rfl (hb hby at_188) (by decide) (by decide) ?_
      show Steps p.tables e below (T172.setTop (mkF m 192 #[.val (.int p0), .val (.ref b7), .val (.int (19 : Int32)), .val (.ref s_KEY), .unset] [(.int (1 : Int32))])) _
      refine XS.istore X172.here hx rfl (hb hby at_192) rfl (l' := #[.val (.int p0), .val (.ref b7), .val (.int (19 : Int32)), .val (.ref s_KEY), .val (.int (1 : Int32))]) rfl ?_
      show Steps p.tables e below (T172.setTop (mkF m 194 #[.val (.int p0), .val (.ref b7), .val (.int (19 : Int32)), .val (.ref s_KEY), .val (.int (1 : Int32))] [])) _
      refine XS.aloadN X172.here hx rfl (hb hby at_194) rfl rfl ?_
      show Steps p.tables e below (T172.setTop (mkF m 195 #[.val (.int p0), .val (.ref b7), .val (.int (19 : Int32)), .val (.ref s_KEY), .val (.int (1 : Int32))] [(.ref s_KEY)])) _
      exact k
    obtain ⟨cq173, kq173, q173a, q173b, q173c⟩ := isOf hZ e172 (E_KEY.ext O73.2)
    obtain ⟨_, _, ⟨T173, L173, k173, n173⟩, -, X173, ⟨Lc173, hQ173, l173, y173, z173⟩, st173⟩ := X172.virtualBack hx (y := (⟨"com/example/rooted_kinds/rootedkinds/model/ValueType", "isIndexed", "()Z"⟩ : MethodName)) (z := (⟨"com/example/rooted_kinds/rootedkinds/model/ValueType", "isIndexed", "()Z"⟩ : MethodName)) hown (mvT hZ (hw _ (List.mem_of_getElem? (i := 49) rfl))) (mvT hZ (hw _ (List.mem_of_getElem? (i := 50) rfl))) (notFace_of_selects (args := #[]) (mvT hZ (hw _ (List.mem_of_getElem? (i := 52) rfl)))) (mvT hZ (hw _ (List.mem_of_getElem? (i := 52) rfl))) (mvT hZ (hw _ (List.mem_of_getElem? (i := 51) rfl))) (by decide) (backOf (W := 0) (rm1r l Z a0 hw [] s_NULL s_LONG s_DOUBLE s_BOOLEAN s_STRING s_DATE s_TEXT s_BLOB s_SHORT_BLOB s_GEO_PT s_POSTAL_ADDRESS s_PHONE_NUMBER s_EMAIL s_IM_HANDLE s_LINK s_CATEGORY s_RATING s_USER s_BLOB_KEY s_KEY s_EMBEDDED_ENTITY s_LIST s_Representation_NULL s_Representation_BOOLEAN s_Representation_STRING s_Representation_DOUBLE s_INT64 s_POINT s_REFERENCE s_Representation_USER HW s_KEY s_REFERENCE h73 n0 O73 (F_KEY_representation.ext O73.2)) hZ (hw _ (List.mem_of_getElem? (i := 53) rfl)) (hw _ (List.mem_of_getElem? (i := 3) rfl)) (by decide) (by decide)) q173a q173c (g := (mkF m 195 #[.val (.int p0), .val (.ref b7), .val (.int (19 : Int32)), .val (.ref s_KEY), .val (.int (1 : Int32))] [(.ref s_KEY)])) rfl (by rw [hml]; rfl) (Steps.refl _) (argsL := []) (rest := []) (lenOf own_pd10 rfl) rfl (by show 2 * 0 + _ ≤ _; exact Nat.le_of_eq rfl) (hb hby at_195) (fun _ _ => ⟨rfl, e172, (by decide : 1 + 0 ≤ _), (by decide : 22 + 0 ≤ _)⟩)
    dsimp only [Pt.U, Pt.locs, Pt.cells, Pt.slots] at X173 l173 y173 z173 st173 hQ173
    subst l173 y173 z173
    obtain ⟨rfl, N173q, e173⟩ := hQ173
    have N173 := Fr.app N74 N173q
    refine Go.st (V' := T173.setTop (mkF m 198 #[.val (.int p0), .val (.ref b7), .val (.int (19 : Int32)), .val (.ref s_KEY), .val (.int (1 : Int32))] [(.int (1 : Int32))])) (fun t k => st173.trans k) ?_
    refine Go.st (V' := T173.setTop (mkF m 208 #[.val (.int p0), .val (.ref b7), .val (.int (19 : Int32)), .val (.ref s_KEY), .val (.int (1 : Int32))] [(.int (1 : Int32))])) (fun t k => ?_) ?_
    · refine XS.iload X173.here hx rfl (hb hby at_198) rfl  ?_
      show Steps p.tables e below (T173.setTop (mkF m 200 #[.val (.int p0), .val (.ref b7), .val (.int (19 : Int32)), .val (.ref s_KEY), .val (.int (1 : Int32))] [(.int (1 : Int32)), (.int (1 : Int32))])) _
      refine XS.icmpNo X173.here hx rfl (hb hby at_200) rfl (teq (by decide : ((1 : Int32) = (1 : Int32)))).2 ?_
      show Steps p.tables e below (T173.setTop (mkF m 203 #[.val (.int p0), .val (.ref b7), .val (.int (19 : Int32)), .val (.ref s_KEY), .val (.int (1 : Int32))] [])) _
      refine XS.iconst X173.here hx rfl (hb hby at_203) ?_
      show Steps p.tables e below (T173.setTop (mkF m 204 #[.val (.int p0), .val (.ref b7), .val (.int (19 : Int32)), .val (.ref s_KEY), .val (.int (1 : Int32))] [(.int (1 : Int32))])) _
      refine XS.goto X173.here hx rfl (pc0 := 204) (pc' := 208) rfl (hb hby at_204) (by decide) (by decide) ?_
      show Steps p.tables e below (T173.setTop (mkF m 208 #[.val (.int p0), .val (.ref b7), .val (.int (19 : Int32)), .val (.ref s_KEY), .val (.int (1 : Int32))] [(.int (1 : Int32))])) _
      exact k
    obtain ⟨fs, hr, hrun, hended, hW, hsame⟩ := X173.leave (v := some (.int (1 : Int32))) (fun h => by rw [Bd.returns] at h; cases h)
    refine Go.mk' ⟨_, _, retN X173 hx (t := .boolean) Bd.returns (by simp) (hb hby at_208) hr, hrun, hended, _, _, rfl, ?_, ⟨_, rfl⟩, hW, hsame.mono (by decide) (by decide)⟩
    show Q0 Z p0 h0 n0 _ T173.heap _
    rw [e173]
    exact ⟨rfl, N173⟩
  · show Go p e below _ (T73.setTop (mkF m 162 #[.val (.int p0), .val (.ref b7), .val (.int (20 : Int32)), .unset, .unset] []))
    refine Go.st (V' := T73.setTop (mkF m 164 #[.val (.int p0), .val (.ref b7), .val (.int (20 : Int32)), .unset, .unset] [(.int (20 : Int32)), (.ref b7)])) (fun t k => ?_) ?_
    · refine XS.aloadN X74.here hx rfl (hb hby at_162) rfl rfl ?_
      show Steps p.tables e below (T73.setTop (mkF m 163 #[.val (.int p0), .val (.ref b7), .val (.int (20 : Int32)), .unset, .unset] [(.ref b7)])) _
      refine XS.iloadN X74.here hx rfl (hb hby at_163) rfl  ?_
      show Steps p.tables e below (T73.setTop (mkF m 164 #[.val (.int p0), .val (.ref b7), .val (.int (20 : Int32)), .unset, .unset] [(.int (20 : Int32)), (.ref b7)])) _
      exact k
    obtain ⟨cl174, Ar174, q174, Sz174, Nn174, Ha174, Ga174⟩ := id (V73)
    have hin174 : ¬ ((20 : Int32) < 0 ∨ cl174.slots.size ≤ ((20 : Int32)).toNatClampNeg) := inb_of Sz174 ⟨by decide, by decide⟩
    refine Go.st (V' := T73.setTop (mkF m 167 #[.val (.int p0), .val (.ref b7), .val (.int (20 : Int32)), .val (.ref s_EMBEDDED_ENTITY), .unset] [(.ref s_EMBEDDED_ENTITY)])) (fun t k => ?_) ?_
    · show Steps p.tables e below (T73.setTop (mkF m 164 #[.val (.int p0), .val (.ref b7), .val (.int (20 : Int32)), .unset, .unset] [(.int (20 : Int32)), (.ref b7)])) _
      refine X74.aaload hx (j := (20 : Int32)) (v := (.ref s_EMBEDDED_ENTITY)) (own_eT e73 Ar174) (State.isArrayOf_alike hZ.alike Ar174.2.1) rfl Ar174.2.2 hin174 (Ha174.at hin174 rfl) (g := (mkF m 164 #[.val (.int p0), .val (.ref b7), .val (.int (20 : Int32)), .unset, .unset] [(.int (20 : Int32)), (.ref b7)])) rfl rfl (hb hby at_164) _ ?_
      show Steps p.tables e below (T73.setTop (mkF m 165 #[.val (.int p0), .val (.ref b7), .val (.int (20 : Int32)), .unset, .unset] [(.ref s_EMBEDDED_ENTITY)])) _
      refine XS.astoreN X74.here hx rfl (hb hby at_165) rfl rfl (l' := #[.val (.int p0), .val (.ref b7), .val (.int (20 : Int32)), .val (.ref s_EMBEDDED_ENTITY), .unset]) rfl ?_
      show Steps p.tables e below (T73.setTop (mkF m 166 #[.val (.int p0), .val (.ref b7), .val (.int (20 : Int32)), .val (.ref s_EMBEDDED_ENTITY), .unset] [])) _
      refine XS.aloadN X74.here hx rfl (hb hby at_166) rfl rfl ?_
      show Steps p.tables e below (T73.setTop (mkF m 167 #[.val (.int p0), .val (.ref b7), .val (.int (20 : Int32)), .val (.ref s_EMBEDDED_ENTITY), .unset] [(.ref s_EMBEDDED_ENTITY)])) _
      exact k
    obtain ⟨T175, X175, e175, st175⟩ := getS2 X74 hx hZ hown (host := "") (Or.inl (hw _ (List.mem_of_getElem? (i := 16) rfl))) Via.refl e73 (S_TEXT.ext O73.2) (g := (mkF m 167 #[.val (.int p0), .val (.ref b7), .val (.int (20 : Int32)), .val (.ref s_EMBEDDED_ENTITY), .unset] [(.ref s_EMBEDDED_ENTITY)])) rfl (hb hby at_167)
    refine Go.st (V' := T175.setTop (mkF m 170 #[.val (.int p0), .val (.ref b7), .val (.int (20 : Int32)), .val (.ref s_EMBEDDED_ENTITY), .unset] [(.ref s_TEXT), (.ref s_EMBEDDED_ENTITY)])) (fun t k => st175 t k) ?_
    refine Go.st (V' := T175.setTop (mkF m 174 #[.val (.int p0), .val (.ref b7), .val (.int (20 : Int32)), .val (.ref s_EMBEDDED_ENTITY), .unset] [(.ref s_EMBEDDED_ENTITY)])) (fun t k => ?_) ?_
    · refine Jvm.RoadKit.acmp (g := (mkF m 170 #[.val (.int p0), .val (.ref b7), .val (.int (20 : Int32)), .val (.ref s_EMBEDDED_ENTITY), .unset] [(.ref s_TEXT), (.ref s_EMBEDDED_ENTITY)])) X175 hx rfl rfl rfl (pc0 := 170) (pc' := 173) (same := false) rfl (hb hby at_170) rfl (decide_eq_false fun q => (Fld.ne (F_EMBEDDED_ENTITY_ordinal.ext O73.2) (F_TEXT_ordinal.ext O73.2) (by decide)) (Value.ref.inj q)) (by decide) (by decide) ?_
      show Steps p.tables e below (T175.setTop (mkF m 173 #[.val (.int p0), .val (.ref b7), .val (.int (20 : Int32)), .val (.ref s_EMBEDDED_ENTITY), .unset] [])) _
      refine XS.aloadN X175.here hx rfl (hb hby at_173) rfl rfl ?_
      show Steps p.tables e below (T175.setTop (mkF m 174 #[.val (.int p0), .val (.ref b7), .val (.int (20 : Int32)), .val (.ref s_EMBEDDED_ENTITY), .unset] [(.ref s_EMBEDDED_ENTITY)])) _
      exact k
    obtain ⟨T176, X176, e176, st176⟩ := getS2 X175 hx hZ hown (host := "") (Or.inl (hw _ (List.mem_of_getElem? (i := 18) rfl))) Via.refl e175 (S_BLOB.ext O73.2) (g := (mkF m 174 #[.val (.int p0), .val (.ref b7), .val (.int (20 : Int32)), .val (.ref s_EMBEDDED_ENTITY), .unset] [(.ref s_EMBEDDED_ENTITY)])) rfl (hb hby at_174)
    refine Go.st (V' := T176.setTop (mkF m 177 #[.val (.int p0), .val (.ref b7), .val (.int (20 : Int32)), .val (.ref s_EMBEDDED_ENTITY), .unset] [(.ref s_BLOB), (.ref s_EMBEDDED_ENTITY)])) (fun t k => st176 t k) ?_
    refine Go.st (V' := T176.setTop (mkF m 181 #[.val (.int p0), .val (.ref b7), .val (.int (20 : Int32)), .val (.ref s_EMBEDDED_ENTITY), .unset] [(.ref s_EMBEDDED_ENTITY)])) (fun t k => ?_) ?_
    · refine Jvm.RoadKit.acmp (g := (mkF m 177 #[.val (.int p0), .val (.ref b7), .val (.int (20 : Int32)), .val (.ref s_EMBEDDED_ENTITY), .unset] [(.ref s_BLOB), (.ref s_EMBEDDED_ENTITY)])) X176 hx rfl rfl rfl (pc0 := 177) (pc' := 180) (same := false) rfl (hb hby at_177) rfl (decide_eq_false fun q => (Fld.ne (F_EMBEDDED_ENTITY_ordinal.ext O73.2) (F_BLOB_ordinal.ext O73.2) (by decide)) (Value.ref.inj q)) (by decide) (by decide) ?_
      show Steps p.tables e below (T176.setTop (mkF m 180 #[.val (.int p0), .val (.ref b7), .val (.int (20 : Int32)), .val (.ref s_EMBEDDED_ENTITY), .unset] [])) _
      refine XS.aloadN X176.here hx rfl (hb hby at_180) rfl rfl ?_
      show Steps p.tables e below (T176.setTop (mkF m 181 #[.val (.int p0), .val (.ref b7), .val (.int (20 : Int32)), .val (.ref s_EMBEDDED_ENTITY), .unset] [(.ref s_EMBEDDED_ENTITY)])) _
      exact k
    obtain ⟨T177, X177, e177, st177⟩ := getS2 X176 hx hZ hown (host := "") (Or.inl (hw _ (List.mem_of_getElem? (i := 44) rfl))) Via.refl e176 (S_EMBEDDED_ENTITY.ext O73.2) (g := (mkF m 181 #[.val (.int p0), .val (.ref b7), .val (.int (20 : Int32)), .val (.ref s_EMBEDDED_ENTITY), .unset] [(.ref s_EMBEDDED_ENTITY)])) rfl (hb hby at_181)
    refine Go.st (V' := T177.setTop (mkF m 184 #[.val (.int p0), .val (.ref b7), .val (.int (20 : Int32)), .val (.ref s_EMBEDDED_ENTITY), .unset] [(.ref s_EMBEDDED_ENTITY), (.ref s_EMBEDDED_ENTITY)])) (fun t k => st177 t k) ?_
    refine Go.st (V' := T177.setTop (mkF m 195 #[.val (.int p0), .val (.ref b7), .val (.int (20 : Int32)), .val (.ref s_EMBEDDED_ENTITY), .val (.int (0 : Int32))] [(.ref s_EMBEDDED_ENTITY)])) (fun t k => ?_) ?_
    · refine Jvm.RoadKit.acmp (g := (mkF m 184 #[.val (.int p0), .val (.ref b7), .val (.int (20 : Int32)), .val (.ref s_EMBEDDED_ENTITY), .unset] [(.ref s_EMBEDDED_ENTITY), (.ref s_EMBEDDED_ENTITY)])) X177 hx rfl rfl rfl (pc0 := 184) (pc' := 191) (same := true) rfl (hb hby at_184) rfl (decide_eq_true (congrArg Value.ref rfl)) (by decide) (by decide) ?_
      show Steps p.tables e below (T177.setTop (mkF m 191 #[.val (.int p0), .val (.ref b7), .val (.int (20 : Int32)), .val (.ref s_EMBEDDED_ENTITY), .unset] [])) _
      refine XS.iconst X177.here hx rfl (hb hby at_191) ?_
      show Steps p.tables e below (T177.setTop (mkF m 192 #[.val (.int p0), .val (.ref b7), .val (.int (20 : Int32)), .val (.ref s_EMBEDDED_ENTITY), .unset] [(.int (0 : Int32))])) _
      refine XS.istore X177.here hx rfl (hb hby at_192) rfl (l' := #[.val (.int p0), .val (.ref b7), .val (.int (20 : Int32)), .val (.ref s_EMBEDDED_ENTITY), .val (.int (0 : Int32))]) rfl ?_
      show Steps p.tables e below (T177.setTop (mkF m 194 #[.val (.int p0), .val (.ref b7), .val (.int (20 : Int32)), .val (.ref s_EMBEDDED_ENTITY), .val (.int (0 : Int32))] [])) _
      refine XS.aloadN X177.here hx rfl (hb hby at_194) rfl rfl ?_
      show Steps p.tables e below (T177.setTop (mkF m 195 #[.val (.int p0), .val (.ref b7), .val (.int (20 : Int32)), .val (.ref s_EMBEDDED_ENTITY), .val (.int (0 : Int32))] [(.ref s_EMBEDDED_ENTITY)])) _
      exact k
    obtain ⟨cq178, kq178, q178a, q178b, q178c⟩ := isOf hZ e177 (E_EMBEDDED_ENTITY.ext O73.2)
    obtain ⟨_, _, ⟨T178, L178, k178, n178⟩, -, X178, ⟨Lc178, hQ178, l178, y178, z178⟩, st178⟩ := X177.virtualBack hx (y := (⟨"com/example/rooted_kinds/rootedkinds/model/ValueType", "isIndexed", "()Z"⟩ : MethodName)) (z := (⟨"com/example/rooted_kinds/rootedkinds/model/ValueType", "isIndexed", "()Z"⟩ : MethodName)) hown (mvT hZ (hw _ (List.mem_of_getElem? (i := 49) rfl))) (mvT hZ (hw _ (List.mem_of_getElem? (i := 50) rfl))) (notFace_of_selects (args := #[]) (mvT hZ (hw _ (List.mem_of_getElem? (i := 52) rfl)))) (mvT hZ (hw _ (List.mem_of_getElem? (i := 52) rfl))) (mvT hZ (hw _ (List.mem_of_getElem? (i := 51) rfl))) (by decide) (backOf (W := 0) (rm1n l Z a0 hw [] s_NULL s_LONG s_DOUBLE s_BOOLEAN s_STRING s_DATE s_TEXT s_BLOB s_SHORT_BLOB s_GEO_PT s_POSTAL_ADDRESS s_PHONE_NUMBER s_EMAIL s_IM_HANDLE s_LINK s_CATEGORY s_RATING s_USER s_BLOB_KEY s_KEY s_EMBEDDED_ENTITY s_LIST s_Representation_NULL s_Representation_BOOLEAN s_Representation_STRING s_Representation_DOUBLE s_INT64 s_POINT s_REFERENCE s_Representation_USER HW s_EMBEDDED_ENTITY h73 n0 O73 (F_EMBEDDED_ENTITY_representation.ext O73.2)) hZ (hw _ (List.mem_of_getElem? (i := 53) rfl)) (hw _ (List.mem_of_getElem? (i := 3) rfl)) (by decide) (by decide)) q178a q178c (g := (mkF m 195 #[.val (.int p0), .val (.ref b7), .val (.int (20 : Int32)), .val (.ref s_EMBEDDED_ENTITY), .val (.int (0 : Int32))] [(.ref s_EMBEDDED_ENTITY)])) rfl (by rw [hml]; rfl) (Steps.refl _) (argsL := []) (rest := []) (lenOf own_pd10 rfl) rfl (by show 2 * 0 + _ ≤ _; exact Nat.le_of_eq rfl) (hb hby at_195) (fun _ _ => ⟨rfl, e177, (by decide : 1 + 0 ≤ _), (by decide : 22 + 0 ≤ _)⟩)
    dsimp only [Pt.U, Pt.locs, Pt.cells, Pt.slots] at X178 l178 y178 z178 st178 hQ178
    subst l178 y178 z178
    obtain ⟨rfl, N178q, e178⟩ := hQ178
    have N178 := Fr.app N74 N178q
    refine Go.st (V' := T178.setTop (mkF m 198 #[.val (.int p0), .val (.ref b7), .val (.int (20 : Int32)), .val (.ref s_EMBEDDED_ENTITY), .val (.int (0 : Int32))] [(.int (f1n s_LIST s_EMBEDDED_ENTITY))])) (fun t k => st178.trans k) ?_
    have r179 : (f1n s_LIST s_EMBEDDED_ENTITY) = (0 : Int32) := by rw [f1n, if_neg (Fld.ne (F_EMBEDDED_ENTITY_ordinal.ext O73.2) (F_LIST_ordinal.ext O73.2) (by decide))]
    rw [r179]
    refine Go.st (V' := T178.setTop (mkF m 208 #[.val (.int p0), .val (.ref b7), .val (.int (20 : Int32)), .val (.ref s_EMBEDDED_ENTITY), .val (.int (0 : Int32))] [(.int (1 : Int32))])) (fun t k => ?_) ?_
    · refine XS.iload X178.here hx rfl (hb hby at_198) rfl  ?_
      show Steps p.tables e below (T178.setTop (mkF m 200 #[.val (.int p0), .val (.ref b7), .val (.int (20 : Int32)), .val (.ref s_EMBEDDED_ENTITY), .val (.int (0 : Int32))] [(.int (0 : Int32)), (.int (0 : Int32))])) _
      refine XS.icmpNo X178.here hx rfl (hb hby at_200) rfl (teq (by decide : ((0 : Int32) = (0 : Int32)))).2 ?_
      show Steps p.tables e below (T178.setTop (mkF m 203 #[.val (.int p0), .val (.ref b7), .val (.int (20 : Int32)), .val (.ref s_EMBEDDED_ENTITY), .val (.int (0 : Int32))] [])) _
      refine XS.iconst X178.here hx rfl (hb hby at_203) ?_
      show Steps p.tables e below (T178.setTop (mkF m 204 #[.val (.int p0), .val (.ref b7), .val (.int (20 : Int32)), .val (.ref s_EMBEDDED_ENTITY), .val (.int (0 : Int32))] [(.int (1 : Int32))])) _
      refine XS.goto X178.here hx rfl (pc0 := 204) (pc' := 208) rfl (hb hby at_204) (by decide) (by decide) ?_
      show Steps p.tables e below (T178.setTop (mkF m 208 #[.val (.int p0), .val (.ref b7), .val (.int (20 : Int32)), .val (.ref s_EMBEDDED_ENTITY), .val (.int (0 : Int32))] [(.int (1 : Int32))])) _
      exact k
    obtain ⟨fs, hr, hrun, hended, hW, hsame⟩ := X178.leave (v := some (.int (1 : Int32))) (fun h => by rw [Bd.returns] at h; cases h)
    refine Go.mk' ⟨_, _, retN X178 hx (t := .boolean) Bd.returns (by simp) (hb hby at_208) hr, hrun, hended, _, _, rfl, ?_, ⟨_, rfl⟩, hW, hsame.mono (by decide) (by decide)⟩
    show Q0 Z p0 h0 n0 _ T178.heap _
    rw [e178]
    exact ⟨rfl, N178⟩
  · show Go p e below _ (T73.setTop (mkF m 162 #[.val (.int p0), .val (.ref b7), .val (.int (21 : Int32)), .unset, .unset] []))
    refine Go.st (V' := T73.setTop (mkF m 164 #[.val (.int p0), .val (.ref b7), .val (.int (21 : Int32)), .unset, .unset] [(.int (21 : Int32)), (.ref b7)])) (fun t k => ?_) ?_
    · refine XS.aloadN X74.here hx rfl (hb hby at_162) rfl rfl ?_
      show Steps p.tables e below (T73.setTop (mkF m 163 #[.val (.int p0), .val (.ref b7), .val (.int (21 : Int32)), .unset, .unset] [(.ref b7)])) _
      refine XS.iloadN X74.here hx rfl (hb hby at_163) rfl  ?_
      show Steps p.tables e below (T73.setTop (mkF m 164 #[.val (.int p0), .val (.ref b7), .val (.int (21 : Int32)), .unset, .unset] [(.int (21 : Int32)), (.ref b7)])) _
      exact k
    obtain ⟨cl180, Ar180, q180, Sz180, Nn180, Ha180, Ga180⟩ := id (V73)
    have hin180 : ¬ ((21 : Int32) < 0 ∨ cl180.slots.size ≤ ((21 : Int32)).toNatClampNeg) := inb_of Sz180 ⟨by decide, by decide⟩
    refine Go.st (V' := T73.setTop (mkF m 167 #[.val (.int p0), .val (.ref b7), .val (.int (21 : Int32)), .val (.ref s_LIST), .unset] [(.ref s_LIST)])) (fun t k => ?_) ?_
    · show Steps p.tables e below (T73.setTop (mkF m 164 #[.val (.int p0), .val (.ref b7), .val (.int (21 : Int32)), .unset, .unset] [(.int (21 : Int32)), (.ref b7)])) _
      refine X74.aaload hx (j := (21 : Int32)) (v := (.ref s_LIST)) (own_eT e73 Ar180) (State.isArrayOf_alike hZ.alike Ar180.2.1) rfl Ar180.2.2 hin180 (Ha180.at hin180 rfl) (g := (mkF m 164 #[.val (.int p0), .val (.ref b7), .val (.int (21 : Int32)), .unset, .unset] [(.int (21 : Int32)), (.ref b7)])) rfl rfl (hb hby at_164) _ ?_
      show Steps p.tables e below (T73.setTop (mkF m 165 #[.val (.int p0), .val (.ref b7), .val (.int (21 : Int32)), .unset, .unset] [(.ref s_LIST)])) _
      refine XS.astoreN X74.here hx rfl (hb hby at_165) rfl rfl (l' := #[.val (.int p0), .val (.ref b7), .val (.int (21 : Int32)), .val (.ref s_LIST), .unset]) rfl ?_
      show Steps p.tables e below (T73.setTop (mkF m 166 #[.val (.int p0), .val (.ref b7), .val (.int (21 : Int32)), .val (.ref s_LIST), .unset] [])) _
      refine XS.aloadN X74.here hx rfl (hb hby at_166) rfl rfl ?_
      show Steps p.tables e below (T73.setTop (mkF m 167 #[.val (.int p0), .val (.ref b7), .val (.int (21 : Int32)), .val (.ref s_LIST), .unset] [(.ref s_LIST)])) _
      exact k
    obtain ⟨T181, X181, e181, st181⟩ := getS2 X74 hx hZ hown (host := "") (Or.inl (hw _ (List.mem_of_getElem? (i := 16) rfl))) Via.refl e73 (S_TEXT.ext O73.2) (g := (mkF m 167 #[.val (.int p0), .val (.ref b7), .val (.int (21 : Int32)), .val (.ref s_LIST), .unset] [(.ref s_LIST)])) rfl (hb hby at_167)
    refine Go.st (V' := T181.setTop (mkF m 170 #[.val (.int p0), .val (.ref b7), .val (.int (21 : Int32)), .val (.ref s_LIST), .unset] [(.ref s_TEXT), (.ref s_LIST)])) (fun t k => st181 t k) ?_
    refine Go.st (V' := T181.setTop (mkF m 174 #[.val (.int p0), .val (.ref b7), .val (.int (21 : Int32)), .val (.ref s_LIST), .unset] [(.ref s_LIST)])) (fun t k => ?_) ?_
    · refine Jvm.RoadKit.acmp (g := (mkF m 170 #[.val (.int p0), .val (.ref b7), .val (.int (21 : Int32)), .val (.ref s_LIST), .unset] [(.ref s_TEXT), (.ref s_LIST)])) X181 hx rfl rfl rfl (pc0 := 170) (pc' := 173) (same := false) rfl (hb hby at_170) rfl (decide_eq_false fun q => (Fld.ne (F_LIST_ordinal.ext O73.2) (F_TEXT_ordinal.ext O73.2) (by decide)) (Value.ref.inj q)) (by decide) (by decide) ?_
      show Steps p.tables e below (T181.setTop (mkF m 173 #[.val (.int p0), .val (.ref b7), .val (.int (21 : Int32)), .val (.ref s_LIST), .unset] [])) _
      refine XS.aloadN X181.here hx rfl (hb hby at_173) rfl rfl ?_
      show Steps p.tables e below (T181.setTop (mkF m 174 #[.val (.int p0), .val (.ref b7), .val (.int (21 : Int32)), .val (.ref s_LIST), .unset] [(.ref s_LIST)])) _
      exact k
    obtain ⟨T182, X182, e182, st182⟩ := getS2 X181 hx hZ hown (host := "") (Or.inl (hw _ (List.mem_of_getElem? (i := 18) rfl))) Via.refl e181 (S_BLOB.ext O73.2) (g := (mkF m 174 #[.val (.int p0), .val (.ref b7), .val (.int (21 : Int32)), .val (.ref s_LIST), .unset] [(.ref s_LIST)])) rfl (hb hby at_174)
    refine Go.st (V' := T182.setTop (mkF m 177 #[.val (.int p0), .val (.ref b7), .val (.int (21 : Int32)), .val (.ref s_LIST), .unset] [(.ref s_BLOB), (.ref s_LIST)])) (fun t k => st182 t k) ?_
    refine Go.st (V' := T182.setTop (mkF m 181 #[.val (.int p0), .val (.ref b7), .val (.int (21 : Int32)), .val (.ref s_LIST), .unset] [(.ref s_LIST)])) (fun t k => ?_) ?_
    · refine Jvm.RoadKit.acmp (g := (mkF m 177 #[.val (.int p0), .val (.ref b7), .val (.int (21 : Int32)), .val (.ref s_LIST), .unset] [(.ref s_BLOB), (.ref s_LIST)])) X182 hx rfl rfl rfl (pc0 := 177) (pc' := 180) (same := false) rfl (hb hby at_177) rfl (decide_eq_false fun q => (Fld.ne (F_LIST_ordinal.ext O73.2) (F_BLOB_ordinal.ext O73.2) (by decide)) (Value.ref.inj q)) (by decide) (by decide) ?_
      show Steps p.tables e below (T182.setTop (mkF m 180 #[.val (.int p0), .val (.ref b7), .val (.int (21 : Int32)), .val (.ref s_LIST), .unset] [])) _
      refine XS.aloadN X182.here hx rfl (hb hby at_180) rfl rfl ?_
      show Steps p.tables e below (T182.setTop (mkF m 181 #[.val (.int p0), .val (.ref b7), .val (.int (21 : Int32)), .val (.ref s_LIST), .unset] [(.ref s_LIST)])) _
      exact k
    obtain ⟨T183, X183, e183, st183⟩ := getS2 X182 hx hZ hown (host := "") (Or.inl (hw _ (List.mem_of_getElem? (i := 44) rfl))) Via.refl e182 (S_EMBEDDED_ENTITY.ext O73.2) (g := (mkF m 181 #[.val (.int p0), .val (.ref b7), .val (.int (21 : Int32)), .val (.ref s_LIST), .unset] [(.ref s_LIST)])) rfl (hb hby at_181)
    refine Go.st (V' := T183.setTop (mkF m 184 #[.val (.int p0), .val (.ref b7), .val (.int (21 : Int32)), .val (.ref s_LIST), .unset] [(.ref s_EMBEDDED_ENTITY), (.ref s_LIST)])) (fun t k => st183 t k) ?_
    refine Go.st (V' := T183.setTop (mkF m 195 #[.val (.int p0), .val (.ref b7), .val (.int (21 : Int32)), .val (.ref s_LIST), .val (.int (1 : Int32))] [(.ref s_LIST)])) (fun t k => ?_) ?_
    · refine Jvm.RoadKit.acmp (g := (mkF m 184 #[.val (.int p0), .val (.ref b7), .val (.int (21 : Int32)), .val (.ref s_LIST), .unset] [(.ref s_EMBEDDED_ENTITY), (.ref s_LIST)])) X183 hx rfl rfl rfl (pc0 := 184) (pc' := 187) (same := false) rfl (hb hby at_184) rfl (decide_eq_false fun q => (Fld.ne (F_LIST_ordinal.ext O73.2) (F_EMBEDDED_ENTITY_ordinal.ext O73.2) (by decide)) (Value.ref.inj q)) (by decide) (by decide) ?_
      show Steps p.tables e below (T183.setTop (mkF m 187 #[.val (.int p0), .val (.ref b7), .val (.int (21 : Int32)), .val (.ref s_LIST), .unset] [])) _
      refine XS.iconst X183.here hx rfl (hb hby at_187) ?_
      show Steps p.tables e below (T183.setTop (mkF m 188 #[.val (.int p0), .val (.ref b7), .val (.int (21 : Int32)), .val (.ref s_LIST), .unset] [(.int (1 : Int32))])) _
      refine XS.goto X183.here hx rfl (pc0 := 188) (pc' := 192) rfl (hb hby at_188) (by decide) (by decide) ?_
      show Steps p.tables e below (T183.setTop (mkF m 192 #[.val (.int p0), .val (.ref b7), .val (.int (21 : Int32)), .val (.ref s_LIST), .unset] [(.int (1 : Int32))])) _
      refine XS.istore X183.here hx rfl (hb hby at_192) rfl (l' := #[.val (.int p0), .val (.ref b7), .val (.int (21 : Int32)), .val (.ref s_LIST), .val (.int (1 : Int32))]) rfl ?_
      show Steps p.tables e below (T183.setTop (mkF m 194 #[.val (.int p0), .val (.ref b7), .val (.int (21 : Int32)), .val (.ref s_LIST), .val (.int (1 : Int32))] [])) _
      refine XS.aloadN X183.here hx rfl (hb hby at_194) rfl rfl ?_
      show Steps p.tables e below (T183.setTop (mkF m 195 #[.val (.int p0), .val (.ref b7), .val (.int (21 : Int32)), .val (.ref s_LIST), .val (.int (1 : Int32))] [(.ref s_LIST)])) _
      exact k
    obtain ⟨cq184, kq184, q184a, q184b, q184c⟩ := isOf hZ e183 (E_LIST.ext O73.2)
    obtain ⟨_, _, ⟨T184, L184, k184, n184⟩, -, X184, ⟨Lc184, hQ184, l184, y184, z184⟩, st184⟩ := X183.virtualBack hx (y := (⟨"com/example/rooted_kinds/rootedkinds/model/ValueType", "isIndexed", "()Z"⟩ : MethodName)) (z := (⟨"com/example/rooted_kinds/rootedkinds/model/ValueType", "isIndexed", "()Z"⟩ : MethodName)) hown (mvT hZ (hw _ (List.mem_of_getElem? (i := 49) rfl))) (mvT hZ (hw _ (List.mem_of_getElem? (i := 50) rfl))) (notFace_of_selects (args := #[]) (mvT hZ (hw _ (List.mem_of_getElem? (i := 52) rfl)))) (mvT hZ (hw _ (List.mem_of_getElem? (i := 52) rfl))) (mvT hZ (hw _ (List.mem_of_getElem? (i := 51) rfl))) (by decide) (backOf (W := 0) (rm1n l Z a0 hw [] s_NULL s_LONG s_DOUBLE s_BOOLEAN s_STRING s_DATE s_TEXT s_BLOB s_SHORT_BLOB s_GEO_PT s_POSTAL_ADDRESS s_PHONE_NUMBER s_EMAIL s_IM_HANDLE s_LINK s_CATEGORY s_RATING s_USER s_BLOB_KEY s_KEY s_EMBEDDED_ENTITY s_LIST s_Representation_NULL s_Representation_BOOLEAN s_Representation_STRING s_Representation_DOUBLE s_INT64 s_POINT s_REFERENCE s_Representation_USER HW s_LIST h73 n0 O73 (F_LIST_representation.ext O73.2)) hZ (hw _ (List.mem_of_getElem? (i := 53) rfl)) (hw _ (List.mem_of_getElem? (i := 3) rfl)) (by decide) (by decide)) q184a q184c (g := (mkF m 195 #[.val (.int p0), .val (.ref b7), .val (.int (21 : Int32)), .val (.ref s_LIST), .val (.int (1 : Int32))] [(.ref s_LIST)])) rfl (by rw [hml]; rfl) (Steps.refl _) (argsL := []) (rest := []) (lenOf own_pd10 rfl) rfl (by show 2 * 0 + _ ≤ _; exact Nat.le_of_eq rfl) (hb hby at_195) (fun _ _ => ⟨rfl, e183, (by decide : 1 + 0 ≤ _), (by decide : 22 + 0 ≤ _)⟩)
    dsimp only [Pt.U, Pt.locs, Pt.cells, Pt.slots] at X184 l184 y184 z184 st184 hQ184
    subst l184 y184 z184
    obtain ⟨rfl, N184q, e184⟩ := hQ184
    have N184 := Fr.app N74 N184q
    refine Go.st (V' := T184.setTop (mkF m 198 #[.val (.int p0), .val (.ref b7), .val (.int (21 : Int32)), .val (.ref s_LIST), .val (.int (1 : Int32))] [(.int (f1n s_LIST s_LIST))])) (fun t k => st184.trans k) ?_
    have r185 : (f1n s_LIST s_LIST) = (1 : Int32) := by rw [f1n, if_pos (rfl : s_LIST = s_LIST)]
    rw [r185]
    refine Go.st (V' := T184.setTop (mkF m 208 #[.val (.int p0), .val (.ref b7), .val (.int (21 : Int32)), .val (.ref s_LIST), .val (.int (1 : Int32))] [(.int (1 : Int32))])) (fun t k => ?_) ?_
    · refine XS.iload X184.here hx rfl (hb hby at_198) rfl  ?_
      show Steps p.tables e below (T184.setTop (mkF m 200 #[.val (.int p0), .val (.ref b7), .val (.int (21 : Int32)), .val (.ref s_LIST), .val (.int (1 : Int32))] [(.int (1 : Int32)), (.int (1 : Int32))])) _
      refine XS.icmpNo X184.here hx rfl (hb hby at_200) rfl (teq (by decide : ((1 : Int32) = (1 : Int32)))).2 ?_
      show Steps p.tables e below (T184.setTop (mkF m 203 #[.val (.int p0), .val (.ref b7), .val (.int (21 : Int32)), .val (.ref s_LIST), .val (.int (1 : Int32))] [])) _
      refine XS.iconst X184.here hx rfl (hb hby at_203) ?_
      show Steps p.tables e below (T184.setTop (mkF m 204 #[.val (.int p0), .val (.ref b7), .val (.int (21 : Int32)), .val (.ref s_LIST), .val (.int (1 : Int32))] [(.int (1 : Int32))])) _
      refine XS.goto X184.here hx rfl (pc0 := 204) (pc' := 208) rfl (hb hby at_204) (by decide) (by decide) ?_
      show Steps p.tables e below (T184.setTop (mkF m 208 #[.val (.int p0), .val (.ref b7), .val (.int (21 : Int32)), .val (.ref s_LIST), .val (.int (1 : Int32))] [(.int (1 : Int32))])) _
      exact k
    obtain ⟨fs, hr, hrun, hended, hW, hsame⟩ := X184.leave (v := some (.int (1 : Int32))) (fun h => by rw [Bd.returns] at h; cases h)
    refine Go.mk' ⟨_, _, retN X184 hx (t := .boolean) Bd.returns (by simp) (hb hby at_208) hr, hrun, hended, _, _, rfl, ?_, ⟨_, rfl⟩, hW, hsame.mono (by decide) (by decide)⟩
    show Q0 Z p0 h0 n0 _ T184.heap _
    rw [e184]
    exact ⟨rfl, N184⟩
set_option maxRecDepth 65536 in
set_option maxHeartbeats 40000000 in
theorem comes_1 {Post : Tables → Env → Array Value → State → Outcome → State → Prop} (hpost : ∀ tb e args s v u, (limb_1_1.after args s (.returned v) u = true ∧ limb_1_2.after args s (.returned v) u = true ∧ True) → FrameEnd s (.returned v) u (Jvm.fieldLocs frame_1_writes args s ++ Jvm.arrayLocs frame_1_arrays args s ++ Jvm.staticLocs frame_1_statics s) 16 128 → Post tb e args s (.returned v) u) :
    ArmFor flags0 classFile x code maxLocals ret World_1 tables_1 room_1 Calls_1 rest_1 Pre_1 Post := by
  intro l hfl _ _ p e ha hc hk s m args below hf hA hF happ hP
  obtain ⟨hcalls, hrest, hpre⟩ := hP
  obtain ⟨-, -, -, hnamed, -, -, -, hat⟩ := (Spec.applies_iff hf).mp happ
  obtain ⟨hg, hn⟩ := and_e (Cond.before_iff.mp (show (Jvm.Cond.and given_1 narrow_1).before args s = true from hpre))
  obtain ⟨gg0, hg⟩ := and_e hg
  have gg1 := hg
  obtain ⟨w0, rfl⟩ : ∃ w0 : Value, args = #[w0] := by
    have hs : args.size = 1 := by simpa [Cond.value, given_1] using gg0
    obtain ⟨L⟩ := args
    match L, hs with
    | [w0], _ => exact ⟨w0, rfl⟩
  have hw := fun d (hd : d ∈ tables_1) => atoms_spec (ws := Jvm.Cond.code x code maxLocals ret :: tables_1) hat d (List.mem_cons_of_mem _ hd)
  have hfit : Fit s := fun {y c} hc i hi => by
    obtain ⟨ha, rfl⟩ := Array.getElem?_eq_some_iff.mp hc
    have q := List.all_eq_true.mp ((Array.all_eq_true_iff_forall_mem.mp hF) _ (Array.getElem_mem ha)) i (List.mem_range.mpr hi)
    simpa [Array.getElem?_eq_getElem hi] using q
  obtain ⟨i0, ei0⟩ := is_v gg1
  obtain rfl : w0 = (.int i0) := Option.some.inj ei0
  obtain ⟨c0, hn⟩ := and_e hn
  obtain ⟨c1, hn⟩ := and_e hn
  obtain ⟨c2, hn⟩ := and_e hn
  obtain ⟨c3, hn⟩ := and_e hn
  obtain ⟨c4, hn⟩ := and_e hn
  obtain ⟨c5, hn⟩ := and_e hn
  obtain ⟨c6, hn⟩ := and_e hn
  obtain ⟨c7, hn⟩ := and_e hn
  obtain ⟨c8, hn⟩ := and_e hn
  obtain ⟨c9, hn⟩ := and_e hn
  obtain ⟨c10, hn⟩ := and_e hn
  obtain ⟨c11, hn⟩ := and_e hn
  obtain ⟨c12, hn⟩ := and_e hn
  obtain ⟨c13, hn⟩ := and_e hn
  obtain ⟨c14, hn⟩ := and_e hn
  obtain ⟨c15, hn⟩ := and_e hn
  obtain ⟨c16, hn⟩ := and_e hn
  obtain ⟨c17, hn⟩ := and_e hn
  obtain ⟨c18, hn⟩ := and_e hn
  obtain ⟨c19, hn⟩ := and_e hn
  obtain ⟨c20, hn⟩ := and_e hn
  obtain ⟨c21, hn⟩ := and_e hn
  obtain ⟨c22, hn⟩ := and_e hn
  obtain ⟨c23, hn⟩ := and_e hn
  obtain ⟨c24, hn⟩ := and_e hn
  obtain ⟨c25, hn⟩ := and_e hn
  obtain ⟨c26, hn⟩ := and_e hn
  obtain ⟨c27, hn⟩ := and_e hn
  obtain ⟨c28, hn⟩ := and_e hn
  obtain ⟨c29, hn⟩ := and_e hn
  obtain ⟨c30, hn⟩ := and_e hn
  obtain ⟨c31, hn⟩ := and_e hn
  obtain ⟨c32, hn⟩ := and_e hn
  obtain ⟨c33, hn⟩ := and_e hn
  obtain ⟨c34, hn⟩ := and_e hn
  obtain ⟨c35, hn⟩ := and_e hn
  obtain ⟨c36, hn⟩ := and_e hn
  obtain ⟨c37, hn⟩ := and_e hn
  obtain ⟨c38, hn⟩ := and_e hn
  obtain ⟨c39, hn⟩ := and_e hn
  obtain ⟨c40, hn⟩ := and_e hn
  obtain ⟨c41, hn⟩ := and_e hn
  obtain ⟨c42, hn⟩ := and_e hn
  obtain ⟨c43, hn⟩ := and_e hn
  obtain ⟨c44, hn⟩ := and_e hn
  obtain ⟨c45, hn⟩ := and_e hn
  obtain ⟨c46, hn⟩ := and_e hn
  obtain ⟨c47, hn⟩ := and_e hn
  obtain ⟨c48, hn⟩ := and_e hn
  obtain ⟨c49, hn⟩ := and_e hn
  obtain ⟨c50, hn⟩ := and_e hn
  obtain ⟨c51, hn⟩ := and_e hn
  obtain ⟨c52, hn⟩ := and_e hn
  obtain ⟨c53, hn⟩ := and_e hn
  obtain ⟨c54, hn⟩ := and_e hn
  obtain ⟨c55, hn⟩ := and_e hn
  obtain ⟨c56, hn⟩ := and_e hn
  obtain ⟨c57, hn⟩ := and_e hn
  obtain ⟨c58, hn⟩ := and_e hn
  obtain ⟨c59, hn⟩ := and_e hn
  obtain ⟨c60, hn⟩ := and_e hn
  obtain ⟨c61, hn⟩ := and_e hn
  obtain ⟨c62, hn⟩ := and_e hn
  obtain ⟨c63, hn⟩ := and_e hn
  obtain ⟨c64, hn⟩ := and_e hn
  obtain ⟨c65, hn⟩ := and_e hn
  obtain ⟨c66, hn⟩ := and_e hn
  obtain ⟨c67, hn⟩ := and_e hn
  obtain ⟨c68, hn⟩ := and_e hn
  obtain ⟨c69, hn⟩ := and_e hn
  obtain ⟨c70, hn⟩ := and_e hn
  obtain ⟨c71, hn⟩ := and_e hn
  obtain ⟨c72, hn⟩ := and_e hn
  have c73 := hn
  obtain ⟨s_NULL, ev_NULL⟩ := exa_v c0
  have E_NULL := Exa.start ev_NULL c0
  have S_NULL := Sta.start ev_NULL (Or.inr ⟨(hw _ (List.mem_of_getElem? (i := 3) rfl)), (hw _ (List.mem_of_getElem? (i := 4) rfl))⟩)
  obtain ⟨s_LONG, ev_LONG⟩ := exa_v c1
  have E_LONG := Exa.start ev_LONG c1
  have S_LONG := Sta.start ev_LONG (Or.inr ⟨(hw _ (List.mem_of_getElem? (i := 3) rfl)), (hw _ (List.mem_of_getElem? (i := 7) rfl))⟩)
  obtain ⟨s_DOUBLE, ev_DOUBLE⟩ := exa_v c2
  have E_DOUBLE := Exa.start ev_DOUBLE c2
  have S_DOUBLE := Sta.start ev_DOUBLE (Or.inr ⟨(hw _ (List.mem_of_getElem? (i := 3) rfl)), (hw _ (List.mem_of_getElem? (i := 9) rfl))⟩)
  obtain ⟨s_BOOLEAN, ev_BOOLEAN⟩ := exa_v c3
  have E_BOOLEAN := Exa.start ev_BOOLEAN c3
  have S_BOOLEAN := Sta.start ev_BOOLEAN (Or.inr ⟨(hw _ (List.mem_of_getElem? (i := 3) rfl)), (hw _ (List.mem_of_getElem? (i := 11) rfl))⟩)
  obtain ⟨s_STRING, ev_STRING⟩ := exa_v c4
  have E_STRING := Exa.start ev_STRING c4
  have S_STRING := Sta.start ev_STRING (Or.inr ⟨(hw _ (List.mem_of_getElem? (i := 3) rfl)), (hw _ (List.mem_of_getElem? (i := 13) rfl))⟩)
  obtain ⟨s_DATE, ev_DATE⟩ := exa_v c5
  have E_DATE := Exa.start ev_DATE c5
  have S_DATE := Sta.start ev_DATE (Or.inr ⟨(hw _ (List.mem_of_getElem? (i := 3) rfl)), (hw _ (List.mem_of_getElem? (i := 15) rfl))⟩)
  obtain ⟨s_TEXT, ev_TEXT⟩ := exa_v c6
  have E_TEXT := Exa.start ev_TEXT c6
  have S_TEXT := Sta.start ev_TEXT (Or.inr ⟨(hw _ (List.mem_of_getElem? (i := 3) rfl)), (hw _ (List.mem_of_getElem? (i := 17) rfl))⟩)
  obtain ⟨s_BLOB, ev_BLOB⟩ := exa_v c7
  have E_BLOB := Exa.start ev_BLOB c7
  have S_BLOB := Sta.start ev_BLOB (Or.inr ⟨(hw _ (List.mem_of_getElem? (i := 3) rfl)), (hw _ (List.mem_of_getElem? (i := 19) rfl))⟩)
  obtain ⟨s_SHORT_BLOB, ev_SHORT_BLOB⟩ := exa_v c8
  have E_SHORT_BLOB := Exa.start ev_SHORT_BLOB c8
  have S_SHORT_BLOB := Sta.start ev_SHORT_BLOB (Or.inr ⟨(hw _ (List.mem_of_getElem? (i := 3) rfl)), (hw _ (List.mem_of_getElem? (i := 21) rfl))⟩)
  obtain ⟨s_GEO_PT, ev_GEO_PT⟩ := exa_v c9
  have E_GEO_PT := Exa.start ev_GEO_PT c9
  have S_GEO_PT := Sta.start ev_GEO_PT (Or.inr ⟨(hw _ (List.mem_of_getElem? (i := 3) rfl)), (hw _ (List.mem_of_getElem? (i := 23) rfl))⟩)
  obtain ⟨s_POSTAL_ADDRESS, ev_POSTAL_ADDRESS⟩ := exa_v c10
  have E_POSTAL_ADDRESS := Exa.start ev_POSTAL_ADDRESS c10
  have S_POSTAL_ADDRESS := Sta.start ev_POSTAL_ADDRESS (Or.inr ⟨(hw _ (List.mem_of_getElem? (i := 3) rfl)), (hw _ (List.mem_of_getElem? (i := 25) rfl))⟩)
  obtain ⟨s_PHONE_NUMBER, ev_PHONE_NUMBER⟩ := exa_v c11
  have E_PHONE_NUMBER := Exa.start ev_PHONE_NUMBER c11
  have S_PHONE_NUMBER := Sta.start ev_PHONE_NUMBER (Or.inr ⟨(hw _ (List.mem_of_getElem? (i := 3) rfl)), (hw _ (List.mem_of_getElem? (i := 27) rfl))⟩)
  obtain ⟨s_EMAIL, ev_EMAIL⟩ := exa_v c12
  have E_EMAIL := Exa.start ev_EMAIL c12
  have S_EMAIL := Sta.start ev_EMAIL (Or.inr ⟨(hw _ (List.mem_of_getElem? (i := 3) rfl)), (hw _ (List.mem_of_getElem? (i := 29) rfl))⟩)
  obtain ⟨s_IM_HANDLE, ev_IM_HANDLE⟩ := exa_v c13
  have E_IM_HANDLE := Exa.start ev_IM_HANDLE c13
  have S_IM_HANDLE := Sta.start ev_IM_HANDLE (Or.inr ⟨(hw _ (List.mem_of_getElem? (i := 3) rfl)), (hw _ (List.mem_of_getElem? (i := 31) rfl))⟩)
  obtain ⟨s_LINK, ev_LINK⟩ := exa_v c14
  have E_LINK := Exa.start ev_LINK c14
  have S_LINK := Sta.start ev_LINK (Or.inr ⟨(hw _ (List.mem_of_getElem? (i := 3) rfl)), (hw _ (List.mem_of_getElem? (i := 33) rfl))⟩)
  obtain ⟨s_CATEGORY, ev_CATEGORY⟩ := exa_v c15
  have E_CATEGORY := Exa.start ev_CATEGORY c15
  have S_CATEGORY := Sta.start ev_CATEGORY (Or.inr ⟨(hw _ (List.mem_of_getElem? (i := 3) rfl)), (hw _ (List.mem_of_getElem? (i := 35) rfl))⟩)
  obtain ⟨s_RATING, ev_RATING⟩ := exa_v c16
  have E_RATING := Exa.start ev_RATING c16
  have S_RATING := Sta.start ev_RATING (Or.inr ⟨(hw _ (List.mem_of_getElem? (i := 3) rfl)), (hw _ (List.mem_of_getElem? (i := 37) rfl))⟩)
  obtain ⟨s_USER, ev_USER⟩ := exa_v c17
  have E_USER := Exa.start ev_USER c17
  have S_USER := Sta.start ev_USER (Or.inr ⟨(hw _ (List.mem_of_getElem? (i := 3) rfl)), (hw _ (List.mem_of_getElem? (i := 39) rfl))⟩)
  obtain ⟨s_BLOB_KEY, ev_BLOB_KEY⟩ := exa_v c18
  have E_BLOB_KEY := Exa.start ev_BLOB_KEY c18
  have S_BLOB_KEY := Sta.start ev_BLOB_KEY (Or.inr ⟨(hw _ (List.mem_of_getElem? (i := 3) rfl)), (hw _ (List.mem_of_getElem? (i := 41) rfl))⟩)
  obtain ⟨s_KEY, ev_KEY⟩ := exa_v c19
  have E_KEY := Exa.start ev_KEY c19
  have S_KEY := Sta.start ev_KEY (Or.inr ⟨(hw _ (List.mem_of_getElem? (i := 3) rfl)), (hw _ (List.mem_of_getElem? (i := 43) rfl))⟩)
  obtain ⟨s_EMBEDDED_ENTITY, ev_EMBEDDED_ENTITY⟩ := exa_v c20
  have E_EMBEDDED_ENTITY := Exa.start ev_EMBEDDED_ENTITY c20
  have S_EMBEDDED_ENTITY := Sta.start ev_EMBEDDED_ENTITY (Or.inr ⟨(hw _ (List.mem_of_getElem? (i := 3) rfl)), (hw _ (List.mem_of_getElem? (i := 45) rfl))⟩)
  obtain ⟨s_LIST, ev_LIST⟩ := exa_v c21
  have E_LIST := Exa.start ev_LIST c21
  have S_LIST := Sta.start ev_LIST (Or.inr ⟨(hw _ (List.mem_of_getElem? (i := 3) rfl)), (hw _ (List.mem_of_getElem? (i := 47) rfl))⟩)
  obtain ⟨s_Representation_NULL, ev_Representation_NULL⟩ := exa_v c27
  have E_Representation_NULL := Exa.start ev_Representation_NULL c27
  have S_Representation_NULL := Sta.start ev_Representation_NULL (Or.inr ⟨(hw _ (List.mem_of_getElem? (i := 57) rfl)), (hw _ (List.mem_of_getElem? (i := 58) rfl))⟩)
  obtain ⟨s_Representation_BOOLEAN, ev_Representation_BOOLEAN⟩ := exa_v c30
  have E_Representation_BOOLEAN := Exa.start ev_Representation_BOOLEAN c30
  have S_Representation_BOOLEAN := Sta.start ev_Representation_BOOLEAN (Or.inr ⟨(hw _ (List.mem_of_getElem? (i := 57) rfl)), (hw _ (List.mem_of_getElem? (i := 59) rfl))⟩)
  obtain ⟨s_Representation_STRING, ev_Representation_STRING⟩ := exa_v c34
  have E_Representation_STRING := Exa.start ev_Representation_STRING c34
  have S_Representation_STRING := Sta.start ev_Representation_STRING (Or.inr ⟨(hw _ (List.mem_of_getElem? (i := 57) rfl)), (hw _ (List.mem_of_getElem? (i := 60) rfl))⟩)
  obtain ⟨s_Representation_DOUBLE, ev_Representation_DOUBLE⟩ := exa_v c37
  have E_Representation_DOUBLE := Exa.start ev_Representation_DOUBLE c37
  have S_Representation_DOUBLE := Sta.start ev_Representation_DOUBLE (Or.inr ⟨(hw _ (List.mem_of_getElem? (i := 57) rfl)), (hw _ (List.mem_of_getElem? (i := 61) rfl))⟩)
  obtain ⟨s_INT64, ev_INT64⟩ := exa_v c44
  have E_INT64 := Exa.start ev_INT64 c44
  have S_INT64 := Sta.start ev_INT64 (Or.inr ⟨(hw _ (List.mem_of_getElem? (i := 57) rfl)), (hw _ (List.mem_of_getElem? (i := 62) rfl))⟩)
  obtain ⟨s_POINT, ev_POINT⟩ := exa_v c47
  have E_POINT := Exa.start ev_POINT c47
  have S_POINT := Sta.start ev_POINT (Or.inr ⟨(hw _ (List.mem_of_getElem? (i := 57) rfl)), (hw _ (List.mem_of_getElem? (i := 63) rfl))⟩)
  obtain ⟨s_REFERENCE, ev_REFERENCE⟩ := exa_v c55
  have E_REFERENCE := Exa.start ev_REFERENCE c55
  have S_REFERENCE := Sta.start ev_REFERENCE (Or.inr ⟨(hw _ (List.mem_of_getElem? (i := 57) rfl)), (hw _ (List.mem_of_getElem? (i := 64) rfl))⟩)
  obtain ⟨s_Representation_USER, ev_Representation_USER⟩ := exa_v c70
  have E_Representation_USER := Exa.start ev_Representation_USER c70
  have S_Representation_USER := Sta.start ev_Representation_USER (Or.inr ⟨(hw _ (List.mem_of_getElem? (i := 57) rfl)), (hw _ (List.mem_of_getElem? (i := 65) rfl))⟩)
  have F_NULL_ordinal := Fld.start ((fld_at ev_NULL).symm.trans (eqv_i (Term.int_eval _) c22))
  have F_TEXT_ordinal := Fld.start ((fld_at ev_TEXT).symm.trans (eqv_i (Term.int_eval _) c23))
  have F_BLOB_ordinal := Fld.start ((fld_at ev_BLOB).symm.trans (eqv_i (Term.int_eval _) c24))
  have F_EMBEDDED_ENTITY_ordinal := Fld.start ((fld_at ev_EMBEDDED_ENTITY).symm.trans (eqv_i (Term.int_eval _) c25))
  have F_LIST_ordinal := Fld.start ((fld_at ev_LIST).symm.trans (eqv_i (Term.int_eval _) c26))
  have F_NULL_representation := Fld.start ((fld_at ev_NULL).symm.trans (eqv_r ev_Representation_NULL c28))
  have F_BOOLEAN_ordinal := Fld.start ((fld_at ev_BOOLEAN).symm.trans (eqv_i (Term.int_eval _) c29))
  have F_BOOLEAN_representation := Fld.start ((fld_at ev_BOOLEAN).symm.trans (eqv_r ev_Representation_BOOLEAN c31))
  have F_BLOB_representation := Fld.start ((fld_at ev_BLOB).symm.trans (null_v c32))
  have F_SHORT_BLOB_ordinal := Fld.start ((fld_at ev_SHORT_BLOB).symm.trans (eqv_i (Term.int_eval _) c33))
  have F_SHORT_BLOB_representation := Fld.start ((fld_at ev_SHORT_BLOB).symm.trans (eqv_r ev_Representation_STRING c35))
  have F_DOUBLE_ordinal := Fld.start ((fld_at ev_DOUBLE).symm.trans (eqv_i (Term.int_eval _) c36))
  have F_DOUBLE_representation := Fld.start ((fld_at ev_DOUBLE).symm.trans (eqv_r ev_Representation_DOUBLE c38))
  have F_PHONE_NUMBER_ordinal := Fld.start ((fld_at ev_PHONE_NUMBER).symm.trans (eqv_i (Term.int_eval _) c39))
  have F_PHONE_NUMBER_representation := Fld.start ((fld_at ev_PHONE_NUMBER).symm.trans (eqv_r ev_Representation_STRING c40))
  have F_POSTAL_ADDRESS_ordinal := Fld.start ((fld_at ev_POSTAL_ADDRESS).symm.trans (eqv_i (Term.int_eval _) c41))
  have F_POSTAL_ADDRESS_representation := Fld.start ((fld_at ev_POSTAL_ADDRESS).symm.trans (eqv_r ev_Representation_STRING c42))
  have F_LONG_ordinal := Fld.start ((fld_at ev_LONG).symm.trans (eqv_i (Term.int_eval _) c43))
  have F_LONG_representation := Fld.start ((fld_at ev_LONG).symm.trans (eqv_r ev_INT64 c45))
  have F_GEO_PT_ordinal := Fld.start ((fld_at ev_GEO_PT).symm.trans (eqv_i (Term.int_eval _) c46))
  have F_GEO_PT_representation := Fld.start ((fld_at ev_GEO_PT).symm.trans (eqv_r ev_POINT c48))
  have F_DATE_ordinal := Fld.start ((fld_at ev_DATE).symm.trans (eqv_i (Term.int_eval _) c49))
  have F_DATE_representation := Fld.start ((fld_at ev_DATE).symm.trans (eqv_r ev_INT64 c50))
  have F_RATING_ordinal := Fld.start ((fld_at ev_RATING).symm.trans (eqv_i (Term.int_eval _) c51))
  have F_RATING_representation := Fld.start ((fld_at ev_RATING).symm.trans (eqv_r ev_INT64 c52))
  have F_TEXT_representation := Fld.start ((fld_at ev_TEXT).symm.trans (null_v c53))
  have F_KEY_ordinal := Fld.start ((fld_at ev_KEY).symm.trans (eqv_i (Term.int_eval _) c54))
  have F_KEY_representation := Fld.start ((fld_at ev_KEY).symm.trans (eqv_r ev_REFERENCE c56))
  have F_BLOB_KEY_ordinal := Fld.start ((fld_at ev_BLOB_KEY).symm.trans (eqv_i (Term.int_eval _) c57))
  have F_BLOB_KEY_representation := Fld.start ((fld_at ev_BLOB_KEY).symm.trans (eqv_r ev_Representation_STRING c58))
  have F_CATEGORY_ordinal := Fld.start ((fld_at ev_CATEGORY).symm.trans (eqv_i (Term.int_eval _) c59))
  have F_CATEGORY_representation := Fld.start ((fld_at ev_CATEGORY).symm.trans (eqv_r ev_Representation_STRING c60))
  have F_STRING_ordinal := Fld.start ((fld_at ev_STRING).symm.trans (eqv_i (Term.int_eval _) c61))
  have F_STRING_representation := Fld.start ((fld_at ev_STRING).symm.trans (eqv_r ev_Representation_STRING c62))
  have F_LINK_ordinal := Fld.start ((fld_at ev_LINK).symm.trans (eqv_i (Term.int_eval _) c63))
  have F_LINK_representation := Fld.start ((fld_at ev_LINK).symm.trans (eqv_r ev_Representation_STRING c64))
  have F_EMAIL_ordinal := Fld.start ((fld_at ev_EMAIL).symm.trans (eqv_i (Term.int_eval _) c65))
  have F_EMAIL_representation := Fld.start ((fld_at ev_EMAIL).symm.trans (eqv_r ev_Representation_STRING c66))
  have F_IM_HANDLE_ordinal := Fld.start ((fld_at ev_IM_HANDLE).symm.trans (eqv_i (Term.int_eval _) c67))
  have F_IM_HANDLE_representation := Fld.start ((fld_at ev_IM_HANDLE).symm.trans (eqv_r ev_Representation_STRING c68))
  have F_USER_ordinal := Fld.start ((fld_at ev_USER).symm.trans (eqv_i (Term.int_eval _) c69))
  have F_USER_representation := Fld.start ((fld_at ev_USER).symm.trans (eqv_r ev_Representation_USER c71))
  have F_EMBEDDED_ENTITY_representation := Fld.start ((fld_at ev_EMBEDDED_ENTITY).symm.trans (null_v c72))
  have F_LIST_representation := Fld.start ((fld_at ev_LIST).symm.trans (null_v c73))
  obtain ⟨n, o, h1, h2, h3, _, L, rfl, ⟨rfl, N⟩, hq⟩ := rm0 l s _ hw tables_1 s_NULL s_LONG s_DOUBLE s_BOOLEAN s_STRING s_DATE s_TEXT s_BLOB s_SHORT_BLOB s_GEO_PT s_POSTAL_ADDRESS s_PHONE_NUMBER s_EMAIL s_IM_HANDLE s_LINK s_CATEGORY s_RATING s_USER s_BLOB_KEY s_KEY s_EMBEDDED_ENTITY s_LIST s_Representation_NULL s_Representation_BOOLEAN s_Representation_STRING s_Representation_DOUBLE s_INT64 s_POINT s_REFERENCE s_Representation_USER (show W0 s s_NULL s_LONG s_DOUBLE s_BOOLEAN s_STRING s_DATE s_TEXT s_BLOB s_SHORT_BLOB s_GEO_PT s_POSTAL_ADDRESS s_PHONE_NUMBER s_EMAIL s_IM_HANDLE s_LINK s_CATEGORY s_RATING s_USER s_BLOB_KEY s_KEY s_EMBEDDED_ENTITY s_LIST s_Representation_NULL s_Representation_BOOLEAN s_Representation_STRING s_Representation_DOUBLE s_INT64 s_POINT s_REFERENCE s_Representation_USER from ⟨E_NULL, S_NULL, E_LONG, S_LONG, E_DOUBLE, S_DOUBLE, E_BOOLEAN, S_BOOLEAN, E_STRING, S_STRING, E_DATE, S_DATE, E_TEXT, S_TEXT, E_BLOB, S_BLOB, E_SHORT_BLOB, S_SHORT_BLOB, E_GEO_PT, S_GEO_PT, E_POSTAL_ADDRESS, S_POSTAL_ADDRESS, E_PHONE_NUMBER, S_PHONE_NUMBER, E_EMAIL, S_EMAIL, E_IM_HANDLE, S_IM_HANDLE, E_LINK, S_LINK, E_CATEGORY, S_CATEGORY, E_RATING, S_RATING, E_USER, S_USER, E_BLOB_KEY, S_BLOB_KEY, E_KEY, S_KEY, E_EMBEDDED_ENTITY, S_EMBEDDED_ENTITY, E_LIST, S_LIST, E_Representation_NULL, S_Representation_NULL, E_Representation_BOOLEAN, S_Representation_BOOLEAN, E_Representation_STRING, S_Representation_STRING, E_Representation_DOUBLE, S_Representation_DOUBLE, E_INT64, S_INT64, E_POINT, S_POINT, E_REFERENCE, S_REFERENCE, E_Representation_USER, S_Representation_USER, F_NULL_ordinal, F_TEXT_ordinal, F_BLOB_ordinal, F_EMBEDDED_ENTITY_ordinal, F_LIST_ordinal, F_NULL_representation, F_BOOLEAN_ordinal, F_BOOLEAN_representation, F_BLOB_representation, F_SHORT_BLOB_ordinal, F_SHORT_BLOB_representation, F_DOUBLE_ordinal, F_DOUBLE_representation, F_PHONE_NUMBER_ordinal, F_PHONE_NUMBER_representation, F_POSTAL_ADDRESS_ordinal, F_POSTAL_ADDRESS_representation, F_LONG_ordinal, F_LONG_representation, F_GEO_PT_ordinal, F_GEO_PT_representation, F_DATE_ordinal, F_DATE_representation, F_RATING_ordinal, F_RATING_representation, F_TEXT_representation, F_KEY_ordinal, F_KEY_representation, F_BLOB_KEY_ordinal, F_BLOB_KEY_representation, F_CATEGORY_ordinal, F_CATEGORY_representation, F_STRING_ordinal, F_STRING_representation, F_LINK_ordinal, F_LINK_representation, F_EMAIL_ordinal, F_EMAIL_representation, F_IM_HANDLE_ordinal, F_IM_HANDLE_representation, F_USER_ordinal, F_USER_representation, F_EMBEDDED_ENTITY_representation, F_LIST_representation⟩) i0 s.heap s.heap.size (Old.start s) p e ha hc hk s m _ below hf ((Spec.applies_iff_loose hf).mp happ).1 ⟨rfl, State.Warmed39.refl s, rfl⟩ trivial
  refine ⟨n, _, h1, h2, h3, hpost _ _ _ _ _ _ ⟨Cond.after_iff.mpr rfl, Cond.after_iff.mpr (eq_i res_at (Term.int_eval (1)) rfl), trivial⟩ ⟨hq.1, hq.2.1, (hq.2.2.sift fun y hy => Or.inr (N y hy)).mono (by decide) (by decide)⟩⟩
theorem main_1_1 : Claimed_1_1 := comes_1 fun _ _ _ _ _ _ h hF => ⟨h.1, hF⟩
theorem main_1_2 : Claimed_1_2 := comes_1 fun _ _ _ _ _ _ h hF => ⟨h.2.1, hF⟩
end Jvm.Pilot.@@N@@
namespace Jvm.Pilot.@@N@@
open Jvm Jvm.ClassFile Sem Op Lib Jvm.Free Jvm.Stand Jvm.Pilot.@@N@@.Jvm.D
/-! MADE BY PROGRAM (witnessworld.py) out of the Statement's table words and the real class files: 14 classes; the members and pool entries that the words name. The judged class is class 1, her method 1. -/
namespace start1
open Jvm.ClassFile
def u (s : String) : CpInfo := .utf8 (stringToUtf16 s)
/-- a pool by its gaps: so many unusable entries, then the entry; so many at the end -/
def gap : Nat → List CpInfo → List CpInfo
  | 0, r => r
  | n + 1, r => .unusable :: gap n r
def poolList (es : List (Nat × CpInfo)) (last : Nat) : List CpInfo := es.foldr (fun e r => gap e.1 (e.2 :: r)) (gap last [])
def pool (es : List (Nat × CpInfo)) (last : Nat) : Array CpInfo := ⟨poolList es last⟩
def fileOf (pool : Array CpInfo) (this : Nat) (attrs : Array Attribute := #[]) (ms : Array MethodInfo := #[]) (fl : Nat := 33) (sup : Nat := 0) (ifs : Array Nat := #[]) (fds : Array FieldInfo := #[]) : ClassFile where
  minorVersion := 0
  majorVersion := 65
  constantPool := pool
  accessFlags := fl
  thisClass := this
  superClass := sup
  interfaces := ifs
  fields := fds
  methods := ms
  attributes := attrs
def plain (name : String) (sup : Option ClassId) : Class where
  name := name
  kind := .ordinary
  loader := none
  accessFlags := 33
  super := sup
  interfaces := #[]
  cf := none
  fields := #[]
  methods := #[]
  instanceTypes := #[]
  staticTypes := #[]
  resolved := #[]
  callSites := []
  init := .initialized
  statics := none
  mirror := none

def pool0 : Array CpInfo := pool [(5, u "<init>"), (0, u "()V"), (1, .class_ 10), (1, u "java/lang/Object")] 113

def k0m0 : Method := { name := "<init>", desc := "()V", sig := { parameters := [], returnType := none }, accessFlags := 1, code := none }
/-- java/lang/Object -/
def k0 : Class := { plain "java/lang/Object" none with
  accessFlags := 33
  interfaces := #[]
  cf := some (fileOf pool0 8 #[] #[{ accessFlags := 1, nameIndex := 5, descriptorIndex := 6, attributes := #[] }] 33 0 #[] #[])
  fields := #[]
  methods := #[k0m0]
  instanceTypes := #[]
  staticTypes := #[]
  resolved := Array.replicate 124 none
  statics := none }

def pool1 : Array CpInfo := pool [(2, .class_ 4), (1, u "java/lang/Object"), (0, u "<init>"), (0, u "()V"), (0, .class_ 8), (0, u "com/example/rooted_kinds/rootedkinds/model/ValueType"), (0, .fieldref 7 10), (0, .nameAndType 11 12), (0, u "NULL"), (0, u "Lcom/example/rooted_kinds/rootedkinds/model/ValueType;"), (0, .fieldref 7 14), (0, .nameAndType 15 12), (0, u "LONG"), (0, .fieldref 7 17), (0, .nameAndType 18 12), (0, u "DOUBLE"), (0, .fieldref 7 20), (0, .nameAndType 21 12), (0, u "BOOLEAN"), (0, .fieldref 7 23), (0, .nameAndType 24 12), (0, u "STRING"), (0, .fieldref 7 26), (0, .nameAndType 27 12), (0, u "DATE"), (0, .fieldref 7 29), (0, .nameAndType 30 12), (0, u "TEXT"), (0, .fieldref 7 32), (0, .nameAndType 33 12), (0, u "BLOB"), (0, .fieldref 7 35), (0, .nameAndType 36 12), (0, u "SHORT_BLOB"), (0, .fieldref 7 38), (0, .nameAndType 39 12), (0, u "GEO_PT"), (0, .fieldref 7 41), (0, .nameAndType 42 12), (0, u "POSTAL_ADDRESS"), (0, .fieldref 7 44), (0, .nameAndType 45 12), (0, u "PHONE_NUMBER"), (0, .fieldref 7 47), (0, .nameAndType 48 12), (0, u "EMAIL"), (0, .fieldref 7 50), (0, .nameAndType 51 12), (0, u "IM_HANDLE"), (0, .fieldref 7 53), (0, .nameAndType 54 12), (0, u "LINK"), (0, .fieldref 7 56), (0, .nameAndType 57 12), (0, u "CATEGORY"), (0, .fieldref 7 59), (0, .nameAndType 60 12), (0, u "RATING"), (0, .fieldref 7 62), (0, .nameAndType 63 12), (0, u "USER"), (0, .fieldref 7 65), (0, .nameAndType 66 12), (0, u "BLOB_KEY"), (0, .fieldref 7 68), (0, .nameAndType 69 12), (0, u "KEY"), (0, .fieldref 7 71), (0, .nameAndType 72 12), (0, u "EMBEDDED_ENTITY"), (0, .fieldref 7 74), (0, .nameAndType 75 12), (0, u "LIST"), (0, .integer 2147483647), (0, .methodref 7 78), (0, .nameAndType 79 80), (0, u "isIndexed"), (0, u "()Z"), (0, .class_ 82), (0, u "com/example/rooted_kinds/rootedkinds/model/ValueTypeIsIndexedPinLaw"), (2, u "law"), (0, u "(I)Z")] 5

def k1m0 : Method := { name := "<init>", desc := "()V", sig := { parameters := [], returnType := none }, accessFlags := 2, code := none }
def k1c1 : Code := { maxStack := 4, maxLocals := 5, code := code, exceptionTable := #[], attributes := #[] }
def k1m1 : Method := { name := "law", desc := "(I)Z", sig := { parameters := [.int], returnType := some .boolean }, accessFlags := 9, code := some k1c1 }
/-- com/example/rooted_kinds/rootedkinds/model/ValueTypeIsIndexedPinLaw -/
def k1 : Class := { plain "com/example/rooted_kinds/rootedkinds/model/ValueTypeIsIndexedPinLaw" (some 0) with
  accessFlags := 49
  interfaces := #[]
  cf := some (fileOf pool1 81 #[] #[{ accessFlags := 2, nameIndex := 5, descriptorIndex := 6, attributes := #[] }, { accessFlags := 9, nameIndex := 85, descriptorIndex := 86, attributes := #[] }] 49 2 #[] #[])
  fields := #[]
  methods := #[k1m0, k1m1]
  instanceTypes := #[]
  staticTypes := #[]
  resolved := Array.replicate 92 none
  statics := none }

def pool2 : Array CpInfo := pool [(1, .class_ 2), (0, u "java/lang/constant/Constable"), (0, .class_ 4), (0, u "java/lang/Object")] 6

/-- java/lang/constant/Constable -/
def k2 : Class := { plain "java/lang/constant/Constable" (some 0) with
  accessFlags := 1537
  interfaces := #[]
  cf := some (fileOf pool2 1 #[] #[] 1537 3 #[] #[])
  fields := #[]
  methods := #[]
  instanceTypes := #[]
  staticTypes := #[]
  resolved := Array.replicate 11 none
  statics := none }

def pool3 : Array CpInfo := pool [(1, .class_ 2), (0, u "java/lang/Comparable"), (0, .class_ 4), (0, u "java/lang/Object")] 7

/-- java/lang/Comparable -/
def k3 : Class := { plain "java/lang/Comparable" (some 0) with
  accessFlags := 1537
  interfaces := #[]
  cf := some (fileOf pool3 1 #[] #[] 1537 3 #[] #[])
  fields := #[]
  methods := #[]
  instanceTypes := #[]
  staticTypes := #[]
  resolved := Array.replicate 12 none
  statics := none }

def pool4 : Array CpInfo := pool [(1, .class_ 2), (0, u "java/io/Serializable"), (0, .class_ 4), (0, u "java/lang/Object")] 2

/-- java/io/Serializable -/
def k4 : Class := { plain "java/io/Serializable" (some 0) with
  accessFlags := 1537
  interfaces := #[]
  cf := some (fileOf pool4 1 #[] #[] 1537 3 #[] #[])
  fields := #[]
  methods := #[]
  instanceTypes := #[]
  staticTypes := #[]
  resolved := Array.replicate 7 none
  statics := none }

def pool5 : Array CpInfo := pool [(2, .class_ 4), (1, u "java/lang/Enum"), (0, u "name"), (0, u "Ljava/lang/String;"), (2, u "ordinal"), (0, u "I"), (1, .class_ 14), (1, u "java/lang/Object"), (4, u "hash"), (86, .class_ 108), (1, u "java/lang/Enum$EnumDesc"), (2, .class_ 112), (0, u "java/lang/constant/Constable"), (0, .class_ 114), (0, u "java/lang/Comparable"), (0, .class_ 116), (0, u "java/io/Serializable")] 87

/-- java/lang/Enum -/
def k5 : Class := { plain "java/lang/Enum" (some 0) with
  accessFlags := 1057
  interfaces := #[2, 3, 4]
  cf := some (fileOf pool5 2 #[.nestMembers #[106]] #[] 1057 12 #[111, 113, 115] #[{ accessFlags := 18, nameIndex := 5, descriptorIndex := 6, attributes := #[] }, { accessFlags := 18, nameIndex := 9, descriptorIndex := 10, attributes := #[] }, { accessFlags := 2, nameIndex := 19, descriptorIndex := 10, attributes := #[] }])
  fields := #[{ name := "name", type := (.object "java/lang/String"), accessFlags := 18, slot := 0, constantValue := 0 }, { name := "ordinal", type := .int, accessFlags := 18, slot := 1, constantValue := 0 }, { name := "hash", type := .int, accessFlags := 2, slot := 2, constantValue := 0 }]
  methods := #[]
  instanceTypes := #[(.object "java/lang/String"), .int, .int]
  staticTypes := #[]
  resolved := Array.replicate 204 none
  statics := none }

def pool6 : Array CpInfo := pool [(1, .class_ 2), (0, u "com/example/rooted_kinds/rootedkinds/model/ValueType"), (2, u "NULL"), (0, u "Lcom/example/rooted_kinds/rootedkinds/model/ValueType;"), (2, u "LONG"), (2, u "DOUBLE"), (2, u "BOOLEAN"), (2, u "STRING"), (2, u "DATE"), (2, u "TEXT"), (2, u "BLOB"), (2, u "SHORT_BLOB"), (2, u "GEO_PT"), (2, u "POSTAL_ADDRESS"), (2, u "PHONE_NUMBER"), (2, u "EMAIL"), (2, u "IM_HANDLE"), (2, u "LINK"), (2, u "CATEGORY"), (2, u "RATING"), (2, u "USER"), (2, u "BLOB_KEY"), (2, u "KEY"), (2, u "EMBEDDED_ENTITY"), (0, .fieldref 1 68), (0, .nameAndType 69 6), (0, u "LIST"), (2, u "$VALUES"), (0, u "[Lcom/example/rooted_kinds/rootedkinds/model/ValueType;"), (6, .class_ 82), (1, u "java/lang/Enum"), (6, .fieldref 1 90), (0, .nameAndType 91 92), (0, u "representation"), (0, u "Lcom/example/rooted_kinds/rootedkinds/model/ValueType$Representation;"), (8, u "classes"), (0, u "Ljava/util/List;"), (2, u "BY_CLASS"), (0, u "Ljava/lang/ClassValue;"), (38, u "()Z"), (11, .class_ 159), (1, u "com/example/rooted_kinds/rootedkinds/model/ValueType$Representation"), (93, .class_ 254), (0, u "com/example/rooted_kinds/rootedkinds/model/ValueType$1"), (3, u "SHORT_VALUE_BYTES"), (0, u "I"), (2, u "LONG_VALUE_BYTES"), (13, u "isIndexed")] 24

def k6c0 : Code := { maxStack := 2, maxLocals := 1, code := prog_64_method_6_code, exceptionTable := #[], attributes := #[] }
def k6m0 : Method := { name := "isIndexed", desc := "()Z", sig := { parameters := [], returnType := some .boolean }, accessFlags := 1, code := some k6c0 }
/-- com/example/rooted_kinds/rootedkinds/model/ValueType -/
def k6 : Class := { plain "com/example/rooted_kinds/rootedkinds/model/ValueType" (some 5) with
  accessFlags := 16433
  interfaces := #[]
  cf := some (fileOf pool6 1 #[.nestMembers #[157, 253]] #[{ accessFlags := 1, nameIndex := 276, descriptorIndex := 145, attributes := #[] }] 16433 80 #[] #[{ accessFlags := 16409, nameIndex := 5, descriptorIndex := 6, attributes := #[] }, { accessFlags := 16409, nameIndex := 9, descriptorIndex := 6, attributes := #[] }, { accessFlags := 16409, nameIndex := 12, descriptorIndex := 6, attributes := #[] }, { accessFlags := 16409, nameIndex := 15, descriptorIndex := 6, attributes := #[] }, { accessFlags := 16409, nameIndex := 18, descriptorIndex := 6, attributes := #[] }, { accessFlags := 16409, nameIndex := 21, descriptorIndex := 6, attributes := #[] }, { accessFlags := 16409, nameIndex := 24, descriptorIndex := 6, attributes := #[] }, { accessFlags := 16409, nameIndex := 27, descriptorIndex := 6, attributes := #[] }, { accessFlags := 16409, nameIndex := 30, descriptorIndex := 6, attributes := #[] }, { accessFlags := 16409, nameIndex := 33, descriptorIndex := 6, attributes := #[] }, { accessFlags := 16409, nameIndex := 36, descriptorIndex := 6, attributes := #[] }, { accessFlags := 16409, nameIndex := 39, descriptorIndex := 6, attributes := #[] }, { accessFlags := 16409, nameIndex := 42, descriptorIndex := 6, attributes := #[] }, { accessFlags := 16409, nameIndex := 45, descriptorIndex := 6, attributes := #[] }, { accessFlags := 16409, nameIndex := 48, descriptorIndex := 6, attributes := #[] }, { accessFlags := 16409, nameIndex := 51, descriptorIndex := 6, attributes := #[] }, { accessFlags := 16409, nameIndex := 54, descriptorIndex := 6, attributes := #[] }, { accessFlags := 16409, nameIndex := 57, descriptorIndex := 6, attributes := #[] }, { accessFlags := 16409, nameIndex := 60, descriptorIndex := 6, attributes := #[] }, { accessFlags := 16409, nameIndex := 63, descriptorIndex := 6, attributes := #[] }, { accessFlags := 16409, nameIndex := 66, descriptorIndex := 6, attributes := #[] }, { accessFlags := 16409, nameIndex := 69, descriptorIndex := 6, attributes := #[] }, { accessFlags := 25, nameIndex := 258, descriptorIndex := 259, attributes := #[] }, { accessFlags := 25, nameIndex := 262, descriptorIndex := 259, attributes := #[] }, { accessFlags := 26, nameIndex := 105, descriptorIndex := 106, attributes := #[] }, { accessFlags := 18, nameIndex := 91, descriptorIndex := 92, attributes := #[] }, { accessFlags := 18, nameIndex := 101, descriptorIndex := 102, attributes := #[] }, { accessFlags := 4122, nameIndex := 72, descriptorIndex := 73, attributes := #[] }])
  fields := #[{ name := "NULL", type := (.object "com/example/rooted_kinds/rootedkinds/model/ValueType"), accessFlags := 16409, slot := 0, constantValue := 0 }, { name := "LONG", type := (.object "com/example/rooted_kinds/rootedkinds/model/ValueType"), accessFlags := 16409, slot := 1, constantValue := 0 }, { name := "DOUBLE", type := (.object "com/example/rooted_kinds/rootedkinds/model/ValueType"), accessFlags := 16409, slot := 2, constantValue := 0 }, { name := "BOOLEAN", type := (.object "com/example/rooted_kinds/rootedkinds/model/ValueType"), accessFlags := 16409, slot := 3, constantValue := 0 }, { name := "STRING", type := (.object "com/example/rooted_kinds/rootedkinds/model/ValueType"), accessFlags := 16409, slot := 4, constantValue := 0 }, { name := "DATE", type := (.object "com/example/rooted_kinds/rootedkinds/model/ValueType"), accessFlags := 16409, slot := 5, constantValue := 0 }, { name := "TEXT", type := (.object "com/example/rooted_kinds/rootedkinds/model/ValueType"), accessFlags := 16409, slot := 6, constantValue := 0 }, { name := "BLOB", type := (.object "com/example/rooted_kinds/rootedkinds/model/ValueType"), accessFlags := 16409, slot := 7, constantValue := 0 }, { name := "SHORT_BLOB", type := (.object "com/example/rooted_kinds/rootedkinds/model/ValueType"), accessFlags := 16409, slot := 8, constantValue := 0 }, { name := "GEO_PT", type := (.object "com/example/rooted_kinds/rootedkinds/model/ValueType"), accessFlags := 16409, slot := 9, constantValue := 0 }, { name := "POSTAL_ADDRESS", type := (.object "com/example/rooted_kinds/rootedkinds/model/ValueType"), accessFlags := 16409, slot := 10, constantValue := 0 }, { name := "PHONE_NUMBER", type := (.object "com/example/rooted_kinds/rootedkinds/model/ValueType"), accessFlags := 16409, slot := 11, constantValue := 0 }, { name := "EMAIL", type := (.object "com/example/rooted_kinds/rootedkinds/model/ValueType"), accessFlags := 16409, slot := 12, constantValue := 0 }, { name := "IM_HANDLE", type := (.object "com/example/rooted_kinds/rootedkinds/model/ValueType"), accessFlags := 16409, slot := 13, constantValue := 0 }, { name := "LINK", type := (.object "com/example/rooted_kinds/rootedkinds/model/ValueType"), accessFlags := 16409, slot := 14, constantValue := 0 }, { name := "CATEGORY", type := (.object "com/example/rooted_kinds/rootedkinds/model/ValueType"), accessFlags := 16409, slot := 15, constantValue := 0 }, { name := "RATING", type := (.object "com/example/rooted_kinds/rootedkinds/model/ValueType"), accessFlags := 16409, slot := 16, constantValue := 0 }, { name := "USER", type := (.object "com/example/rooted_kinds/rootedkinds/model/ValueType"), accessFlags := 16409, slot := 17, constantValue := 0 }, { name := "BLOB_KEY", type := (.object "com/example/rooted_kinds/rootedkinds/model/ValueType"), accessFlags := 16409, slot := 18, constantValue := 0 }, { name := "KEY", type := (.object "com/example/rooted_kinds/rootedkinds/model/ValueType"), accessFlags := 16409, slot := 19, constantValue := 0 }, { name := "EMBEDDED_ENTITY", type := (.object "com/example/rooted_kinds/rootedkinds/model/ValueType"), accessFlags := 16409, slot := 20, constantValue := 0 }, { name := "LIST", type := (.object "com/example/rooted_kinds/rootedkinds/model/ValueType"), accessFlags := 16409, slot := 21, constantValue := 0 }, { name := "SHORT_VALUE_BYTES", type := .int, accessFlags := 25, slot := 22, constantValue := 0 }, { name := "LONG_VALUE_BYTES", type := .int, accessFlags := 25, slot := 23, constantValue := 0 }, { name := "BY_CLASS", type := (.object "java/lang/ClassValue"), accessFlags := 26, slot := 24, constantValue := 0 }, { name := "representation", type := (.object "com/example/rooted_kinds/rootedkinds/model/ValueType$Representation"), accessFlags := 18, slot := 3, constantValue := 0 }, { name := "classes", type := (.object "java/util/List"), accessFlags := 18, slot := 4, constantValue := 0 }, { name := "$VALUES", type := (.array (.object "com/example/rooted_kinds/rootedkinds/model/ValueType")), accessFlags := 4122, slot := 25, constantValue := 0 }]
  methods := #[k6m0]
  instanceTypes := #[(.object "java/lang/String"), .int, .int, (.object "com/example/rooted_kinds/rootedkinds/model/ValueType$Representation"), (.object "java/util/List")]
  staticTypes := #[(.object "com/example/rooted_kinds/rootedkinds/model/ValueType"), (.object "com/example/rooted_kinds/rootedkinds/model/ValueType"), (.object "com/example/rooted_kinds/rootedkinds/model/ValueType"), (.object "com/example/rooted_kinds/rootedkinds/model/ValueType"), (.object "com/example/rooted_kinds/rootedkinds/model/ValueType"), (.object "com/example/rooted_kinds/rootedkinds/model/ValueType"), (.object "com/example/rooted_kinds/rootedkinds/model/ValueType"), (.object "com/example/rooted_kinds/rootedkinds/model/ValueType"), (.object "com/example/rooted_kinds/rootedkinds/model/ValueType"), (.object "com/example/rooted_kinds/rootedkinds/model/ValueType"), (.object "com/example/rooted_kinds/rootedkinds/model/ValueType"), (.object "com/example/rooted_kinds/rootedkinds/model/ValueType"), (.object "com/example/rooted_kinds/rootedkinds/model/ValueType"), (.object "com/example/rooted_kinds/rootedkinds/model/ValueType"), (.object "com/example/rooted_kinds/rootedkinds/model/ValueType"), (.object "com/example/rooted_kinds/rootedkinds/model/ValueType"), (.object "com/example/rooted_kinds/rootedkinds/model/ValueType"), (.object "com/example/rooted_kinds/rootedkinds/model/ValueType"), (.object "com/example/rooted_kinds/rootedkinds/model/ValueType"), (.object "com/example/rooted_kinds/rootedkinds/model/ValueType"), (.object "com/example/rooted_kinds/rootedkinds/model/ValueType"), (.object "com/example/rooted_kinds/rootedkinds/model/ValueType"), .int, .int, (.object "java/lang/ClassValue"), (.array (.object "com/example/rooted_kinds/rootedkinds/model/ValueType"))]
  resolved := Array.replicate 301 none
  statics := some 0 }

def pool7 : Array CpInfo := pool [(1, .class_ 2), (0, u "com/example/rooted_kinds/rootedkinds/model/ValueType$Representation"), (2, u "NULL"), (0, u "Lcom/example/rooted_kinds/rootedkinds/model/ValueType$Representation;"), (2, u "INT64"), (2, u "BOOLEAN"), (2, u "STRING"), (2, u "DOUBLE"), (2, u "POINT"), (2, u "USER"), (2, u "REFERENCE"), (2, u "$VALUES"), (0, u "[Lcom/example/rooted_kinds/rootedkinds/model/ValueType$Representation;"), (6, .class_ 40), (1, u "java/lang/Enum"), (31, .class_ 73), (0, u "com/example/rooted_kinds/rootedkinds/model/ValueType")] 2

/-- com/example/rooted_kinds/rootedkinds/model/ValueType$Representation -/
def k7 : Class := { plain "com/example/rooted_kinds/rootedkinds/model/ValueType$Representation" (some 5) with
  accessFlags := 16433
  interfaces := #[]
  cf := some (fileOf pool7 1 #[.nestHost 72] #[] 16433 38 #[] #[{ accessFlags := 16409, nameIndex := 5, descriptorIndex := 6, attributes := #[] }, { accessFlags := 16409, nameIndex := 9, descriptorIndex := 6, attributes := #[] }, { accessFlags := 16409, nameIndex := 12, descriptorIndex := 6, attributes := #[] }, { accessFlags := 16409, nameIndex := 15, descriptorIndex := 6, attributes := #[] }, { accessFlags := 16409, nameIndex := 18, descriptorIndex := 6, attributes := #[] }, { accessFlags := 16409, nameIndex := 21, descriptorIndex := 6, attributes := #[] }, { accessFlags := 16409, nameIndex := 24, descriptorIndex := 6, attributes := #[] }, { accessFlags := 16409, nameIndex := 27, descriptorIndex := 6, attributes := #[] }, { accessFlags := 4122, nameIndex := 30, descriptorIndex := 31, attributes := #[] }])
  fields := #[{ name := "NULL", type := (.object "com/example/rooted_kinds/rootedkinds/model/ValueType$Representation"), accessFlags := 16409, slot := 0, constantValue := 0 }, { name := "INT64", type := (.object "com/example/rooted_kinds/rootedkinds/model/ValueType$Representation"), accessFlags := 16409, slot := 1, constantValue := 0 }, { name := "BOOLEAN", type := (.object "com/example/rooted_kinds/rootedkinds/model/ValueType$Representation"), accessFlags := 16409, slot := 2, constantValue := 0 }, { name := "STRING", type := (.object "com/example/rooted_kinds/rootedkinds/model/ValueType$Representation"), accessFlags := 16409, slot := 3, constantValue := 0 }, { name := "DOUBLE", type := (.object "com/example/rooted_kinds/rootedkinds/model/ValueType$Representation"), accessFlags := 16409, slot := 4, constantValue := 0 }, { name := "POINT", type := (.object "com/example/rooted_kinds/rootedkinds/model/ValueType$Representation"), accessFlags := 16409, slot := 5, constantValue := 0 }, { name := "USER", type := (.object "com/example/rooted_kinds/rootedkinds/model/ValueType$Representation"), accessFlags := 16409, slot := 6, constantValue := 0 }, { name := "REFERENCE", type := (.object "com/example/rooted_kinds/rootedkinds/model/ValueType$Representation"), accessFlags := 16409, slot := 7, constantValue := 0 }, { name := "$VALUES", type := (.array (.object "com/example/rooted_kinds/rootedkinds/model/ValueType$Representation")), accessFlags := 4122, slot := 8, constantValue := 0 }]
  methods := #[]
  instanceTypes := #[(.object "java/lang/String"), .int, .int]
  staticTypes := #[(.object "com/example/rooted_kinds/rootedkinds/model/ValueType$Representation"), (.object "com/example/rooted_kinds/rootedkinds/model/ValueType$Representation"), (.object "com/example/rooted_kinds/rootedkinds/model/ValueType$Representation"), (.object "com/example/rooted_kinds/rootedkinds/model/ValueType$Representation"), (.object "com/example/rooted_kinds/rootedkinds/model/ValueType$Representation"), (.object "com/example/rooted_kinds/rootedkinds/model/ValueType$Representation"), (.object "com/example/rooted_kinds/rootedkinds/model/ValueType$Representation"), (.object "com/example/rooted_kinds/rootedkinds/model/ValueType$Representation"), (.array (.object "com/example/rooted_kinds/rootedkinds/model/ValueType$Representation"))]
  resolved := Array.replicate 76 none
  statics := some 1 }

def pool8 : Array CpInfo := pool [(1, u "java/lang/Cloneable"), (0, .class_ 1), (0, u "java/lang/Object"), (0, .class_ 3)] 3

/-- java/lang/Cloneable -/
def k8 : Class := { plain "java/lang/Cloneable" (some 0) with
  accessFlags := 1537
  interfaces := #[]
  cf := some (fileOf pool8 2 #[] #[] 1537 4 #[] #[])
  fields := #[]
  methods := #[]
  instanceTypes := #[]
  staticTypes := #[]
  resolved := Array.replicate 8 none
  statics := none }

/-- the primitive byte -/
def k9 : Class := { plain "byte" none with kind := .primitive 'B', accessFlags := 0x411 }
/-- [B -/
def k10 : Class := { plain "[B" (some 0) with kind := .array 9 .byte, interfaces := #[8, 4], accessFlags := 1041 }

/-- the primitive int -/
def k11 : Class := { plain "int" none with kind := .primitive 'I', accessFlags := 0x411 }
/-- [I -/
def k12 : Class := { plain "[I" (some 0) with kind := .array 11 .int, interfaces := #[8, 4], accessFlags := 1041 }

/-- [Lcom/example/rooted_kinds/rootedkinds/model/ValueType; -/
def k13 : Class := { plain "[Lcom/example/rooted_kinds/rootedkinds/model/ValueType;" (some 0) with kind := .array 6 (.object "com/example/rooted_kinds/rootedkinds/model/ValueType"), interfaces := #[8, 4], accessFlags := 1041 }

def heap : Heap := #[{ cls := 6, slots := #[.ref 2, .ref 3, .ref 4, .ref 5, .ref 6, .ref 7, .ref 8, .ref 9, .ref 10, .ref 11, .ref 12, .ref 13, .ref 14, .ref 15, .ref 16, .ref 17, .ref 18, .ref 19, .ref 20, .ref 21, .ref 22, .ref 23, .int 0, .int 0, .null, .null], vm := .statics 6 },
  { cls := 7, slots := #[.ref 24, .ref 28, .ref 25, .ref 26, .ref 27, .ref 29, .ref 31, .ref 30, .null], vm := .statics 7 },
  { cls := 6, slots := #[.null, .int 0, .int 0, .ref 24, .null], vm := .none },
  { cls := 6, slots := #[.null, .int 1, .int 0, .ref 28, .null], vm := .none },
  { cls := 6, slots := #[.null, .int 2, .int 0, .ref 27, .null], vm := .none },
  { cls := 6, slots := #[.null, .int 3, .int 0, .ref 25, .null], vm := .none },
  { cls := 6, slots := #[.null, .int 4, .int 0, .ref 26, .null], vm := .none },
  { cls := 6, slots := #[.null, .int 5, .int 0, .ref 28, .null], vm := .none },
  { cls := 6, slots := #[.null, .int 6, .int 0, .null, .null], vm := .none },
  { cls := 6, slots := #[.null, .int 7, .int 0, .null, .null], vm := .none },
  { cls := 6, slots := #[.null, .int 8, .int 0, .ref 26, .null], vm := .none },
  { cls := 6, slots := #[.null, .int 9, .int 0, .ref 29, .null], vm := .none },
  { cls := 6, slots := #[.null, .int 10, .int 0, .ref 26, .null], vm := .none },
  { cls := 6, slots := #[.null, .int 11, .int 0, .ref 26, .null], vm := .none },
  { cls := 6, slots := #[.null, .int 12, .int 0, .ref 26, .null], vm := .none },
  { cls := 6, slots := #[.null, .int 13, .int 0, .ref 26, .null], vm := .none },
  { cls := 6, slots := #[.null, .int 14, .int 0, .ref 26, .null], vm := .none },
  { cls := 6, slots := #[.null, .int 15, .int 0, .ref 26, .null], vm := .none },
  { cls := 6, slots := #[.null, .int 16, .int 0, .ref 28, .null], vm := .none },
  { cls := 6, slots := #[.null, .int 17, .int 0, .ref 31, .null], vm := .none },
  { cls := 6, slots := #[.null, .int 18, .int 0, .ref 26, .null], vm := .none },
  { cls := 6, slots := #[.null, .int 19, .int 0, .ref 30, .null], vm := .none },
  { cls := 6, slots := #[.null, .int 20, .int 0, .null, .null], vm := .none },
  { cls := 6, slots := #[.null, .int 21, .int 0, .null, .null], vm := .none },
  { cls := 7, slots := #[.null, .int 0, .int 0], vm := .none },
  { cls := 7, slots := #[.null, .int 0, .int 0], vm := .none },
  { cls := 7, slots := #[.null, .int 0, .int 0], vm := .none },
  { cls := 7, slots := #[.null, .int 0, .int 0], vm := .none },
  { cls := 7, slots := #[.null, .int 0, .int 0], vm := .none },
  { cls := 7, slots := #[.null, .int 0, .int 0], vm := .none },
  { cls := 7, slots := #[.null, .int 0, .int 0], vm := .none },
  { cls := 7, slots := #[.null, .int 0, .int 0], vm := .none }]
def classes : Array Class := #[k0, k1, k2, k3, k4, k5, k6, k7, k8, k9, k10, k11, k12, k13]
def interned : List (Array UInt16 × Addr) := []
def slotsUsed : Nat := 169
def theMethod : MethodId := ⟨1, 1⟩
def args0 : Array Value := #[.int 5]
def aboutOver (below : List Frame) : State where
  vm := { classes := classes, interned := interned.toArray }
  heap := heap
  slotsUsed := slotsUsed
  threads := #[{ frames := .invoking theMethod args0 :: below }]
def below0 : List Frame := [.native { method := ⟨0, 0⟩, args := #[] }]
def about1 : State := aboutOver below0
def p0 : Program := .bare "" "" ""
def e0 : Env := launch0.env 0 0 0
theorem w_frames : about1.frames = Frame.invoking theMethod args0 :: below0 := rfl
set_option maxRecDepth 65536 in
theorem w_args : argsFit about1.vm theMethod args0 = true := by decide +kernel
set_option maxRecDepth 65536 in
theorem w_heap : heapFits about1 = true := by decide +kernel
set_option maxRecDepth 65536 in
theorem w_runnable : about1.curStatus? = some .runnable := by decide +kernel
set_option maxRecDepth 65536 in
theorem w_alone : about1.alone = true := by decide +kernel
set_option maxRecDepth 65536 in
theorem w_named : about1.methodNamed? x = some theMethod := by decide +kernel
set_option maxRecDepth 65536 in
theorem w_hears : about1.hears theMethod below0 = true := by decide +kernel
set_option maxRecDepth 65536 in
theorem w_ripe : about1.ripe theMethod args0 below0 = true := by decide +kernel
theorem w_running : about1.status = .running := rfl
set_option maxRecDepth 65536 in
theorem w_room : about1.hasRoom e0.platform room_1 = true :=
  launch0.hasRoom_least _ room_1 (by decide +kernel) (by decide +kernel) (by decide +kernel) (by decide +kernel) (by decide +kernel) (by decide +kernel)
theorem allAtoms_all (ts : List Jvm.Cond) (a : Array Jvm.Value) (st : Jvm.State) : (allAtoms ts).before a st = ts.all (fun c => c.before a st) := by
  induction ts with
  | nil => rfl
  | cons c t ih =>
    show (Jvm.Cond.and c (allAtoms t)).before a st = _
    rw [Jvm.Cond.before_and, ih, List.all_cons]
def words1 : List Jvm.Cond := Jvm.Cond.code x code maxLocals ret :: tables_1
/-- a 'code' word, met by the world's own term for the bytes: nothing is compared byte by byte -/
theorem code_word {y : MethodName} {bytes : ByteArray} {mx : Nat} {rt : Option FieldType} {a : Array Value} {s : State} {m : MethodId} {meth : Method} {c : Code} (h1 : s.methodNamed? y = some m) (h2 : s.vm.method? m = some meth) (h3 : meth.code = some c) (h4 : c.code = bytes)
    (h5 : (c.maxLocals == mx && c.exceptionTable.isEmpty && decide (c.maxStack ≤ mostOperands) && decide (meth.sig.returnType = rt) && !meth.locks && decide (parseMethodDescriptor y.desc = some meth.sig)) = true) : (Jvm.Cond.code y bytes mx rt).before a s = true := by
  simp only [Bool.and_eq_true, beq_iff_eq, Bool.not_eq_true', decide_eq_true_eq] at h5
  obtain ⟨⟨⟨⟨⟨g1, g2⟩, g3⟩, g4⟩, g5⟩, g6⟩ := h5
  simp [Cond.before, Cond.holds, Cond.value, h1, h2, h3, h4, g1, g2, g3, g4, g5, g6]
def isCode : Jvm.Cond → Bool
  | .code _ _ _ _ => true
  | _ => false
theorem all_split {L : List Jvm.Cond} {P : Jvm.Cond → Bool} (h1 : L.all (fun c => isCode c || P c) = true) (h2 : ∀ c ∈ L.filter isCode, P c = true) : L.all P = true := by
  refine List.all_eq_true.mpr fun c hc => ?_
  have h := List.all_eq_true.mp h1 c hc
  rcases Bool.eq_false_or_eq_true (isCode c) with hi | hi
  · exact h2 c (List.mem_filter.mpr ⟨hc, hi⟩)
  · simpa [hi] using h
set_option maxRecDepth 65536 in
theorem w_c0 : (Jvm.Cond.code x code maxLocals ret).before args0 about1 = true := code_word (m := ⟨1, 1⟩) (meth := k1m1) (c := k1c1) (by decide +kernel) rfl rfl rfl (by decide +kernel)
set_option maxRecDepth 65536 in
theorem w_c1 : (Jvm.Cond.code ({ cls := "com/example/rooted_kinds/rootedkinds/model/ValueType", name := "isIndexed", desc := "()Z" } : Jvm.MethodName) prog_64_method_6_code (1 : Nat) (Option.some Jvm.ClassFile.FieldType.boolean)).before args0 about1 = true := code_word (m := ⟨6, 0⟩) (meth := k6m0) (c := k6c0) (by decide +kernel) rfl rfl rfl (by decide +kernel)
def codes1 : List Jvm.Cond := [Jvm.Cond.code x code maxLocals ret, Jvm.Cond.code ({ cls := "com/example/rooted_kinds/rootedkinds/model/ValueType", name := "isIndexed", desc := "()Z" } : Jvm.MethodName) prog_64_method_6_code (1 : Nat) (Option.some Jvm.ClassFile.FieldType.boolean)]
set_option maxRecDepth 65536 in
theorem codes_eq : words1.filter isCode = codes1 := rfl
theorem w_codes : ∀ c ∈ words1.filter isCode, c.before args0 about1 = true := by
  rw [codes_eq]
  intro c hc
  simp only [codes1, List.mem_cons, List.not_mem_nil, or_false] at hc
  rcases hc with rfl | rfl
  · exact w_c0
  · exact w_c1
set_option maxRecDepth 65536 in
theorem w_t1 : (words1.take 24).all (fun c => isCode c || c.before args0 about1) = true := by decide +kernel
set_option maxRecDepth 65536 in
theorem w_t2 : ((words1.drop 24).take 24).all (fun c => isCode c || c.before args0 about1) = true := by decide +kernel
set_option maxRecDepth 65536 in
theorem w_t3 : ((words1.drop 24).drop 24).all (fun c => isCode c || c.before args0 about1) = true := by decide +kernel
theorem w_tables : (allAtoms (Jvm.Cond.code x code maxLocals ret :: tables_1)).before args0 about1 = true := by
  rw [allAtoms_all]
  show words1.all (fun c => c.before args0 about1) = true
  refine all_split ?_ w_codes
  rw [← List.take_append_drop 24 words1, List.all_append, w_t1, ← List.take_append_drop 24 (words1.drop 24), List.all_append, w_t2, w_t3]
  rfl
set_option maxRecDepth 65536 in
theorem w_case : (Jvm.Cond.and given_1 narrow_1).before args0 about1 = true := by decide +kernel
theorem w_applies : (headSpec (Jvm.Cond.code x code maxLocals ret :: tables_1) room_1).applies x e0.platform about1 = true :=
  (Spec.applies_iff w_frames).mpr ⟨w_running, w_runnable, w_alone, w_named, w_hears, w_ripe, w_room, w_tables⟩
theorem atStart : AtStart classFile x code maxLocals ret World_1 tables_1 room_1 Calls_1 rest_1 Pre_1 launch0 p0 e0 about1 theMethod args0 below0 :=
  ⟨lists_1, trivial, launch0.admits_env _ _ _, launch0.least_env, fairChoices_fair.cas, fairChoices_fair.clock, w_frames, w_args, w_heap, w_applies, trivial, trivial, w_case⟩
end start1
theorem witness_1 : WitnessClaimed_1 := ⟨start1.p0, start1.e0, start1.about1, start1.theMethod, start1.args0, start1.below0, start1.atStart⟩
end Jvm.Pilot.@@N@@
