import JvmDerived
import JvmDerived.Pilot.@@N@@Statement
import JvmDerived.Pilot.@@N@@Code
set_option linter.unusedVariables false
set_option linter.unusedSimpArgs false
namespace Jvm.Pilot.@@N@@
open Jvm Jvm.ClassFile Sem Op Lib Jvm.Free Jvm.Stand Jvm.LawKit Jvm.RoadKit Bundle Jvm.Pilot.@@N@@.Jvm.D
/-! what is left of a run: it comes to its end, and there Q holds -/
def oG (p : Program) (e : Env) (below : List Frame) (s : State) (Q : Option Value → Heap → List Loc → Prop) (rc rs : Nat) (S : State) : Prop :=
  ∃ s₂ o, Steps p.tables e below S s₂ ∧ s₂.status = .running ∧ Ended s₂ below o ∧ ∃ v L, o = .returned v ∧ Q v s₂.heap L ∧ FrameEnd s o s₂ L rc rs
theorem oS {p : Program} {e : Env} {below : List Frame} {s : State} {Q : Option Value → Heap → List Loc → Prop} {rc rs : Nat} {S S' : State} (k : ∀ t, Steps p.tables e below S' t → Steps p.tables e below S t) (g : oG p e below s Q rc rs S') : oG p e below s Q rc rs S := by
  obtain ⟨s₂, o, h1, h2⟩ := g
  exact ⟨s₂, o, k _ h1, h2⟩
theorem own_ret {p : Program} {l : Launch} {e : Env} {R : Room} {s : State} {m : MethodId} {args : Array Value} {below : List Frame} {meth : Method} {c : Code} {T : State} {locs : List Loc} {cells slots : Nat} {Q : Option Value → Heap → List Loc → Prop} {rc rs : Nat} {S : State} {v : Option Value} (X : Stand p l e R s m args below meth c T locs cells slots) (hv : meth.sig.returnType = none → v = none) (hlocks : meth.locks = false)
    (st : ∀ fs, (∀ (f : JFrame) (acts : List Action), f.method = m → f.locked = none → f.entered = [] → (doReturn e (T.setTop f) acts v).1 = T.setFrames fs) → Steps p.tables e below S (T.setFrames fs)) (q : Q v T.heap locs) (hc : cells ≤ rc) (hs : slots ≤ rs) : oG p e below s Q rc rs S := by
  obtain ⟨fs, hr, hrun, hended, hW, hsame⟩ := X.leave hv hlocks
  exact ⟨_, _, st fs hr, hrun, hended, _, _, rfl, q, ⟨_, rfl⟩, hW, hsame.mono hc hs⟩
theorem oIc {tb : Tables} [Ours tb] {e : Env} {below : List Frame} {T target : State} {m : MethodId} {c : Code} {g : JFrame} {i : Int} {z : Int32} (hz : Int32.ofInt i = z) (h : At T m c below) (hx : tb.exec = Jvm.exec) (hg : g.method = m) (hd : decode c.code g.pc = .ok (.iconst i, 1)) (hr : Steps tb e below (T.setTop { g with pc := g.pc + 1, stack := .int z :: g.stack }) target) : Steps tb e below (T.setTop g) target := XS.iconst h hx hg hd (by rw [hz]; exact hr)
theorem oBp {tb : Tables} [Ours tb] {e : Env} {below : List Frame} {T target : State} {m : MethodId} {c : Code} {g : JFrame} {i : Int} {z : Int32} (hz : (Int8.ofInt i).toInt32 = z) (h : At T m c below) (hx : tb.exec = Jvm.exec) (hg : g.method = m) (hd : decode c.code g.pc = .ok (.bipush i, 2)) (hr : Steps tb e below (T.setTop { g with pc := g.pc + 2, stack := .int z :: g.stack }) target) : Steps tb e below (T.setTop g) target := XS.bipush h hx hg hd (by rw [hz]; exact hr)
theorem oSp {tb : Tables} [Ours tb] {e : Env} {below : List Frame} {T target : State} {m : MethodId} {c : Code} {g : JFrame} {i : Int} {z : Int32} (hz : (Int16.ofInt i).toInt32 = z) (h : At T m c below) (hx : tb.exec = Jvm.exec) (hg : g.method = m) (hd : decode c.code g.pc = .ok (.sipush i, 3)) (hr : Steps tb e below (T.setTop { g with pc := g.pc + 3, stack := .int z :: g.stack }) target) : Steps tb e below (T.setTop g) target := XS.sipush h hx hg hd (by rw [hz]; exact hr)
theorem oLc {tb : Tables} [Ours tb] {e : Env} {below : List Frame} {T target : State} {m : MethodId} {c : Code} {g : JFrame} {i : Fin 2} {z : Int64} (hz : Int64.ofNat i = z) (h : At T m c below) (hx : tb.exec = Jvm.exec) (hg : g.method = m) (hd : decode c.code g.pc = .ok (.lconst i, 1)) (hr : Steps tb e below (T.setTop { g with pc := g.pc + 1, stack := .long z :: g.stack }) target) : Steps tb e below (T.setTop g) target := XS.lconst h hx hg hd (by rw [hz]; exact hr)
theorem oW {a0 : Array Value} {Z : State} (hw : ∀ d ∈ tables_1, d.before a0 Z = true) (i : Nat) {d : Jvm.Cond} (h : tables_1[i]? = some d) : d.before a0 Z = true := hw _ (List.mem_of_getElem? h)
theorem own_eqv {args : Array Value} {s : State} {a b : Term} {v : Value} (h : (Jvm.Cond.eq a b).value args s none s [] = some true) (hb : b.eval args s none [] s = some v) : a.eval args s none [] s = some v := by
  obtain ⟨x, y, ha, hb', -, -⟩ := cmp_v (Or.inl h)
  cases hb.symm.trans hb'
  rw [ha]
  cases x <;> cases v <;> simp [Cond.value, ha, hb] at h ⊢ <;> exact h
theorem own_len {args : Array Value} {s : State} {t : Term} {a : Addr} {cl : Cell} {ty : FieldType} {z : Int32} (h : (Term.length t).eval args s none [] s = some (.int z)) (ht : t.eval args s none [] s = some (.ref a)) (A : Arr s s.heap a cl ty) : cl.slots.size < 2 ^ 31 ∧ cl.slots.size.toInt32 = z := by
  have hA := A.fin (Vm.Alike.refl _)
  obtain ⟨a', cell, h1, h2, h3⟩ := Term.length_spec h
  cases ht.symm.trans h1
  cases hA.symm.trans h2
  refine ⟨?_, (Value.int.inj h3).symm⟩
  simp only [Term.eval, ht, hA, Option.bind_eq_bind, Option.bind_some] at h
  split at h
  · assumption
  · cases h
theorem own_sz {n : Nat} {z : Int32} (h1 : n < 2 ^ 31) (h2 : n.toInt32 = z) : n = z.toNatClampNeg := by
  rw [← h2]; simp only [Int32.toNatClampNeg, len_toInt h1]; rfl
theorem own_box {args : Array Value} {s : State} {t : Term} {a : Addr} {c : Cell} {K : String} {G : Jvm.Cond} (et : ∀ idx, t.eval args s none idx s = some (.ref a)) (A : Arr s s.heap a c (.object K)) (h : (Jvm.Cond.all t (.and (.exactly (.elem t (.index 0)) K) G)).value args s none s [] = some true) :
    ∀ j : Int32, ¬ (j < 0 ∨ c.slots.size ≤ j.toNatClampNeg) → ∃ b : Addr, c.slots[j.toNatClampNeg]? = some (.ref b) ∧ Exa s s.heap b K := fun j hj => by
  have nn : ¬ j < 0 := fun x => hj (Or.inl x)
  obtain ⟨u1, -⟩ := and_e (Cond.all_elim (et []) (A.fin (Vm.Alike.refl _)) h j.toNatClampNeg (Nat.lt_of_not_le fun x => hj (Or.inr x)))
  obtain ⟨b, eb⟩ := exa_v u1
  exact ⟨b, (elem_f (et _) (idx_at nn) (A.fin (Vm.Alike.refl _)) nn).symm.trans eb, exa_at eb u1⟩
theorem own_neI {Z : State} {h : Heap} {a b : Addr} {C n d : String} {x y : Int32} (F : Fld Z h a C n d (.int x)) (G : Fld Z h b C n d (.int y)) (hn : x ≠ y) : ¬ a = b := fun e => by
  subst e
  obtain ⟨c1, cf1, k1, i1, f1, a1, a2, -, -, -, -, a7⟩ := F
  obtain ⟨c2, cf2, k2, i2, f2, b1, b2, -, -, -, -, b7⟩ := G
  cases a1.symm.trans b1
  cases a2.symm.trans b2
  cases a7.symm.trans b7
  exact hn rfl
theorem own_neJ {Z : State} {h : Heap} {a b : Addr} {C n d : String} {x y : Int64} (F : Fld Z h a C n d (.long x)) (G : Fld Z h b C n d (.long y)) (hn : x ≠ y) : ¬ a = b := fun e => by
  subst e
  obtain ⟨c1, cf1, k1, i1, f1, a1, a2, -, -, -, -, a7⟩ := F
  obtain ⟨c2, cf2, k2, i2, f2, b1, b2, -, -, -, -, b7⟩ := G
  cases a1.symm.trans b1
  cases a2.symm.trans b2
  cases a7.symm.trans b7
  exact hn rfl
theorem own_four (p : Int32) : (p &&& (3 : Int32)) = (0 : Int32) ∨ (p &&& (3 : Int32)) = (1 : Int32) ∨ (p &&& (3 : Int32)) = (2 : Int32) ∨ (p &&& (3 : Int32)) = (3 : Int32) := by
  have h0 : (p &&& (3 : Int32)).toInt = p.toInt % 4 := c_mask p 3 2 (by decide) (by decide)
  generalize (p &&& (3 : Int32)) = z at *
  have e0 : (0 : Int32).toInt = 0 := rfl
  have e1 : (1 : Int32).toInt = 1 := rfl
  have e2 : (2 : Int32).toInt = 2 := rfl
  have e3 : (3 : Int32).toInt = 3 := rfl
  simp only [← Int32.toInt_inj, e0, e1, e2, e3]
  omega
theorem own_three (p : Int32) : ((p &&& (2147483647 : Int32)) % (3 : Int32)) = (0 : Int32) ∨ ((p &&& (2147483647 : Int32)) % (3 : Int32)) = (1 : Int32) ∨ ((p &&& (2147483647 : Int32)) % (3 : Int32)) = (2 : Int32) := by
  have h0 : (p &&& (2147483647 : Int32)).toInt = p.toInt % 2147483648 := c_mask p 2147483647 31 (by decide) (by decide)
  have h1 := (c_irem (p &&& (2147483647 : Int32)) 3 3 rfl).1 (by omega)
  generalize ((p &&& (2147483647 : Int32)) % (3 : Int32)) = z at *
  have e0 : (0 : Int32).toInt = 0 := rfl
  have e1 : (1 : Int32).toInt = 1 := rfl
  have e2 : (2 : Int32).toInt = 2 := rfl
  simp only [← Int32.toInt_inj, e0, e1, e2]
  omega
def own_World (Z : State) (w : Nat → Addr) : Prop := Sta Z Z.heap "com/example/planwright/planwright/model/Expression$Operator" "ADD" "Lcom/example/planwright/planwright/model/Expression$Operator;" (.ref (w 0)) ∧ Exa Z Z.heap (w 0) "com/example/planwright/planwright/model/Expression$Operator" ∧ Sta Z Z.heap "com/example/planwright/planwright/model/ValueType" "NUMBER" "Lcom/example/planwright/planwright/model/ValueType;" (.ref (w 1)) ∧ Exa Z Z.heap (w 1) "com/example/planwright/planwright/model/ValueType" ∧ Sta Z Z.heap "com/example/planwright/planwright/model/ValueType" "FLAG" "Lcom/example/planwright/planwright/model/ValueType;" (.ref (w 2)) ∧ Exa Z Z.heap (w 2) "com/example/planwright/planwright/model/ValueType" ∧ Sta Z Z.heap "com/example/planwright/planwright/model/ValueType" "DATE" "Lcom/example/planwright/planwright/model/ValueType;" (.ref (w 3)) ∧ Exa Z Z.heap (w 3) "com/example/planwright/planwright/model/ValueType" ∧ Sta Z Z.heap "com/example/planwright/planwright/model/Expression$Operator" "SUBTRACT" "Lcom/example/planwright/planwright/model/Expression$Operator;" (.ref (w 4)) ∧ Exa Z Z.heap (w 4) "com/example/planwright/planwright/model/Expression$Operator" ∧ Sta Z Z.heap "com/example/planwright/planwright/model/Expression$Operator" "DIVIDE" "Lcom/example/planwright/planwright/model/Expression$Operator;" (.ref (w 5)) ∧ Exa Z Z.heap (w 5) "com/example/planwright/planwright/model/Expression$Operator" ∧ Sta Z Z.heap "com/example/planwright/planwright/model/Expression$Operator" "MULTIPLY" "Lcom/example/planwright/planwright/model/Expression$Operator;" (.ref (w 6)) ∧ Exa Z Z.heap (w 6) "com/example/planwright/planwright/model/Expression$Operator" ∧ Sta Z Z.heap "java/util/Optional" "EMPTY" "Ljava/util/Optional;" (.ref (w 7)) ∧ Exa Z Z.heap (w 7) "java/util/Optional" ∧ Fld Z Z.heap (w 2) "java/lang/Enum" "ordinal" "I" (.int 2) ∧ Fld Z Z.heap (w 1) "java/lang/Enum" "ordinal" "I" (.int 0) ∧ Fld Z Z.heap (w 0) "java/lang/Enum" "ordinal" "I" (.int 0) ∧ Fld Z Z.heap (w 3) "java/lang/Enum" "ordinal" "I" (.int 1) ∧ Fld Z Z.heap (w 5) "java/lang/Enum" "ordinal" "I" (.int 3) ∧ Fld Z Z.heap (w 6) "java/lang/Enum" "ordinal" "I" (.int 2) ∧ Fld Z Z.heap (w 4) "java/lang/Enum" "ordinal" "I" (.int 1) ∧ Fld Z Z.heap (w 7) "java/util/Optional" "value" "Ljava/lang/Object;" .null
theorem own_world {args : Array Value} {s : State} (hw : ∀ d ∈ tables_1, d.before args s = true) (hfit : Fit s) (hs : ∀ d ∈ jdkStatics_1, d.before args s = true) (hn : narrow_1.value args s none s [] = some true) : ∃ w : Nat → Addr, own_World s w := by
  obtain ⟨h0, q1⟩ := and_e hn
  obtain ⟨h1, q3⟩ := and_e q1
  obtain ⟨h2, q5⟩ := and_e q3
  obtain ⟨h3, q7⟩ := and_e q5
  obtain ⟨h4, q9⟩ := and_e q7
  obtain ⟨h5, q11⟩ := and_e q9
  obtain ⟨h6, q13⟩ := and_e q11
  obtain ⟨h7, q15⟩ := and_e q13
  obtain ⟨h8, q17⟩ := and_e q15
  obtain ⟨h9, q19⟩ := and_e q17
  obtain ⟨h10, q21⟩ := and_e q19
  obtain ⟨h11, q23⟩ := and_e q21
  obtain ⟨h12, h13⟩ := and_e q23
  have hj2 := Cond.before_iff.mp (hs _ (List.mem_of_getElem? (i := 2) rfl))
  have hj3 := Cond.before_iff.mp (hs _ (List.mem_of_getElem? (i := 3) rfl))
  obtain ⟨c0, e0⟩ := exa_v h0
  obtain ⟨c1, e1⟩ := exa_v h1
  obtain ⟨c2, e2⟩ := exa_v h2
  obtain ⟨c3, e3⟩ := exa_v h3
  obtain ⟨c4, e4⟩ := exa_v h8
  obtain ⟨c5, e5⟩ := exa_v h9
  obtain ⟨c6, e6⟩ := exa_v h11
  obtain ⟨c7, e7⟩ := exa_v hj2
  exact ⟨fun n => ([c0, c1, c2, c3, c4, c5, c6, c7] : List Nat).getD n 0, Sta.start e0 (Or.inr ⟨(oW hw 7 rfl), (oW hw 8 rfl)⟩), Exa.start e0 h0, Sta.start e1 (Or.inr ⟨(oW hw 13 rfl), (oW hw 14 rfl)⟩), Exa.start e1 h1, Sta.start e2 (Or.inr ⟨(oW hw 13 rfl), (oW hw 16 rfl)⟩), Exa.start e2 h2, Sta.start e3 (Or.inr ⟨(oW hw 13 rfl), (oW hw 24 rfl)⟩), Exa.start e3 h3, Sta.start e4 (Or.inr ⟨(oW hw 7 rfl), (oW hw 47 rfl)⟩), Exa.start e4 h8, Sta.start e5 (Or.inr ⟨(oW hw 7 rfl), (oW hw 68 rfl)⟩), Exa.start e5 h9, Sta.start e6 (Or.inr ⟨(oW hw 7 rfl), (oW hw 70 rfl)⟩), Exa.start e6 h11, Sta.start e7 (Or.inl (hs _ (List.mem_of_getElem? (i := 1) rfl))), Exa.start e7 hj2, Fld.start ((fld_at e2).symm.trans (own_eqv h4 rfl)), Fld.start ((fld_at e1).symm.trans (own_eqv h5 rfl)), Fld.start ((fld_at e0).symm.trans (own_eqv h6 rfl)), Fld.start ((fld_at e3).symm.trans (own_eqv h7 rfl)), Fld.start ((fld_at e5).symm.trans (own_eqv h10 rfl)), Fld.start ((fld_at e6).symm.trans (own_eqv h12 rfl)), Fld.start ((fld_at e4).symm.trans (own_eqv h13 rfl)), Fld.start ((fld_at e7).symm.trans (own_eqv hj3 rfl))⟩
theorem wS0 {Z : State} {w : Nat → Addr} (W : own_World Z w) : Sta Z Z.heap "com/example/planwright/planwright/model/Expression$Operator" "ADD" "Lcom/example/planwright/planwright/model/Expression$Operator;" (.ref (w 0)) := W.1
theorem wE0 {Z : State} {w : Nat → Addr} (W : own_World Z w) : Exa Z Z.heap (w 0) "com/example/planwright/planwright/model/Expression$Operator" := W.2.1
theorem wS1 {Z : State} {w : Nat → Addr} (W : own_World Z w) : Sta Z Z.heap "com/example/planwright/planwright/model/ValueType" "NUMBER" "Lcom/example/planwright/planwright/model/ValueType;" (.ref (w 1)) := W.2.2.1
theorem wE1 {Z : State} {w : Nat → Addr} (W : own_World Z w) : Exa Z Z.heap (w 1) "com/example/planwright/planwright/model/ValueType" := W.2.2.2.1
theorem wS2 {Z : State} {w : Nat → Addr} (W : own_World Z w) : Sta Z Z.heap "com/example/planwright/planwright/model/ValueType" "FLAG" "Lcom/example/planwright/planwright/model/ValueType;" (.ref (w 2)) := W.2.2.2.2.1
theorem wE2 {Z : State} {w : Nat → Addr} (W : own_World Z w) : Exa Z Z.heap (w 2) "com/example/planwright/planwright/model/ValueType" := W.2.2.2.2.2.1
theorem wS3 {Z : State} {w : Nat → Addr} (W : own_World Z w) : Sta Z Z.heap "com/example/planwright/planwright/model/ValueType" "DATE" "Lcom/example/planwright/planwright/model/ValueType;" (.ref (w 3)) := W.2.2.2.2.2.2.1
theorem wE3 {Z : State} {w : Nat → Addr} (W : own_World Z w) : Exa Z Z.heap (w 3) "com/example/planwright/planwright/model/ValueType" := W.2.2.2.2.2.2.2.1
theorem wS4 {Z : State} {w : Nat → Addr} (W : own_World Z w) : Sta Z Z.heap "com/example/planwright/planwright/model/Expression$Operator" "SUBTRACT" "Lcom/example/planwright/planwright/model/Expression$Operator;" (.ref (w 4)) := W.2.2.2.2.2.2.2.2.1
theorem wE4 {Z : State} {w : Nat → Addr} (W : own_World Z w) : Exa Z Z.heap (w 4) "com/example/planwright/planwright/model/Expression$Operator" := W.2.2.2.2.2.2.2.2.2.1
theorem wS5 {Z : State} {w : Nat → Addr} (W : own_World Z w) : Sta Z Z.heap "com/example/planwright/planwright/model/Expression$Operator" "DIVIDE" "Lcom/example/planwright/planwright/model/Expression$Operator;" (.ref (w 5)) := W.2.2.2.2.2.2.2.2.2.2.1
theorem wE5 {Z : State} {w : Nat → Addr} (W : own_World Z w) : Exa Z Z.heap (w 5) "com/example/planwright/planwright/model/Expression$Operator" := W.2.2.2.2.2.2.2.2.2.2.2.1
theorem wS6 {Z : State} {w : Nat → Addr} (W : own_World Z w) : Sta Z Z.heap "com/example/planwright/planwright/model/Expression$Operator" "MULTIPLY" "Lcom/example/planwright/planwright/model/Expression$Operator;" (.ref (w 6)) := W.2.2.2.2.2.2.2.2.2.2.2.2.1
theorem wE6 {Z : State} {w : Nat → Addr} (W : own_World Z w) : Exa Z Z.heap (w 6) "com/example/planwright/planwright/model/Expression$Operator" := W.2.2.2.2.2.2.2.2.2.2.2.2.2.1
theorem wS7 {Z : State} {w : Nat → Addr} (W : own_World Z w) : Sta Z Z.heap "java/util/Optional" "EMPTY" "Ljava/util/Optional;" (.ref (w 7)) := W.2.2.2.2.2.2.2.2.2.2.2.2.2.2.1
theorem wE7 {Z : State} {w : Nat → Addr} (W : own_World Z w) : Exa Z Z.heap (w 7) "java/util/Optional" := W.2.2.2.2.2.2.2.2.2.2.2.2.2.2.2.1
theorem wF2_ordinal {Z : State} {w : Nat → Addr} (W : own_World Z w) : Fld Z Z.heap (w 2) "java/lang/Enum" "ordinal" "I" (.int 2) := W.2.2.2.2.2.2.2.2.2.2.2.2.2.2.2.2.1
theorem wF1_ordinal {Z : State} {w : Nat → Addr} (W : own_World Z w) : Fld Z Z.heap (w 1) "java/lang/Enum" "ordinal" "I" (.int 0) := W.2.2.2.2.2.2.2.2.2.2.2.2.2.2.2.2.2.1
theorem wF0_ordinal {Z : State} {w : Nat → Addr} (W : own_World Z w) : Fld Z Z.heap (w 0) "java/lang/Enum" "ordinal" "I" (.int 0) := W.2.2.2.2.2.2.2.2.2.2.2.2.2.2.2.2.2.2.1
theorem wF3_ordinal {Z : State} {w : Nat → Addr} (W : own_World Z w) : Fld Z Z.heap (w 3) "java/lang/Enum" "ordinal" "I" (.int 1) := W.2.2.2.2.2.2.2.2.2.2.2.2.2.2.2.2.2.2.2.1
theorem wF5_ordinal {Z : State} {w : Nat → Addr} (W : own_World Z w) : Fld Z Z.heap (w 5) "java/lang/Enum" "ordinal" "I" (.int 3) := W.2.2.2.2.2.2.2.2.2.2.2.2.2.2.2.2.2.2.2.2.1
theorem wF6_ordinal {Z : State} {w : Nat → Addr} (W : own_World Z w) : Fld Z Z.heap (w 6) "java/lang/Enum" "ordinal" "I" (.int 2) := W.2.2.2.2.2.2.2.2.2.2.2.2.2.2.2.2.2.2.2.2.2.1
theorem wF4_ordinal {Z : State} {w : Nat → Addr} (W : own_World Z w) : Fld Z Z.heap (w 4) "java/lang/Enum" "ordinal" "I" (.int 1) := W.2.2.2.2.2.2.2.2.2.2.2.2.2.2.2.2.2.2.2.2.2.2.1
theorem wF7_value {Z : State} {w : Nat → Addr} (W : own_World Z w) : Fld Z Z.heap (w 7) "java/util/Optional" "value" "Ljava/lang/Object;" .null := W.2.2.2.2.2.2.2.2.2.2.2.2.2.2.2.2.2.2.2.2.2.2.2
theorem d1_0 : decode method_2_code 0 = .ok (.iload_n 0, 1) := by decide +kernel
theorem d1_1 : decode method_2_code 1 = .ok (.ifCond .ne 7, 3) := by decide +kernel
theorem d1_4 : decode method_2_code 4 = .ok (.getstatic 7, 3) := by decide +kernel
theorem d1_7 : decode method_2_code 7 = .ok (.areturn, 1) := by decide +kernel
abbrev mY0 : MethodName := (⟨"com/example/planwright/planwright/model/OperatorTypePinLaw", "operator", "(I)Lcom/example/planwright/planwright/model/Expression$Operator;"⟩ : MethodName)
theorem ef_1_i_0 (m : MethodId)  : entryFrame m #[(.int 0)] 1 = mkF m 0 #[.val (.int 0)] [] := by first | (simp [entryFrame, mkF, argsToLocals, Value.category]; done) | rfl
theorem pn_0 : plainName "com/example/planwright/planwright/model/OperatorTypePinLaw" = true := by first | (simp [plainName, overriddenIn]; done) | decide +kernel
def Q_op_0 (Z : State)  (w : Nat → Addr) (h0 : Heap) (n0 : Nat) (v : Option Value) (h : Heap) (L : List Loc) : Prop := v = some (.ref (w 0)) ∧ Fr n0 L ∧ h = h0
set_option maxRecDepth 65536 in
set_option maxHeartbeats 40000000 in
theorem rm_op_0 (l : Launch) (Z : State) (a0 : Array Value) (hw : ∀ d ∈ tables_1, d.before a0 Z = true) (ws : List Jvm.Cond)  (w : Nat → Addr) (h0 : Heap) (n0 : Nat) (O0 : Old Z n0 h0) (W : own_World Z w) :
    MetFree l mY0 (head1 (Jvm.Cond.code mY0 method_2_code 1 (some (.object "com/example/planwright/planwright/model/Expression$Operator")) :: ws) ({ frames := 0, cells := 0, slots := 0, locals := 0 } : Room)) (fun a U => a = #[(.int 0)] ∧ Z.Warmed39 U.vm ∧ U.heap = h0) (fun _ _ _ _ _ => True) (fun _ U o U' => ∃ v L, o = .returned v ∧ Q_op_0 Z  w h0 n0 v U'.heap L ∧ FrameEnd U o U' L ({ frames := 0, cells := 0, slots := 0, locals := 0 } : Room).cells ({ frames := 0, cells := 0, slots := 0, locals := 0 } : Room).slots) := by
  refine MetFree.of_bodySF (plainFor_of_name pn_0) hisR ?_
  intro p e s m args below meth c s₁ Bd hml0 hP hK
  obtain ⟨rfl, hZ, hh⟩ := hP
  have hx := Bd.exec
  have hby := Bd.bytes
  have hml : c.maxLocals = 1 := hml0
  have hown : s.vm.findClass "com/example/planwright/planwright/model/OperatorTypePinLaw" = some m.cls := findClass_of_methodNamed Bd.named
  have hnm := (name_of_methodNamed Bd.named Bd.method).1
  have X0 : Stand p l e ({ frames := 0, cells := 0, slots := 0, locals := 0 } : Room) s m #[(.int 0)] below meth c s₁ [] 0 0 := Stand.of_body Bd
  have e0 : s₁.heap = h0 := by rw [← hh, Bd.state]; rfl
  have N0 := Fr.nil n0
  show oG p e below s (Q_op_0 Z  w h0 n0) ({ frames := 0, cells := 0, slots := 0, locals := 0 } : Room).cells ({ frames := 0, cells := 0, slots := 0, locals := 0 } : Room).slots _
  refine oS (fun t k => castTop (ef_1_i_0 m ) k) ?_
  show oG _ _ _ _ _ _ _ (s₁.setTop (mkF m 0 #[.val (.int 0)] []))
  refine oS (fun t k => XS.iloadN X0.here hx rfl (hb hby d1_0) rfl k) ?_
  refine oS (fun t k => XS.ifNo X0.here hx rfl (hb hby d1_1) rfl ((if0 _ _).trans (teq (by decide)).2) k) ?_
  obtain ⟨T1, X1, e1, st1⟩ := getS2 X0 hx hZ hown (host := "") (Or.inl (oW hw 6 rfl)) Via.refl e0 ((wS0 W).ext O0.2) (g := (mkF m 4 #[.val (.int 0)] [])) rfl (hb hby d1_4)
  refine oS (fun t k => st1 t k) ?_
  try clear st1
  exact own_ret (v := some (.ref (w 0))) X1 (fun h => by rw [Bd.returns] at h; cases h) Bd.notSynchronized (fun fs hr => retOut X1 hx (t := (.object "com/example/planwright/planwright/model/Expression$Operator")) Bd.returns rfl (Or.inr (Or.inr (Or.inr (Or.inr ⟨rfl, rfl, rfl⟩)))) (hb hby d1_7) hr) (by rw [e1]; exact ⟨rfl, N0, rfl⟩) (by decide) (by decide)
theorem d4_0 : decode jdk_37_method_2_code 0 = .ok (.aload_n 0, 1) := by decide +kernel
theorem d4_1 : decode jdk_37_method_2_code 1 = .ok (.getfield 7, 3) := by decide +kernel
theorem d4_4 : decode jdk_37_method_2_code 4 = .ok (.ireturn, 1) := by decide +kernel
abbrev mY1 : MethodName := (⟨"java/lang/Enum", "ordinal", "()I"⟩ : MethodName)
theorem ef_4_r (m : MethodId) (x0 : Addr) : entryFrame m #[(.ref x0)] 1 = mkF m 0 #[.val (.ref x0)] [] := by first | (simp [entryFrame, mkF, argsToLocals, Value.category]; done) | rfl
theorem pn_1 : plainName "java/lang/Enum" = true := by first | (simp [plainName, overriddenIn]; done) | decide +kernel
def Q_ord_0 (Z : State)  (w : Nat → Addr) (h0 : Heap) (n0 : Nat) (v : Option Value) (h : Heap) (L : List Loc) : Prop := v = some (.int 0) ∧ Fr n0 L ∧ h = h0
set_option maxRecDepth 65536 in
set_option maxHeartbeats 40000000 in
theorem rm_ord_0 (l : Launch) (Z : State) (a0 : Array Value) (hw : ∀ d ∈ tables_1, d.before a0 Z = true) (ws : List Jvm.Cond)  (w : Nat → Addr) (h0 : Heap) (n0 : Nat) (O0 : Old Z n0 h0) (W : own_World Z w) :
    MetFree l mY1 (head1 (Jvm.Cond.code mY1 jdk_37_method_2_code 1 (some .int) :: ws) ({ frames := 0, cells := 0, slots := 0, locals := 0 } : Room)) (fun a U => a = #[(.ref (w 0))] ∧ Z.Warmed39 U.vm ∧ U.heap = h0) (fun _ _ _ _ _ => True) (fun _ U o U' => ∃ v L, o = .returned v ∧ Q_ord_0 Z  w h0 n0 v U'.heap L ∧ FrameEnd U o U' L ({ frames := 0, cells := 0, slots := 0, locals := 0 } : Room).cells ({ frames := 0, cells := 0, slots := 0, locals := 0 } : Room).slots) := by
  refine MetFree.of_bodySF (plainFor_of_name pn_1) hisR ?_
  intro p e s m args below meth c s₁ Bd hml0 hP hK
  obtain ⟨rfl, hZ, hh⟩ := hP
  have hx := Bd.exec
  have hby := Bd.bytes
  have hml : c.maxLocals = 1 := hml0
  have hown : s.vm.findClass "java/lang/Enum" = some m.cls := findClass_of_methodNamed Bd.named
  have hnm := (name_of_methodNamed Bd.named Bd.method).1
  have X0 : Stand p l e ({ frames := 0, cells := 0, slots := 0, locals := 0 } : Room) s m #[(.ref (w 0))] below meth c s₁ [] 0 0 := Stand.of_body Bd
  have e0 : s₁.heap = h0 := by rw [← hh, Bd.state]; rfl
  have N0 := Fr.nil n0
  show oG p e below s (Q_ord_0 Z  w h0 n0) ({ frames := 0, cells := 0, slots := 0, locals := 0 } : Room).cells ({ frames := 0, cells := 0, slots := 0, locals := 0 } : Room).slots _
  refine oS (fun t k => castTop (ef_4_r m (w 0)) k) ?_
  show oG _ _ _ _ _ _ _ (s₁.setTop (mkF m 0 #[.val (.ref (w 0))] []))
  refine oS (fun t k => XS.aloadN X0.here hx rfl (hb hby d4_0) rfl rfl k) ?_
  obtain ⟨T1, X1, e1, st1⟩ := getF X0 hx hZ hown (host := "") (Or.inl (oW hw 32 rfl)) Via.refl e0 ((wF0_ordinal W).ext O0.2) (g := (mkF m 1 #[.val (.ref (w 0))] [(.ref (w 0))])) rfl rfl (hb hby d4_1)
  refine oS (fun t k => st1 t k) ?_
  try clear st1
  exact own_ret (v := some (.int 0)) X1 (fun h => by rw [Bd.returns] at h; cases h) Bd.notSynchronized (fun fs hr => retOut X1 hx (t := .int) Bd.returns rfl (Or.inl ⟨rfl, Or.inl rfl, _, rfl⟩) (hb hby d4_4) hr) (by rw [e1]; exact ⟨rfl, N0, rfl⟩) (by decide) (by decide)
theorem d1_8 : decode method_2_code 8 = .ok (.iload_n 0, 1) := by decide +kernel
theorem d1_9 : decode method_2_code 9 = .ok (.iconst 1, 1) := by decide +kernel
theorem li_1 : Int32.ofInt (1) = (1 : Int32) := by decide
theorem d1_10 : decode method_2_code 10 = .ok (.if_icmp .ne 7, 3) := by decide +kernel
theorem d1_13 : decode method_2_code 13 = .ok (.getstatic 13, 3) := by decide +kernel
theorem d1_16 : decode method_2_code 16 = .ok (.areturn, 1) := by decide +kernel
theorem ef_1_i_1 (m : MethodId)  : entryFrame m #[(.int 1)] 1 = mkF m 0 #[.val (.int 1)] [] := by first | (simp [entryFrame, mkF, argsToLocals, Value.category]; done) | rfl
def Q_op_1 (Z : State)  (w : Nat → Addr) (h0 : Heap) (n0 : Nat) (v : Option Value) (h : Heap) (L : List Loc) : Prop := v = some (.ref (w 4)) ∧ Fr n0 L ∧ h = h0
set_option maxRecDepth 65536 in
set_option maxHeartbeats 40000000 in
theorem rm_op_1 (l : Launch) (Z : State) (a0 : Array Value) (hw : ∀ d ∈ tables_1, d.before a0 Z = true) (ws : List Jvm.Cond)  (w : Nat → Addr) (h0 : Heap) (n0 : Nat) (O0 : Old Z n0 h0) (W : own_World Z w) :
    MetFree l mY0 (head1 (Jvm.Cond.code mY0 method_2_code 1 (some (.object "com/example/planwright/planwright/model/Expression$Operator")) :: ws) ({ frames := 0, cells := 0, slots := 0, locals := 0 } : Room)) (fun a U => a = #[(.int 1)] ∧ Z.Warmed39 U.vm ∧ U.heap = h0) (fun _ _ _ _ _ => True) (fun _ U o U' => ∃ v L, o = .returned v ∧ Q_op_1 Z  w h0 n0 v U'.heap L ∧ FrameEnd U o U' L ({ frames := 0, cells := 0, slots := 0, locals := 0 } : Room).cells ({ frames := 0, cells := 0, slots := 0, locals := 0 } : Room).slots) := by
  refine MetFree.of_bodySF (plainFor_of_name pn_0) hisR ?_
  intro p e s m args below meth c s₁ Bd hml0 hP hK
  obtain ⟨rfl, hZ, hh⟩ := hP
  have hx := Bd.exec
  have hby := Bd.bytes
  have hml : c.maxLocals = 1 := hml0
  have hown : s.vm.findClass "com/example/planwright/planwright/model/OperatorTypePinLaw" = some m.cls := findClass_of_methodNamed Bd.named
  have hnm := (name_of_methodNamed Bd.named Bd.method).1
  have X0 : Stand p l e ({ frames := 0, cells := 0, slots := 0, locals := 0 } : Room) s m #[(.int 1)] below meth c s₁ [] 0 0 := Stand.of_body Bd
  have e0 : s₁.heap = h0 := by rw [← hh, Bd.state]; rfl
  have N0 := Fr.nil n0
  show oG p e below s (Q_op_1 Z  w h0 n0) ({ frames := 0, cells := 0, slots := 0, locals := 0 } : Room).cells ({ frames := 0, cells := 0, slots := 0, locals := 0 } : Room).slots _
  refine oS (fun t k => castTop (ef_1_i_1 m ) k) ?_
  show oG _ _ _ _ _ _ _ (s₁.setTop (mkF m 0 #[.val (.int 1)] []))
  refine oS (fun t k => XS.iloadN X0.here hx rfl (hb hby d1_0) rfl k) ?_
  refine oS (fun t k => XS.ifYes X0.here hx rfl (pc0 := 1) (pc' := 8) rfl (hb hby d1_1) rfl ((if0 _ _).trans (feq (by decide)).2) (by decide) (by decide) k) ?_
  refine oS (fun t k => XS.iloadN X0.here hx rfl (hb hby d1_8) rfl k) ?_
  refine oS (fun t k => oIc li_1 X0.here hx rfl (hb hby d1_9) k) ?_
  refine oS (fun t k => XS.icmpNo X0.here hx rfl (hb hby d1_10) rfl (teq (by decide)).2 k) ?_
  show oG _ _ _ _ _ _ _ (s₁.setTop (mkF m 13 #[.val (.int 1)] []))
  obtain ⟨T1, X1, e1, st1⟩ := getS2 X0 hx hZ hown (host := "") (Or.inl (oW hw 46 rfl)) Via.refl e0 ((wS4 W).ext O0.2) (g := (mkF m 13 #[.val (.int 1)] [])) rfl (hb hby d1_13)
  refine oS (fun t k => st1 t k) ?_
  try clear st1
  exact own_ret (v := some (.ref (w 4))) X1 (fun h => by rw [Bd.returns] at h; cases h) Bd.notSynchronized (fun fs hr => retOut X1 hx (t := (.object "com/example/planwright/planwright/model/Expression$Operator")) Bd.returns rfl (Or.inr (Or.inr (Or.inr (Or.inr ⟨rfl, rfl, rfl⟩)))) (hb hby d1_16) hr) (by rw [e1]; exact ⟨rfl, N0, rfl⟩) (by decide) (by decide)
def Q_ord_1 (Z : State)  (w : Nat → Addr) (h0 : Heap) (n0 : Nat) (v : Option Value) (h : Heap) (L : List Loc) : Prop := v = some (.int 1) ∧ Fr n0 L ∧ h = h0
set_option maxRecDepth 65536 in
set_option maxHeartbeats 40000000 in
theorem rm_ord_1 (l : Launch) (Z : State) (a0 : Array Value) (hw : ∀ d ∈ tables_1, d.before a0 Z = true) (ws : List Jvm.Cond)  (w : Nat → Addr) (h0 : Heap) (n0 : Nat) (O0 : Old Z n0 h0) (W : own_World Z w) :
    MetFree l mY1 (head1 (Jvm.Cond.code mY1 jdk_37_method_2_code 1 (some .int) :: ws) ({ frames := 0, cells := 0, slots := 0, locals := 0 } : Room)) (fun a U => a = #[(.ref (w 4))] ∧ Z.Warmed39 U.vm ∧ U.heap = h0) (fun _ _ _ _ _ => True) (fun _ U o U' => ∃ v L, o = .returned v ∧ Q_ord_1 Z  w h0 n0 v U'.heap L ∧ FrameEnd U o U' L ({ frames := 0, cells := 0, slots := 0, locals := 0 } : Room).cells ({ frames := 0, cells := 0, slots := 0, locals := 0 } : Room).slots) := by
  refine MetFree.of_bodySF (plainFor_of_name pn_1) hisR ?_
  intro p e s m args below meth c s₁ Bd hml0 hP hK
  obtain ⟨rfl, hZ, hh⟩ := hP
  have hx := Bd.exec
  have hby := Bd.bytes
  have hml : c.maxLocals = 1 := hml0
  have hown : s.vm.findClass "java/lang/Enum" = some m.cls := findClass_of_methodNamed Bd.named
  have hnm := (name_of_methodNamed Bd.named Bd.method).1
  have X0 : Stand p l e ({ frames := 0, cells := 0, slots := 0, locals := 0 } : Room) s m #[(.ref (w 4))] below meth c s₁ [] 0 0 := Stand.of_body Bd
  have e0 : s₁.heap = h0 := by rw [← hh, Bd.state]; rfl
  have N0 := Fr.nil n0
  show oG p e below s (Q_ord_1 Z  w h0 n0) ({ frames := 0, cells := 0, slots := 0, locals := 0 } : Room).cells ({ frames := 0, cells := 0, slots := 0, locals := 0 } : Room).slots _
  refine oS (fun t k => castTop (ef_4_r m (w 4)) k) ?_
  show oG _ _ _ _ _ _ _ (s₁.setTop (mkF m 0 #[.val (.ref (w 4))] []))
  refine oS (fun t k => XS.aloadN X0.here hx rfl (hb hby d4_0) rfl rfl k) ?_
  obtain ⟨T1, X1, e1, st1⟩ := getF X0 hx hZ hown (host := "") (Or.inl (oW hw 32 rfl)) Via.refl e0 ((wF4_ordinal W).ext O0.2) (g := (mkF m 1 #[.val (.ref (w 4))] [(.ref (w 4))])) rfl rfl (hb hby d4_1)
  refine oS (fun t k => st1 t k) ?_
  try clear st1
  exact own_ret (v := some (.int 1)) X1 (fun h => by rw [Bd.returns] at h; cases h) Bd.notSynchronized (fun fs hr => retOut X1 hx (t := .int) Bd.returns rfl (Or.inl ⟨rfl, Or.inl rfl, _, rfl⟩) (hb hby d4_4) hr) (by rw [e1]; exact ⟨rfl, N0, rfl⟩) (by decide) (by decide)
theorem d1_17 : decode method_2_code 17 = .ok (.iload_n 0, 1) := by decide +kernel
theorem d1_18 : decode method_2_code 18 = .ok (.iconst 2, 1) := by decide +kernel
theorem li_2 : Int32.ofInt (2) = (2 : Int32) := by decide
theorem d1_19 : decode method_2_code 19 = .ok (.if_icmp .ne 7, 3) := by decide +kernel
theorem d1_22 : decode method_2_code 22 = .ok (.getstatic 16, 3) := by decide +kernel
theorem d1_25 : decode method_2_code 25 = .ok (.areturn, 1) := by decide +kernel
theorem ef_1_i_2 (m : MethodId)  : entryFrame m #[(.int 2)] 1 = mkF m 0 #[.val (.int 2)] [] := by first | (simp [entryFrame, mkF, argsToLocals, Value.category]; done) | rfl
def Q_op_2 (Z : State)  (w : Nat → Addr) (h0 : Heap) (n0 : Nat) (v : Option Value) (h : Heap) (L : List Loc) : Prop := v = some (.ref (w 6)) ∧ Fr n0 L ∧ h = h0
set_option maxRecDepth 65536 in
set_option maxHeartbeats 40000000 in
theorem rm_op_2 (l : Launch) (Z : State) (a0 : Array Value) (hw : ∀ d ∈ tables_1, d.before a0 Z = true) (ws : List Jvm.Cond)  (w : Nat → Addr) (h0 : Heap) (n0 : Nat) (O0 : Old Z n0 h0) (W : own_World Z w) :
    MetFree l mY0 (head1 (Jvm.Cond.code mY0 method_2_code 1 (some (.object "com/example/planwright/planwright/model/Expression$Operator")) :: ws) ({ frames := 0, cells := 0, slots := 0, locals := 0 } : Room)) (fun a U => a = #[(.int 2)] ∧ Z.Warmed39 U.vm ∧ U.heap = h0) (fun _ _ _ _ _ => True) (fun _ U o U' => ∃ v L, o = .returned v ∧ Q_op_2 Z  w h0 n0 v U'.heap L ∧ FrameEnd U o U' L ({ frames := 0, cells := 0, slots := 0, locals := 0 } : Room).cells ({ frames := 0, cells := 0, slots := 0, locals := 0 } : Room).slots) := by
  refine MetFree.of_bodySF (plainFor_of_name pn_0) hisR ?_
  intro p e s m args below meth c s₁ Bd hml0 hP hK
  obtain ⟨rfl, hZ, hh⟩ := hP
  have hx := Bd.exec
  have hby := Bd.bytes
  have hml : c.maxLocals = 1 := hml0
  have hown : s.vm.findClass "com/example/planwright/planwright/model/OperatorTypePinLaw" = some m.cls := findClass_of_methodNamed Bd.named
  have hnm := (name_of_methodNamed Bd.named Bd.method).1
  have X0 : Stand p l e ({ frames := 0, cells := 0, slots := 0, locals := 0 } : Room) s m #[(.int 2)] below meth c s₁ [] 0 0 := Stand.of_body Bd
  have e0 : s₁.heap = h0 := by rw [← hh, Bd.state]; rfl
  have N0 := Fr.nil n0
  show oG p e below s (Q_op_2 Z  w h0 n0) ({ frames := 0, cells := 0, slots := 0, locals := 0 } : Room).cells ({ frames := 0, cells := 0, slots := 0, locals := 0 } : Room).slots _
  refine oS (fun t k => castTop (ef_1_i_2 m ) k) ?_
  show oG _ _ _ _ _ _ _ (s₁.setTop (mkF m 0 #[.val (.int 2)] []))
  refine oS (fun t k => XS.iloadN X0.here hx rfl (hb hby d1_0) rfl k) ?_
  refine oS (fun t k => XS.ifYes X0.here hx rfl (pc0 := 1) (pc' := 8) rfl (hb hby d1_1) rfl ((if0 _ _).trans (feq (by decide)).2) (by decide) (by decide) k) ?_
  refine oS (fun t k => XS.iloadN X0.here hx rfl (hb hby d1_8) rfl k) ?_
  refine oS (fun t k => oIc li_1 X0.here hx rfl (hb hby d1_9) k) ?_
  refine oS (fun t k => XS.icmpYes X0.here hx rfl (pc0 := 10) (pc' := 17) rfl (hb hby d1_10) rfl (feq (by decide)).2 (by decide) (by decide) k) ?_
  show oG _ _ _ _ _ _ _ (s₁.setTop (mkF m 17 #[.val (.int 2)] []))
  refine oS (fun t k => XS.iloadN X0.here hx rfl (hb hby d1_17) rfl k) ?_
  refine oS (fun t k => oIc li_2 X0.here hx rfl (hb hby d1_18) k) ?_
  refine oS (fun t k => XS.icmpNo X0.here hx rfl (hb hby d1_19) rfl (teq (by decide)).2 k) ?_
  obtain ⟨T1, X1, e1, st1⟩ := getS2 X0 hx hZ hown (host := "") (Or.inl (oW hw 69 rfl)) Via.refl e0 ((wS6 W).ext O0.2) (g := (mkF m 22 #[.val (.int 2)] [])) rfl (hb hby d1_22)
  refine oS (fun t k => st1 t k) ?_
  try clear st1
  exact own_ret (v := some (.ref (w 6))) X1 (fun h => by rw [Bd.returns] at h; cases h) Bd.notSynchronized (fun fs hr => retOut X1 hx (t := (.object "com/example/planwright/planwright/model/Expression$Operator")) Bd.returns rfl (Or.inr (Or.inr (Or.inr (Or.inr ⟨rfl, rfl, rfl⟩)))) (hb hby d1_25) hr) (by rw [e1]; exact ⟨rfl, N0, rfl⟩) (by decide) (by decide)
def Q_ord_2 (Z : State)  (w : Nat → Addr) (h0 : Heap) (n0 : Nat) (v : Option Value) (h : Heap) (L : List Loc) : Prop := v = some (.int 2) ∧ Fr n0 L ∧ h = h0
set_option maxRecDepth 65536 in
set_option maxHeartbeats 40000000 in
theorem rm_ord_2 (l : Launch) (Z : State) (a0 : Array Value) (hw : ∀ d ∈ tables_1, d.before a0 Z = true) (ws : List Jvm.Cond)  (w : Nat → Addr) (h0 : Heap) (n0 : Nat) (O0 : Old Z n0 h0) (W : own_World Z w) :
    MetFree l mY1 (head1 (Jvm.Cond.code mY1 jdk_37_method_2_code 1 (some .int) :: ws) ({ frames := 0, cells := 0, slots := 0, locals := 0 } : Room)) (fun a U => a = #[(.ref (w 6))] ∧ Z.Warmed39 U.vm ∧ U.heap = h0) (fun _ _ _ _ _ => True) (fun _ U o U' => ∃ v L, o = .returned v ∧ Q_ord_2 Z  w h0 n0 v U'.heap L ∧ FrameEnd U o U' L ({ frames := 0, cells := 0, slots := 0, locals := 0 } : Room).cells ({ frames := 0, cells := 0, slots := 0, locals := 0 } : Room).slots) := by
  refine MetFree.of_bodySF (plainFor_of_name pn_1) hisR ?_
  intro p e s m args below meth c s₁ Bd hml0 hP hK
  obtain ⟨rfl, hZ, hh⟩ := hP
  have hx := Bd.exec
  have hby := Bd.bytes
  have hml : c.maxLocals = 1 := hml0
  have hown : s.vm.findClass "java/lang/Enum" = some m.cls := findClass_of_methodNamed Bd.named
  have hnm := (name_of_methodNamed Bd.named Bd.method).1
  have X0 : Stand p l e ({ frames := 0, cells := 0, slots := 0, locals := 0 } : Room) s m #[(.ref (w 6))] below meth c s₁ [] 0 0 := Stand.of_body Bd
  have e0 : s₁.heap = h0 := by rw [← hh, Bd.state]; rfl
  have N0 := Fr.nil n0
  show oG p e below s (Q_ord_2 Z  w h0 n0) ({ frames := 0, cells := 0, slots := 0, locals := 0 } : Room).cells ({ frames := 0, cells := 0, slots := 0, locals := 0 } : Room).slots _
  refine oS (fun t k => castTop (ef_4_r m (w 6)) k) ?_
  show oG _ _ _ _ _ _ _ (s₁.setTop (mkF m 0 #[.val (.ref (w 6))] []))
  refine oS (fun t k => XS.aloadN X0.here hx rfl (hb hby d4_0) rfl rfl k) ?_
  obtain ⟨T1, X1, e1, st1⟩ := getF X0 hx hZ hown (host := "") (Or.inl (oW hw 32 rfl)) Via.refl e0 ((wF6_ordinal W).ext O0.2) (g := (mkF m 1 #[.val (.ref (w 6))] [(.ref (w 6))])) rfl rfl (hb hby d4_1)
  refine oS (fun t k => st1 t k) ?_
  try clear st1
  exact own_ret (v := some (.int 2)) X1 (fun h => by rw [Bd.returns] at h; cases h) Bd.notSynchronized (fun fs hr => retOut X1 hx (t := .int) Bd.returns rfl (Or.inl ⟨rfl, Or.inl rfl, _, rfl⟩) (hb hby d4_4) hr) (by rw [e1]; exact ⟨rfl, N0, rfl⟩) (by decide) (by decide)
theorem d1_26 : decode method_2_code 26 = .ok (.getstatic 19, 3) := by decide +kernel
theorem d1_29 : decode method_2_code 29 = .ok (.areturn, 1) := by decide +kernel
theorem ef_1_i_3 (m : MethodId)  : entryFrame m #[(.int 3)] 1 = mkF m 0 #[.val (.int 3)] [] := by first | (simp [entryFrame, mkF, argsToLocals, Value.category]; done) | rfl
def Q_op_3 (Z : State)  (w : Nat → Addr) (h0 : Heap) (n0 : Nat) (v : Option Value) (h : Heap) (L : List Loc) : Prop := v = some (.ref (w 5)) ∧ Fr n0 L ∧ h = h0
set_option maxRecDepth 65536 in
set_option maxHeartbeats 40000000 in
theorem rm_op_3 (l : Launch) (Z : State) (a0 : Array Value) (hw : ∀ d ∈ tables_1, d.before a0 Z = true) (ws : List Jvm.Cond)  (w : Nat → Addr) (h0 : Heap) (n0 : Nat) (O0 : Old Z n0 h0) (W : own_World Z w) :
    MetFree l mY0 (head1 (Jvm.Cond.code mY0 method_2_code 1 (some (.object "com/example/planwright/planwright/model/Expression$Operator")) :: ws) ({ frames := 0, cells := 0, slots := 0, locals := 0 } : Room)) (fun a U => a = #[(.int 3)] ∧ Z.Warmed39 U.vm ∧ U.heap = h0) (fun _ _ _ _ _ => True) (fun _ U o U' => ∃ v L, o = .returned v ∧ Q_op_3 Z  w h0 n0 v U'.heap L ∧ FrameEnd U o U' L ({ frames := 0, cells := 0, slots := 0, locals := 0 } : Room).cells ({ frames := 0, cells := 0, slots := 0, locals := 0 } : Room).slots) := by
  refine MetFree.of_bodySF (plainFor_of_name pn_0) hisR ?_
  intro p e s m args below meth c s₁ Bd hml0 hP hK
  obtain ⟨rfl, hZ, hh⟩ := hP
  have hx := Bd.exec
  have hby := Bd.bytes
  have hml : c.maxLocals = 1 := hml0
  have hown : s.vm.findClass "com/example/planwright/planwright/model/OperatorTypePinLaw" = some m.cls := findClass_of_methodNamed Bd.named
  have hnm := (name_of_methodNamed Bd.named Bd.method).1
  have X0 : Stand p l e ({ frames := 0, cells := 0, slots := 0, locals := 0 } : Room) s m #[(.int 3)] below meth c s₁ [] 0 0 := Stand.of_body Bd
  have e0 : s₁.heap = h0 := by rw [← hh, Bd.state]; rfl
  have N0 := Fr.nil n0
  show oG p e below s (Q_op_3 Z  w h0 n0) ({ frames := 0, cells := 0, slots := 0, locals := 0 } : Room).cells ({ frames := 0, cells := 0, slots := 0, locals := 0 } : Room).slots _
  refine oS (fun t k => castTop (ef_1_i_3 m ) k) ?_
  show oG _ _ _ _ _ _ _ (s₁.setTop (mkF m 0 #[.val (.int 3)] []))
  refine oS (fun t k => XS.iloadN X0.here hx rfl (hb hby d1_0) rfl k) ?_
  refine oS (fun t k => XS.ifYes X0.here hx rfl (pc0 := 1) (pc' := 8) rfl (hb hby d1_1) rfl ((if0 _ _).trans (feq (by decide)).2) (by decide) (by decide) k) ?_
  refine oS (fun t k => XS.iloadN X0.here hx rfl (hb hby d1_8) rfl k) ?_
  refine oS (fun t k => oIc li_1 X0.here hx rfl (hb hby d1_9) k) ?_
  refine oS (fun t k => XS.icmpYes X0.here hx rfl (pc0 := 10) (pc' := 17) rfl (hb hby d1_10) rfl (feq (by decide)).2 (by decide) (by decide) k) ?_
  show oG _ _ _ _ _ _ _ (s₁.setTop (mkF m 17 #[.val (.int 3)] []))
  refine oS (fun t k => XS.iloadN X0.here hx rfl (hb hby d1_17) rfl k) ?_
  refine oS (fun t k => oIc li_2 X0.here hx rfl (hb hby d1_18) k) ?_
  refine oS (fun t k => XS.icmpYes X0.here hx rfl (pc0 := 19) (pc' := 26) rfl (hb hby d1_19) rfl (feq (by decide)).2 (by decide) (by decide) k) ?_
  obtain ⟨T1, X1, e1, st1⟩ := getS2 X0 hx hZ hown (host := "") (Or.inl (oW hw 67 rfl)) Via.refl e0 ((wS5 W).ext O0.2) (g := (mkF m 26 #[.val (.int 3)] [])) rfl (hb hby d1_26)
  refine oS (fun t k => st1 t k) ?_
  try clear st1
  exact own_ret (v := some (.ref (w 5))) X1 (fun h => by rw [Bd.returns] at h; cases h) Bd.notSynchronized (fun fs hr => retOut X1 hx (t := (.object "com/example/planwright/planwright/model/Expression$Operator")) Bd.returns rfl (Or.inr (Or.inr (Or.inr (Or.inr ⟨rfl, rfl, rfl⟩)))) (hb hby d1_29) hr) (by rw [e1]; exact ⟨rfl, N0, rfl⟩) (by decide) (by decide)
def Q_ord_3 (Z : State)  (w : Nat → Addr) (h0 : Heap) (n0 : Nat) (v : Option Value) (h : Heap) (L : List Loc) : Prop := v = some (.int 3) ∧ Fr n0 L ∧ h = h0
set_option maxRecDepth 65536 in
set_option maxHeartbeats 40000000 in
theorem rm_ord_3 (l : Launch) (Z : State) (a0 : Array Value) (hw : ∀ d ∈ tables_1, d.before a0 Z = true) (ws : List Jvm.Cond)  (w : Nat → Addr) (h0 : Heap) (n0 : Nat) (O0 : Old Z n0 h0) (W : own_World Z w) :
    MetFree l mY1 (head1 (Jvm.Cond.code mY1 jdk_37_method_2_code 1 (some .int) :: ws) ({ frames := 0, cells := 0, slots := 0, locals := 0 } : Room)) (fun a U => a = #[(.ref (w 5))] ∧ Z.Warmed39 U.vm ∧ U.heap = h0) (fun _ _ _ _ _ => True) (fun _ U o U' => ∃ v L, o = .returned v ∧ Q_ord_3 Z  w h0 n0 v U'.heap L ∧ FrameEnd U o U' L ({ frames := 0, cells := 0, slots := 0, locals := 0 } : Room).cells ({ frames := 0, cells := 0, slots := 0, locals := 0 } : Room).slots) := by
  refine MetFree.of_bodySF (plainFor_of_name pn_1) hisR ?_
  intro p e s m args below meth c s₁ Bd hml0 hP hK
  obtain ⟨rfl, hZ, hh⟩ := hP
  have hx := Bd.exec
  have hby := Bd.bytes
  have hml : c.maxLocals = 1 := hml0
  have hown : s.vm.findClass "java/lang/Enum" = some m.cls := findClass_of_methodNamed Bd.named
  have hnm := (name_of_methodNamed Bd.named Bd.method).1
  have X0 : Stand p l e ({ frames := 0, cells := 0, slots := 0, locals := 0 } : Room) s m #[(.ref (w 5))] below meth c s₁ [] 0 0 := Stand.of_body Bd
  have e0 : s₁.heap = h0 := by rw [← hh, Bd.state]; rfl
  have N0 := Fr.nil n0
  show oG p e below s (Q_ord_3 Z  w h0 n0) ({ frames := 0, cells := 0, slots := 0, locals := 0 } : Room).cells ({ frames := 0, cells := 0, slots := 0, locals := 0 } : Room).slots _
  refine oS (fun t k => castTop (ef_4_r m (w 5)) k) ?_
  show oG _ _ _ _ _ _ _ (s₁.setTop (mkF m 0 #[.val (.ref (w 5))] []))
  refine oS (fun t k => XS.aloadN X0.here hx rfl (hb hby d4_0) rfl rfl k) ?_
  obtain ⟨T1, X1, e1, st1⟩ := getF X0 hx hZ hown (host := "") (Or.inl (oW hw 32 rfl)) Via.refl e0 ((wF5_ordinal W).ext O0.2) (g := (mkF m 1 #[.val (.ref (w 5))] [(.ref (w 5))])) rfl rfl (hb hby d4_1)
  refine oS (fun t k => st1 t k) ?_
  try clear st1
  exact own_ret (v := some (.int 3)) X1 (fun h => by rw [Bd.returns] at h; cases h) Bd.notSynchronized (fun fs hr => retOut X1 hx (t := .int) Bd.returns rfl (Or.inl ⟨rfl, Or.inl rfl, _, rfl⟩) (hb hby d4_4) hr) (by rw [e1]; exact ⟨rfl, N0, rfl⟩) (by decide) (by decide)
theorem d2_0 : decode method_3_code 0 = .ok (.iload_n 0, 1) := by decide +kernel
theorem d2_1 : decode method_3_code 1 = .ok (.ifCond .ne 7, 3) := by decide +kernel
theorem d2_4 : decode method_3_code 4 = .ok (.getstatic 22, 3) := by decide +kernel
theorem d2_7 : decode method_3_code 7 = .ok (.areturn, 1) := by decide +kernel
abbrev mY2 : MethodName := (⟨"com/example/planwright/planwright/model/OperatorTypePinLaw", "valueType", "(I)Lcom/example/planwright/planwright/model/ValueType;"⟩ : MethodName)
theorem ef_2_i_0 (m : MethodId)  : entryFrame m #[(.int 0)] 1 = mkF m 0 #[.val (.int 0)] [] := by first | (simp [entryFrame, mkF, argsToLocals, Value.category]; done) | rfl
def Q_vt_0 (Z : State)  (w : Nat → Addr) (h0 : Heap) (n0 : Nat) (v : Option Value) (h : Heap) (L : List Loc) : Prop := v = some (.ref (w 1)) ∧ Fr n0 L ∧ h = h0
set_option maxRecDepth 65536 in
set_option maxHeartbeats 40000000 in
theorem rm_vt_0 (l : Launch) (Z : State) (a0 : Array Value) (hw : ∀ d ∈ tables_1, d.before a0 Z = true) (ws : List Jvm.Cond)  (w : Nat → Addr) (h0 : Heap) (n0 : Nat) (O0 : Old Z n0 h0) (W : own_World Z w) :
    MetFree l mY2 (head1 (Jvm.Cond.code mY2 method_3_code 1 (some (.object "com/example/planwright/planwright/model/ValueType")) :: ws) ({ frames := 0, cells := 0, slots := 0, locals := 0 } : Room)) (fun a U => a = #[(.int 0)] ∧ Z.Warmed39 U.vm ∧ U.heap = h0) (fun _ _ _ _ _ => True) (fun _ U o U' => ∃ v L, o = .returned v ∧ Q_vt_0 Z  w h0 n0 v U'.heap L ∧ FrameEnd U o U' L ({ frames := 0, cells := 0, slots := 0, locals := 0 } : Room).cells ({ frames := 0, cells := 0, slots := 0, locals := 0 } : Room).slots) := by
  refine MetFree.of_bodySF (plainFor_of_name pn_0) hisR ?_
  intro p e s m args below meth c s₁ Bd hml0 hP hK
  obtain ⟨rfl, hZ, hh⟩ := hP
  have hx := Bd.exec
  have hby := Bd.bytes
  have hml : c.maxLocals = 1 := hml0
  have hown : s.vm.findClass "com/example/planwright/planwright/model/OperatorTypePinLaw" = some m.cls := findClass_of_methodNamed Bd.named
  have hnm := (name_of_methodNamed Bd.named Bd.method).1
  have X0 : Stand p l e ({ frames := 0, cells := 0, slots := 0, locals := 0 } : Room) s m #[(.int 0)] below meth c s₁ [] 0 0 := Stand.of_body Bd
  have e0 : s₁.heap = h0 := by rw [← hh, Bd.state]; rfl
  have N0 := Fr.nil n0
  show oG p e below s (Q_vt_0 Z  w h0 n0) ({ frames := 0, cells := 0, slots := 0, locals := 0 } : Room).cells ({ frames := 0, cells := 0, slots := 0, locals := 0 } : Room).slots _
  refine oS (fun t k => castTop (ef_2_i_0 m ) k) ?_
  show oG _ _ _ _ _ _ _ (s₁.setTop (mkF m 0 #[.val (.int 0)] []))
  refine oS (fun t k => XS.iloadN X0.here hx rfl (hb hby d2_0) rfl k) ?_
  refine oS (fun t k => XS.ifNo X0.here hx rfl (hb hby d2_1) rfl ((if0 _ _).trans (teq (by decide)).2) k) ?_
  obtain ⟨T1, X1, e1, st1⟩ := getS2 X0 hx hZ hown (host := "") (Or.inl (oW hw 12 rfl)) Via.refl e0 ((wS1 W).ext O0.2) (g := (mkF m 4 #[.val (.int 0)] [])) rfl (hb hby d2_4)
  refine oS (fun t k => st1 t k) ?_
  try clear st1
  exact own_ret (v := some (.ref (w 1))) X1 (fun h => by rw [Bd.returns] at h; cases h) Bd.notSynchronized (fun fs hr => retOut X1 hx (t := (.object "com/example/planwright/planwright/model/ValueType")) Bd.returns rfl (Or.inr (Or.inr (Or.inr (Or.inr ⟨rfl, rfl, rfl⟩)))) (hb hby d2_7) hr) (by rw [e1]; exact ⟨rfl, N0, rfl⟩) (by decide) (by decide)
theorem d2_8 : decode method_3_code 8 = .ok (.iload_n 0, 1) := by decide +kernel
theorem d2_9 : decode method_3_code 9 = .ok (.iconst 1, 1) := by decide +kernel
theorem d2_10 : decode method_3_code 10 = .ok (.if_icmp .ne 7, 3) := by decide +kernel
theorem d2_13 : decode method_3_code 13 = .ok (.getstatic 28, 3) := by decide +kernel
theorem d2_16 : decode method_3_code 16 = .ok (.areturn, 1) := by decide +kernel
theorem ef_2_i_1 (m : MethodId)  : entryFrame m #[(.int 1)] 1 = mkF m 0 #[.val (.int 1)] [] := by first | (simp [entryFrame, mkF, argsToLocals, Value.category]; done) | rfl
def Q_vt_1 (Z : State)  (w : Nat → Addr) (h0 : Heap) (n0 : Nat) (v : Option Value) (h : Heap) (L : List Loc) : Prop := v = some (.ref (w 3)) ∧ Fr n0 L ∧ h = h0
set_option maxRecDepth 65536 in
set_option maxHeartbeats 40000000 in
theorem rm_vt_1 (l : Launch) (Z : State) (a0 : Array Value) (hw : ∀ d ∈ tables_1, d.before a0 Z = true) (ws : List Jvm.Cond)  (w : Nat → Addr) (h0 : Heap) (n0 : Nat) (O0 : Old Z n0 h0) (W : own_World Z w) :
    MetFree l mY2 (head1 (Jvm.Cond.code mY2 method_3_code 1 (some (.object "com/example/planwright/planwright/model/ValueType")) :: ws) ({ frames := 0, cells := 0, slots := 0, locals := 0 } : Room)) (fun a U => a = #[(.int 1)] ∧ Z.Warmed39 U.vm ∧ U.heap = h0) (fun _ _ _ _ _ => True) (fun _ U o U' => ∃ v L, o = .returned v ∧ Q_vt_1 Z  w h0 n0 v U'.heap L ∧ FrameEnd U o U' L ({ frames := 0, cells := 0, slots := 0, locals := 0 } : Room).cells ({ frames := 0, cells := 0, slots := 0, locals := 0 } : Room).slots) := by
  refine MetFree.of_bodySF (plainFor_of_name pn_0) hisR ?_
  intro p e s m args below meth c s₁ Bd hml0 hP hK
  obtain ⟨rfl, hZ, hh⟩ := hP
  have hx := Bd.exec
  have hby := Bd.bytes
  have hml : c.maxLocals = 1 := hml0
  have hown : s.vm.findClass "com/example/planwright/planwright/model/OperatorTypePinLaw" = some m.cls := findClass_of_methodNamed Bd.named
  have hnm := (name_of_methodNamed Bd.named Bd.method).1
  have X0 : Stand p l e ({ frames := 0, cells := 0, slots := 0, locals := 0 } : Room) s m #[(.int 1)] below meth c s₁ [] 0 0 := Stand.of_body Bd
  have e0 : s₁.heap = h0 := by rw [← hh, Bd.state]; rfl
  have N0 := Fr.nil n0
  show oG p e below s (Q_vt_1 Z  w h0 n0) ({ frames := 0, cells := 0, slots := 0, locals := 0 } : Room).cells ({ frames := 0, cells := 0, slots := 0, locals := 0 } : Room).slots _
  refine oS (fun t k => castTop (ef_2_i_1 m ) k) ?_
  show oG _ _ _ _ _ _ _ (s₁.setTop (mkF m 0 #[.val (.int 1)] []))
  refine oS (fun t k => XS.iloadN X0.here hx rfl (hb hby d2_0) rfl k) ?_
  refine oS (fun t k => XS.ifYes X0.here hx rfl (pc0 := 1) (pc' := 8) rfl (hb hby d2_1) rfl ((if0 _ _).trans (feq (by decide)).2) (by decide) (by decide) k) ?_
  refine oS (fun t k => XS.iloadN X0.here hx rfl (hb hby d2_8) rfl k) ?_
  refine oS (fun t k => oIc li_1 X0.here hx rfl (hb hby d2_9) k) ?_
  refine oS (fun t k => XS.icmpNo X0.here hx rfl (hb hby d2_10) rfl (teq (by decide)).2 k) ?_
  show oG _ _ _ _ _ _ _ (s₁.setTop (mkF m 13 #[.val (.int 1)] []))
  obtain ⟨T1, X1, e1, st1⟩ := getS2 X0 hx hZ hown (host := "") (Or.inl (oW hw 66 rfl)) Via.refl e0 ((wS3 W).ext O0.2) (g := (mkF m 13 #[.val (.int 1)] [])) rfl (hb hby d2_13)
  refine oS (fun t k => st1 t k) ?_
  try clear st1
  exact own_ret (v := some (.ref (w 3))) X1 (fun h => by rw [Bd.returns] at h; cases h) Bd.notSynchronized (fun fs hr => retOut X1 hx (t := (.object "com/example/planwright/planwright/model/ValueType")) Bd.returns rfl (Or.inr (Or.inr (Or.inr (Or.inr ⟨rfl, rfl, rfl⟩)))) (hb hby d2_16) hr) (by rw [e1]; exact ⟨rfl, N0, rfl⟩) (by decide) (by decide)
theorem d2_17 : decode method_3_code 17 = .ok (.getstatic 31, 3) := by decide +kernel
theorem d2_20 : decode method_3_code 20 = .ok (.areturn, 1) := by decide +kernel
theorem ef_2_i_2 (m : MethodId)  : entryFrame m #[(.int 2)] 1 = mkF m 0 #[.val (.int 2)] [] := by first | (simp [entryFrame, mkF, argsToLocals, Value.category]; done) | rfl
def Q_vt_2 (Z : State)  (w : Nat → Addr) (h0 : Heap) (n0 : Nat) (v : Option Value) (h : Heap) (L : List Loc) : Prop := v = some (.ref (w 2)) ∧ Fr n0 L ∧ h = h0
set_option maxRecDepth 65536 in
set_option maxHeartbeats 40000000 in
theorem rm_vt_2 (l : Launch) (Z : State) (a0 : Array Value) (hw : ∀ d ∈ tables_1, d.before a0 Z = true) (ws : List Jvm.Cond)  (w : Nat → Addr) (h0 : Heap) (n0 : Nat) (O0 : Old Z n0 h0) (W : own_World Z w) :
    MetFree l mY2 (head1 (Jvm.Cond.code mY2 method_3_code 1 (some (.object "com/example/planwright/planwright/model/ValueType")) :: ws) ({ frames := 0, cells := 0, slots := 0, locals := 0 } : Room)) (fun a U => a = #[(.int 2)] ∧ Z.Warmed39 U.vm ∧ U.heap = h0) (fun _ _ _ _ _ => True) (fun _ U o U' => ∃ v L, o = .returned v ∧ Q_vt_2 Z  w h0 n0 v U'.heap L ∧ FrameEnd U o U' L ({ frames := 0, cells := 0, slots := 0, locals := 0 } : Room).cells ({ frames := 0, cells := 0, slots := 0, locals := 0 } : Room).slots) := by
  refine MetFree.of_bodySF (plainFor_of_name pn_0) hisR ?_
  intro p e s m args below meth c s₁ Bd hml0 hP hK
  obtain ⟨rfl, hZ, hh⟩ := hP
  have hx := Bd.exec
  have hby := Bd.bytes
  have hml : c.maxLocals = 1 := hml0
  have hown : s.vm.findClass "com/example/planwright/planwright/model/OperatorTypePinLaw" = some m.cls := findClass_of_methodNamed Bd.named
  have hnm := (name_of_methodNamed Bd.named Bd.method).1
  have X0 : Stand p l e ({ frames := 0, cells := 0, slots := 0, locals := 0 } : Room) s m #[(.int 2)] below meth c s₁ [] 0 0 := Stand.of_body Bd
  have e0 : s₁.heap = h0 := by rw [← hh, Bd.state]; rfl
  have N0 := Fr.nil n0
  show oG p e below s (Q_vt_2 Z  w h0 n0) ({ frames := 0, cells := 0, slots := 0, locals := 0 } : Room).cells ({ frames := 0, cells := 0, slots := 0, locals := 0 } : Room).slots _
  refine oS (fun t k => castTop (ef_2_i_2 m ) k) ?_
  show oG _ _ _ _ _ _ _ (s₁.setTop (mkF m 0 #[.val (.int 2)] []))
  refine oS (fun t k => XS.iloadN X0.here hx rfl (hb hby d2_0) rfl k) ?_
  refine oS (fun t k => XS.ifYes X0.here hx rfl (pc0 := 1) (pc' := 8) rfl (hb hby d2_1) rfl ((if0 _ _).trans (feq (by decide)).2) (by decide) (by decide) k) ?_
  refine oS (fun t k => XS.iloadN X0.here hx rfl (hb hby d2_8) rfl k) ?_
  refine oS (fun t k => oIc li_1 X0.here hx rfl (hb hby d2_9) k) ?_
  refine oS (fun t k => XS.icmpYes X0.here hx rfl (pc0 := 10) (pc' := 17) rfl (hb hby d2_10) rfl (feq (by decide)).2 (by decide) (by decide) k) ?_
  show oG _ _ _ _ _ _ _ (s₁.setTop (mkF m 17 #[.val (.int 2)] []))
  obtain ⟨T1, X1, e1, st1⟩ := getS2 X0 hx hZ hown (host := "") (Or.inl (oW hw 15 rfl)) Via.refl e0 ((wS2 W).ext O0.2) (g := (mkF m 17 #[.val (.int 2)] [])) rfl (hb hby d2_17)
  refine oS (fun t k => st1 t k) ?_
  try clear st1
  exact own_ret (v := some (.ref (w 2))) X1 (fun h => by rw [Bd.returns] at h; cases h) Bd.notSynchronized (fun fs hr => retOut X1 hx (t := (.object "com/example/planwright/planwright/model/ValueType")) Bd.returns rfl (Or.inr (Or.inr (Or.inr (Or.inr ⟨rfl, rfl, rfl⟩)))) (hb hby d2_20) hr) (by rw [e1]; exact ⟨rfl, N0, rfl⟩) (by decide) (by decide)
theorem d8_0 : decode jdk_31_method_10_code 0 = .ok (.aload_n 0, 1) := by decide +kernel
theorem d8_1 : decode jdk_31_method_10_code 1 = .ok (.ifnonnull 11, 3) := by decide +kernel
theorem d8_12 : decode jdk_31_method_10_code 12 = .ok (.aload_n 0, 1) := by decide +kernel
theorem d8_13 : decode jdk_31_method_10_code 13 = .ok (.areturn, 1) := by decide +kernel
abbrev mY3 : MethodName := (⟨"java/util/Objects", "requireNonNull", "(Ljava/lang/Object;)Ljava/lang/Object;"⟩ : MethodName)
theorem ef_8_r (m : MethodId) (x0 : Addr) : entryFrame m #[(.ref x0)] 1 = mkF m 0 #[.val (.ref x0)] [] := by first | (simp [entryFrame, mkF, argsToLocals, Value.category]; done) | rfl
theorem pn_2 : plainName "java/util/Objects" = true := by first | (simp [plainName, overriddenIn]; done) | decide +kernel
def Q_rnn (Z : State) (a1 : Addr) (h0 : Heap) (n0 : Nat) (v : Option Value) (h : Heap) (L : List Loc) : Prop := v = some (.ref a1) ∧ Fr n0 L ∧ h = h0
set_option maxRecDepth 65536 in
set_option maxHeartbeats 40000000 in
theorem rm_rnn (l : Launch) (Z : State) (a0 : Array Value) (hw : ∀ d ∈ tables_1, d.before a0 Z = true) (ws : List Jvm.Cond) (a1 : Addr) (h0 : Heap) (n0 : Nat) (O0 : Old Z n0 h0) :
    MetFree l mY3 (head1 (Jvm.Cond.code mY3 jdk_31_method_10_code 1 (some (.object "java/lang/Object")) :: ws) ({ frames := 0, cells := 0, slots := 0, locals := 0 } : Room)) (fun a U => a = #[(.ref a1)] ∧ Z.Warmed39 U.vm ∧ U.heap = h0) (fun _ _ _ _ _ => True) (fun _ U o U' => ∃ v L, o = .returned v ∧ Q_rnn Z a1 h0 n0 v U'.heap L ∧ FrameEnd U o U' L ({ frames := 0, cells := 0, slots := 0, locals := 0 } : Room).cells ({ frames := 0, cells := 0, slots := 0, locals := 0 } : Room).slots) := by
  refine MetFree.of_bodySF (plainFor_of_name pn_2) hisR ?_
  intro p e s m args below meth c s₁ Bd hml0 hP hK
  obtain ⟨rfl, hZ, hh⟩ := hP
  have hx := Bd.exec
  have hby := Bd.bytes
  have hml : c.maxLocals = 1 := hml0
  have hown : s.vm.findClass "java/util/Objects" = some m.cls := findClass_of_methodNamed Bd.named
  have hnm := (name_of_methodNamed Bd.named Bd.method).1
  have X0 : Stand p l e ({ frames := 0, cells := 0, slots := 0, locals := 0 } : Room) s m #[(.ref a1)] below meth c s₁ [] 0 0 := Stand.of_body Bd
  have e0 : s₁.heap = h0 := by rw [← hh, Bd.state]; rfl
  have N0 := Fr.nil n0
  show oG p e below s (Q_rnn Z a1 h0 n0) ({ frames := 0, cells := 0, slots := 0, locals := 0 } : Room).cells ({ frames := 0, cells := 0, slots := 0, locals := 0 } : Room).slots _
  refine oS (fun t k => castTop (ef_8_r m a1) k) ?_
  show oG _ _ _ _ _ _ _ (s₁.setTop (mkF m 0 #[.val (.ref a1)] []))
  refine oS (fun t k => XS.aloadN X0.here hx rfl (hb hby d8_0) rfl rfl k) ?_
  refine oS (fun t k => XS.ifnonnullYes X0.here hx rfl (pc0 := 1) (pc' := 12) rfl (hb hby d8_1) rfl (by decide) (by decide) k) ?_
  refine oS (fun t k => XS.aloadN X0.here hx rfl (hb hby d8_12) rfl rfl k) ?_
  exact own_ret (v := some (.ref a1)) X0 (fun h => by rw [Bd.returns] at h; cases h) Bd.notSynchronized (fun fs hr => retOut X0 hx (t := (.object "java/lang/Object")) Bd.returns rfl (Or.inr (Or.inr (Or.inr (Or.inr ⟨rfl, rfl, rfl⟩)))) (hb hby d8_13) hr) (by rw [e0]; exact ⟨rfl, N0, rfl⟩) (by decide) (by decide)
theorem d9_0 : decode jdk_32_method_2_code 0 = .ok (.aload_n 0, 1) := by decide +kernel
theorem d9_1 : decode jdk_32_method_2_code 1 = .ok (.invokespecial 7, 3) := by decide +kernel
theorem d9_4 : decode jdk_32_method_2_code 4 = .ok (.aload_n 0, 1) := by decide +kernel
theorem d9_5 : decode jdk_32_method_2_code 5 = .ok (.aload_n 1, 1) := by decide +kernel
theorem d9_6 : decode jdk_32_method_2_code 6 = .ok (.putfield 13, 3) := by decide +kernel
theorem d9_9 : decode jdk_32_method_2_code 9 = .ok (.return_, 1) := by decide +kernel
abbrev mY4 : MethodName := (⟨"java/util/Optional", "<init>", "(Ljava/lang/Object;)V"⟩ : MethodName)
theorem ef_9_rr (m : MethodId) (x0 : Addr) (x1 : Addr) : entryFrame m #[(.ref x0), (.ref x1)] 2 = mkF m 0 #[.val (.ref x0), .val (.ref x1)] [] := by first | (simp [entryFrame, mkF, argsToLocals, Value.category]; done) | rfl
theorem pn_3 : plainName "java/util/Optional" = true := by first | (simp [plainName, overriddenIn]; done) | decide +kernel
def Q_init (Z : State) (a1 : Addr) (a2 : Addr) (u_value : Value) (w : Nat → Addr) (h0 : Heap) (n0 : Nat) (v : Option Value) (h : Heap) (L : List Loc) : Prop := v = none ∧ Fr n0 L ∧ Keep h0 h [a1] ∧ Exa Z h a1 "java/util/Optional" ∧ Fld Z h a1 "java/util/Optional" "value" "Ljava/lang/Object;" (.ref a2)
set_option maxRecDepth 65536 in
set_option maxHeartbeats 40000000 in
theorem rm_init (l : Launch) (Z : State) (a0 : Array Value) (hw : ∀ d ∈ tables_1, d.before a0 Z = true) (ws : List Jvm.Cond) (a1 : Addr) (a2 : Addr) (u_value : Value) (w : Nat → Addr) (h0 : Heap) (n0 : Nat) (O0 : Old Z n0 h0) (W : own_World Z w) (E_a1 : Exa Z h0 a1 "java/util/Optional") (g_a1 : n0 ≤ a1) (F_value_a1 : Fld Z h0 a1 "java/util/Optional" "value" "Ljava/lang/Object;" u_value) :
    MetFree l mY4 (head1 (Jvm.Cond.code mY4 jdk_32_method_2_code 2 none :: ws) ({ frames := 1, cells := 0, slots := 0, locals := 12 } : Room)) (fun a U => a = #[(.ref a1), (.ref a2)] ∧ Z.Warmed39 U.vm ∧ U.heap = h0) (fun _ _ _ _ _ => True) (fun _ U o U' => ∃ v L, o = .returned v ∧ Q_init Z a1 a2 u_value w h0 n0 v U'.heap L ∧ FrameEnd U o U' L ({ frames := 1, cells := 0, slots := 0, locals := 12 } : Room).cells ({ frames := 1, cells := 0, slots := 0, locals := 12 } : Room).slots) := by
  refine MetFree.of_bodySF (plainFor_of_name pn_3) hisR ?_
  intro p e s m args below meth c s₁ Bd hml0 hP hK
  obtain ⟨rfl, hZ, hh⟩ := hP
  have hx := Bd.exec
  have hby := Bd.bytes
  have hml : c.maxLocals = 2 := hml0
  have hown : s.vm.findClass "java/util/Optional" = some m.cls := findClass_of_methodNamed Bd.named
  have hnm := (name_of_methodNamed Bd.named Bd.method).1
  have X0 : Stand p l e ({ frames := 1, cells := 0, slots := 0, locals := 12 } : Room) s m #[(.ref a1), (.ref a2)] below meth c s₁ [] 0 0 := Stand.of_body Bd
  have e0 : s₁.heap = h0 := by rw [← hh, Bd.state]; rfl
  have N0 := Fr.nil n0
  show oG p e below s (Q_init Z a1 a2 u_value w h0 n0) ({ frames := 1, cells := 0, slots := 0, locals := 12 } : Room).cells ({ frames := 1, cells := 0, slots := 0, locals := 12 } : Room).slots _
  refine oS (fun t k => castTop (ef_9_rr m a1 a2) k) ?_
  show oG _ _ _ _ _ _ _ (s₁.setTop (mkF m 0 #[.val (.ref a1), .val (.ref a2)] []))
  refine oS (fun t k => XS.aloadN X0.here hx rfl (hb hby d9_0) rfl rfl k) ?_
  obtain ⟨T1, X1, e1, st1⟩ := initO X0 hx hZ hown (oW hw 61 rfl) (oW hw 62 rfl) (oW hw 63 rfl) e0 (g := (mkF m 1 #[.val (.ref a1), .val (.ref a2)] [(.ref a1)])) rfl (by rw [hml]; rfl) rfl (hb hby d9_1) (by decide) (W := 0) (by show 2 * 0 + _ ≤ _; exact Nat.le_of_eq rfl) (by decide)
  refine oS (fun t k => st1 t k) ?_
  refine oS (fun t k => XS.aloadN X1.here hx rfl (hb hby d9_4) rfl rfl k) ?_
  refine oS (fun t k => XS.aloadN X1.here hx rfl (hb hby d9_5) rfl rfl k) ?_
  obtain ⟨T2, h2, X2, e2, W2, st2⟩ := putF X1 hx hZ hown (host := "") (Or.inl (oW hw 44 rfl)) Via.refl e1 F_value_a1 E_a1 (Or.inr ⟨(oW hw 45 rfl), rfl, hnm⟩) (oW hw 52 rfl) (ty := (.object "java/lang/Object")) (by decide) rfl rfl (g := (mkF m 6 #[.val (.ref a1), .val (.ref a2)] [(.ref a2), (.ref a1)])) rfl rfl (hb hby d9_6)
  have O2 := O0.wr W2 g_a1
  have N2 := Fr.snoc X2 N0 g_a1
  have Kp2 : Keep h0 h2 [a1] := (Keep.refl h0 [a1]).wr W2 (Or.inl (List.mem_of_getElem? (i := 0) rfl))
  have Fw2 := F_value_a1.same W2
  refine oS (fun t k => st2 t k) ?_
  show oG _ _ _ _ _ _ _ (T2.setTop (mkF m 9 #[.val (.ref a1), .val (.ref a2)] []))
  try clear st2 X1 e1
  try clear T1
  exact own_ret (v := none) X2 (fun _ => rfl) Bd.notSynchronized (fun fs hr => X2.returnOut hx Bd.returns (hb hby d9_9) hr) (by rw [e2]; exact ⟨rfl, N2, Kp2, (E_a1.wr W2), Fw2⟩) (by decide) (by decide)
theorem d7_0 : decode jdk_32_method_3_code 0 = .ok (.new 2, 3) := by decide +kernel
theorem d7_3 : decode jdk_32_method_3_code 3 = .ok (.dup, 1) := by decide +kernel
theorem d7_4 : decode jdk_32_method_3_code 4 = .ok (.aload_n 0, 1) := by decide +kernel
theorem d7_5 : decode jdk_32_method_3_code 5 = .ok (.invokestatic 17, 3) := by decide +kernel
theorem pd_0 : parseMethodDescriptor "(Ljava/lang/Object;)Ljava/lang/Object;" = some ⟨[(.object "java/lang/Object")], some (.object "java/lang/Object")⟩ := by decide +kernel
theorem d7_8 : decode jdk_32_method_3_code 8 = .ok (.invokespecial 23, 3) := by decide +kernel
theorem pd_1 : parseMethodDescriptor "(Ljava/lang/Object;)V" = some ⟨[(.object "java/lang/Object")], none⟩ := by decide +kernel
theorem d7_11 : decode jdk_32_method_3_code 11 = .ok (.areturn, 1) := by decide +kernel
abbrev mY5 : MethodName := (⟨"java/util/Optional", "of", "(Ljava/lang/Object;)Ljava/util/Optional;"⟩ : MethodName)
theorem ef_7_r (m : MethodId) (x0 : Addr) : entryFrame m #[(.ref x0)] 1 = mkF m 0 #[.val (.ref x0)] [] := by first | (simp [entryFrame, mkF, argsToLocals, Value.category]; done) | rfl
def Q_of (Z : State) (a2 : Addr) (w : Nat → Addr) (h0 : Heap) (n0 : Nat) (v : Option Value) (h : Heap) (L : List Loc) : Prop := ∃ r : Addr, v = some (.ref r) ∧ Fr n0 L ∧ Keep h0 h [] ∧ h0.size ≤ r ∧ Exa Z h r "java/util/Optional" ∧ Fld Z h r "java/util/Optional" "value" "Ljava/lang/Object;" (.ref a2)
set_option maxRecDepth 65536 in
set_option maxHeartbeats 40000000 in
theorem rm_of (l : Launch) (Z : State) (a0 : Array Value) (hw : ∀ d ∈ tables_1, d.before a0 Z = true) (ws : List Jvm.Cond) (a2 : Addr) (w : Nat → Addr) (h0 : Heap) (n0 : Nat) (O0 : Old Z n0 h0) (W : own_World Z w) :
    MetFree l mY5 (head1 (Jvm.Cond.code mY5 jdk_32_method_3_code 1 (some (.object "java/util/Optional")) :: ws) ({ frames := 2, cells := 1, slots := 1, locals := 26 } : Room)) (fun a U => a = #[(.ref a2)] ∧ Z.Warmed39 U.vm ∧ U.heap = h0) (fun _ _ _ _ _ => True) (fun _ U o U' => ∃ v L, o = .returned v ∧ Q_of Z a2 w h0 n0 v U'.heap L ∧ FrameEnd U o U' L ({ frames := 2, cells := 1, slots := 1, locals := 26 } : Room).cells ({ frames := 2, cells := 1, slots := 1, locals := 26 } : Room).slots) := by
  refine MetFree.of_bodySF (plainFor_of_name pn_3) hisR ?_
  intro p e s m args below meth c s₁ Bd hml0 hP hK
  obtain ⟨rfl, hZ, hh⟩ := hP
  have hx := Bd.exec
  have hby := Bd.bytes
  have hml : c.maxLocals = 1 := hml0
  have hown : s.vm.findClass "java/util/Optional" = some m.cls := findClass_of_methodNamed Bd.named
  have hnm := (name_of_methodNamed Bd.named Bd.method).1
  have X0 : Stand p l e ({ frames := 2, cells := 1, slots := 1, locals := 26 } : Room) s m #[(.ref a2)] below meth c s₁ [] 0 0 := Stand.of_body Bd
  have e0 : s₁.heap = h0 := by rw [← hh, Bd.state]; rfl
  have N0 := Fr.nil n0
  show oG p e below s (Q_of Z a2 w h0 n0) ({ frames := 2, cells := 1, slots := 1, locals := 26 } : Room).cells ({ frames := 2, cells := 1, slots := 1, locals := 26 } : Room).slots _
  refine oS (fun t k => castTop (ef_7_r m a2) k) ?_
  show oG _ _ _ _ _ _ _ (s₁.setTop (mkF m 0 #[.val (.ref a2)] []))
  obtain ⟨T1, h1, X1, e1, E1, A1, D1, -, st1⟩ := newO X0 hx hZ hown (oW hw 51 rfl) (oW hw 52 rfl) (oW hw 36 rfl) e0 (g := (mkF m 0 #[.val (.ref a2)] [])) rfl (hb hby d7_0) (by decide) (by decide)
  obtain ⟨b1, g1⟩ : ∃ z, z = h0.size := ⟨_, rfl⟩
  rw [← g1] at A1 D1 st1
  have gx1 : n0 ≤ b1 := Nat.le_trans (O0.1 ▸ O0.2.1) (Nat.le_of_eq g1.symm)
  have sz1 : h0.size ≤ b1 := Nat.le_trans (Nat.le_refl _) (Nat.le_of_eq g1.symm)
  have O1 := O0.ext E1
  have Kp1 : Keep h0 h1 [] := (Keep.refl h0 []).ext E1
  have F_value_b1 : Fld Z h1 b1 "java/util/Optional" "value" "Ljava/lang/Object;" .null := D1 (Or.inr (oW hw 45 rfl)) (ty := (.object "java/lang/Object")) (by decide)
  refine oS (fun t k => st1 t k) ?_
  try clear st1
  refine oS (fun t k => XS.dup X1.here hx rfl (hb hby d7_3) rfl rfl k) ?_
  refine oS (fun t k => XS.aloadN X1.here hx rfl (hb hby d7_4) rfl rfl k) ?_
  obtain ⟨_, _, ⟨T2, L2, k2, n2⟩, -, X2, ⟨Lc2, hQ2, l2, y2, z2⟩, st2⟩ := Jvm.LawKit.callS X1 hx (y := mY3) hown (mvT hZ (oW hw 53 rfl)) (mvT hZ (oW hw 54 rfl)) (mvT hZ (oW hw 55 rfl)) (mvT hZ (oW hw 56 rfl)) (by decide) (backOf (W := 2) (rm_rnn l Z a0 hw [] a2  h1 n0 O1  ) hZ (oW hw 56 rfl) (oW hw 55 rfl) (by decide) (by decide)) (g := (mkF m 5 #[.val (.ref a2)] [(.ref a2), (.ref b1), (.ref b1)])) rfl (by rw [hml]; rfl) (argsL := [(.ref a2)]) (rest := [(.ref b1), (.ref b1)]) (lenOf pd_0 rfl) rfl (by show 2 * 0 + _ ≤ _; exact Nat.le_of_eq rfl) (hb hby d7_5) (fun _ _ => ⟨rfl, e1, (by decide : 1 + 0 ≤ _), (by decide : 1 + 0 ≤ _)⟩)
  dsimp only [Pt.U, Pt.locs, Pt.cells, Pt.slots] at X2 l2 y2 z2 st2 hQ2
  rw [l2, y2, z2] at X2
  clear l2 y2 z2
  obtain ⟨rfl, Nq2, e2⟩ := hQ2
  have N2 := Fr.app N0 Nq2
  refine oS (fun t k => st2 t k) ?_
  show oG _ _ _ _ _ _ _ (T2.setTop (mkF m 8 #[.val (.ref a2)] [(.ref a2), (.ref b1), (.ref b1)]))
  try clear st2 X1 e1
  try clear T1
  obtain ⟨_, _, ⟨T3, L3, k3, n3⟩, -, X3, ⟨Lc3, hQ3, l3, y3, z3⟩, st3⟩ := X2.specialBack hx (y := mY4) rfl hown (mvT hZ (oW hw 57 rfl)) (mvT hZ (oW hw 58 rfl)) (mvT hZ (oW hw 60 rfl)) (by decide) (backOf (W := 1) (rm_init l Z a0 hw [] b1 a2 .null w h1 n0 O1 W A1 gx1 F_value_b1) hZ (oW hw 60 rfl) (oW hw 36 rfl) (by decide) (by decide)) (g := (mkF m 8 #[.val (.ref a2)] [(.ref a2), (.ref b1), (.ref b1)])) rfl (by rw [hml]; rfl) (Steps.refl _) (a := b1) (argsL := [(.ref a2)]) (rest := [(.ref b1)]) (lenOf pd_1 rfl) rfl (by show 2 * 0 + _ ≤ _; exact Nat.le_of_eq rfl) (hb hby d7_8) (fun _ _ => ⟨rfl, e2, (by decide : 1 + 0 ≤ _), (by decide : 1 + 0 ≤ _)⟩)
  dsimp only [Pt.U, Pt.locs, Pt.cells, Pt.slots] at X3 l3 y3 z3 st3 hQ3
  rw [l3, y3, z3] at X3
  clear l3 y3 z3
  obtain ⟨rfl, Nq3, K3, P3_0, P3_1⟩ := hQ3
  have N3 := Fr.app N2 Nq3
  have O3 := O1.keep K3 (allS gx1 all0)
  have Kp3 : Keep h0 T3.heap [] := Kp1.trans K3 (allS (Or.inr sz1) all0)
  refine oS (fun t k => st3.trans k) ?_
  show oG _ _ _ _ _ _ _ (T3.setTop (mkF m 11 #[.val (.ref a2)] [(.ref b1)]))
  try clear st3 X2 e2
  exact own_ret (v := some (.ref b1)) X3 (fun h => by rw [Bd.returns] at h; cases h) Bd.notSynchronized (fun fs hr => retOut X3 hx (t := (.object "java/util/Optional")) Bd.returns rfl (Or.inr (Or.inr (Or.inr (Or.inr ⟨rfl, rfl, rfl⟩)))) (hb hby d7_11) hr) (by exact ⟨b1, rfl, N3, Kp3, sz1, P3_0, P3_1⟩) (by decide) (by decide)
theorem d5_0 : decode jdk_32_method_4_code 0 = .ok (.aload_n 0, 1) := by decide +kernel
theorem d5_1 : decode jdk_32_method_4_code 1 = .ok (.ifnonnull 9, 3) := by decide +kernel
theorem d5_10 : decode jdk_32_method_4_code 10 = .ok (.new 2, 3) := by decide +kernel
theorem d5_13 : decode jdk_32_method_4_code 13 = .ok (.dup, 1) := by decide +kernel
theorem d5_14 : decode jdk_32_method_4_code 14 = .ok (.aload_n 0, 1) := by decide +kernel
theorem d5_15 : decode jdk_32_method_4_code 15 = .ok (.invokespecial 23, 3) := by decide +kernel
theorem d5_18 : decode jdk_32_method_4_code 18 = .ok (.areturn, 1) := by decide +kernel
abbrev mY6 : MethodName := (⟨"java/util/Optional", "ofNullable", "(Ljava/lang/Object;)Ljava/util/Optional;"⟩ : MethodName)
theorem ef_5_r (m : MethodId) (x0 : Addr) : entryFrame m #[(.ref x0)] 1 = mkF m 0 #[.val (.ref x0)] [] := by first | (simp [entryFrame, mkF, argsToLocals, Value.category]; done) | rfl
def Q_ofN (Z : State) (a2 : Addr) (w : Nat → Addr) (h0 : Heap) (n0 : Nat) (v : Option Value) (h : Heap) (L : List Loc) : Prop := ∃ r : Addr, v = some (.ref r) ∧ Fr n0 L ∧ Keep h0 h [] ∧ h0.size ≤ r ∧ Exa Z h r "java/util/Optional" ∧ Fld Z h r "java/util/Optional" "value" "Ljava/lang/Object;" (.ref a2)
set_option maxRecDepth 65536 in
set_option maxHeartbeats 40000000 in
theorem rm_ofN (l : Launch) (Z : State) (a0 : Array Value) (hw : ∀ d ∈ tables_1, d.before a0 Z = true) (ws : List Jvm.Cond) (a2 : Addr) (w : Nat → Addr) (h0 : Heap) (n0 : Nat) (O0 : Old Z n0 h0) (W : own_World Z w) :
    MetFree l mY6 (head1 (Jvm.Cond.code mY6 jdk_32_method_4_code 1 (some (.object "java/util/Optional")) :: ws) ({ frames := 2, cells := 1, slots := 1, locals := 26 } : Room)) (fun a U => a = #[(.ref a2)] ∧ Z.Warmed39 U.vm ∧ U.heap = h0) (fun _ _ _ _ _ => True) (fun _ U o U' => ∃ v L, o = .returned v ∧ Q_ofN Z a2 w h0 n0 v U'.heap L ∧ FrameEnd U o U' L ({ frames := 2, cells := 1, slots := 1, locals := 26 } : Room).cells ({ frames := 2, cells := 1, slots := 1, locals := 26 } : Room).slots) := by
  refine MetFree.of_bodySF (plainFor_of_name pn_3) hisR ?_
  intro p e s m args below meth c s₁ Bd hml0 hP hK
  obtain ⟨rfl, hZ, hh⟩ := hP
  have hx := Bd.exec
  have hby := Bd.bytes
  have hml : c.maxLocals = 1 := hml0
  have hown : s.vm.findClass "java/util/Optional" = some m.cls := findClass_of_methodNamed Bd.named
  have hnm := (name_of_methodNamed Bd.named Bd.method).1
  have X0 : Stand p l e ({ frames := 2, cells := 1, slots := 1, locals := 26 } : Room) s m #[(.ref a2)] below meth c s₁ [] 0 0 := Stand.of_body Bd
  have e0 : s₁.heap = h0 := by rw [← hh, Bd.state]; rfl
  have N0 := Fr.nil n0
  show oG p e below s (Q_ofN Z a2 w h0 n0) ({ frames := 2, cells := 1, slots := 1, locals := 26 } : Room).cells ({ frames := 2, cells := 1, slots := 1, locals := 26 } : Room).slots _
  refine oS (fun t k => castTop (ef_5_r m a2) k) ?_
  show oG _ _ _ _ _ _ _ (s₁.setTop (mkF m 0 #[.val (.ref a2)] []))
  refine oS (fun t k => XS.aloadN X0.here hx rfl (hb hby d5_0) rfl rfl k) ?_
  refine oS (fun t k => XS.ifnonnullYes X0.here hx rfl (pc0 := 1) (pc' := 10) rfl (hb hby d5_1) rfl (by decide) (by decide) k) ?_
  obtain ⟨T1, h1, X1, e1, E1, A1, D1, -, st1⟩ := newO X0 hx hZ hown (oW hw 51 rfl) (oW hw 52 rfl) (oW hw 36 rfl) e0 (g := (mkF m 10 #[.val (.ref a2)] [])) rfl (hb hby d5_10) (by decide) (by decide)
  obtain ⟨b1, g1⟩ : ∃ z, z = h0.size := ⟨_, rfl⟩
  rw [← g1] at A1 D1 st1
  have gx1 : n0 ≤ b1 := Nat.le_trans (O0.1 ▸ O0.2.1) (Nat.le_of_eq g1.symm)
  have sz1 : h0.size ≤ b1 := Nat.le_trans (Nat.le_refl _) (Nat.le_of_eq g1.symm)
  have O1 := O0.ext E1
  have Kp1 : Keep h0 h1 [] := (Keep.refl h0 []).ext E1
  have F_value_b1 : Fld Z h1 b1 "java/util/Optional" "value" "Ljava/lang/Object;" .null := D1 (Or.inr (oW hw 45 rfl)) (ty := (.object "java/lang/Object")) (by decide)
  refine oS (fun t k => st1 t k) ?_
  try clear st1
  refine oS (fun t k => XS.dup X1.here hx rfl (hb hby d5_13) rfl rfl k) ?_
  refine oS (fun t k => XS.aloadN X1.here hx rfl (hb hby d5_14) rfl rfl k) ?_
  show oG _ _ _ _ _ _ _ (T1.setTop (mkF m 15 #[.val (.ref a2)] [(.ref a2), (.ref b1), (.ref b1)]))
  obtain ⟨_, _, ⟨T2, L2, k2, n2⟩, -, X2, ⟨Lc2, hQ2, l2, y2, z2⟩, st2⟩ := X1.specialBack hx (y := mY4) rfl hown (mvT hZ (oW hw 57 rfl)) (mvT hZ (oW hw 58 rfl)) (mvT hZ (oW hw 60 rfl)) (by decide) (backOf (W := 1) (rm_init l Z a0 hw [] b1 a2 .null w h1 n0 O1 W A1 gx1 F_value_b1) hZ (oW hw 60 rfl) (oW hw 36 rfl) (by decide) (by decide)) (g := (mkF m 15 #[.val (.ref a2)] [(.ref a2), (.ref b1), (.ref b1)])) rfl (by rw [hml]; rfl) (Steps.refl _) (a := b1) (argsL := [(.ref a2)]) (rest := [(.ref b1)]) (lenOf pd_1 rfl) rfl (by show 2 * 0 + _ ≤ _; exact Nat.le_of_eq rfl) (hb hby d5_15) (fun _ _ => ⟨rfl, e1, (by decide : 1 + 0 ≤ _), (by decide : 1 + 0 ≤ _)⟩)
  dsimp only [Pt.U, Pt.locs, Pt.cells, Pt.slots] at X2 l2 y2 z2 st2 hQ2
  rw [l2, y2, z2] at X2
  clear l2 y2 z2
  obtain ⟨rfl, Nq2, K2, P2_0, P2_1⟩ := hQ2
  have N2 := Fr.app N0 Nq2
  have O2 := O1.keep K2 (allS gx1 all0)
  have Kp2 : Keep h0 T2.heap [] := Kp1.trans K2 (allS (Or.inr sz1) all0)
  refine oS (fun t k => st2.trans k) ?_
  show oG _ _ _ _ _ _ _ (T2.setTop (mkF m 18 #[.val (.ref a2)] [(.ref b1)]))
  try clear st2 X1 e1
  try clear T1
  exact own_ret (v := some (.ref b1)) X2 (fun h => by rw [Bd.returns] at h; cases h) Bd.notSynchronized (fun fs hr => retOut X2 hx (t := (.object "java/util/Optional")) Bd.returns rfl (Or.inr (Or.inr (Or.inr (Or.inr ⟨rfl, rfl, rfl⟩)))) (hb hby d5_18) hr) (by exact ⟨b1, rfl, N2, Kp2, sz1, P2_0, P2_1⟩) (by decide) (by decide)
theorem d5_4 : decode jdk_32_method_4_code 4 = .ok (.getstatic 1, 3) := by decide +kernel
theorem d5_7 : decode jdk_32_method_4_code 7 = .ok (.goto 11, 3) := by decide +kernel
theorem ef_5_n (m : MethodId)  : entryFrame m #[.null] 1 = mkF m 0 #[.val .null] [] := by first | (simp [entryFrame, mkF, argsToLocals, Value.category]; done) | rfl
def Q_ofN0 (Z : State)  (w : Nat → Addr) (h0 : Heap) (n0 : Nat) (v : Option Value) (h : Heap) (L : List Loc) : Prop := v = some (.ref (w 7)) ∧ Fr n0 L ∧ h = h0
set_option maxRecDepth 65536 in
set_option maxHeartbeats 40000000 in
theorem rm_ofN0 (l : Launch) (Z : State) (a0 : Array Value) (hw : ∀ d ∈ tables_1, d.before a0 Z = true) (ws : List Jvm.Cond)  (w : Nat → Addr) (h0 : Heap) (n0 : Nat) (O0 : Old Z n0 h0) (W : own_World Z w) :
    MetFree l mY6 (head1 (Jvm.Cond.code mY6 jdk_32_method_4_code 1 (some (.object "java/util/Optional")) :: ws) ({ frames := 0, cells := 0, slots := 0, locals := 0 } : Room)) (fun a U => a = #[.null] ∧ Z.Warmed39 U.vm ∧ U.heap = h0) (fun _ _ _ _ _ => True) (fun _ U o U' => ∃ v L, o = .returned v ∧ Q_ofN0 Z  w h0 n0 v U'.heap L ∧ FrameEnd U o U' L ({ frames := 0, cells := 0, slots := 0, locals := 0 } : Room).cells ({ frames := 0, cells := 0, slots := 0, locals := 0 } : Room).slots) := by
  refine MetFree.of_bodySF (plainFor_of_name pn_3) hisR ?_
  intro p e s m args below meth c s₁ Bd hml0 hP hK
  obtain ⟨rfl, hZ, hh⟩ := hP
  have hx := Bd.exec
  have hby := Bd.bytes
  have hml : c.maxLocals = 1 := hml0
  have hown : s.vm.findClass "java/util/Optional" = some m.cls := findClass_of_methodNamed Bd.named
  have hnm := (name_of_methodNamed Bd.named Bd.method).1
  have X0 : Stand p l e ({ frames := 0, cells := 0, slots := 0, locals := 0 } : Room) s m #[.null] below meth c s₁ [] 0 0 := Stand.of_body Bd
  have e0 : s₁.heap = h0 := by rw [← hh, Bd.state]; rfl
  have N0 := Fr.nil n0
  show oG p e below s (Q_ofN0 Z  w h0 n0) ({ frames := 0, cells := 0, slots := 0, locals := 0 } : Room).cells ({ frames := 0, cells := 0, slots := 0, locals := 0 } : Room).slots _
  refine oS (fun t k => castTop (ef_5_n m ) k) ?_
  show oG _ _ _ _ _ _ _ (s₁.setTop (mkF m 0 #[.val .null] []))
  refine oS (fun t k => XS.aloadN X0.here hx rfl (hb hby d5_0) rfl rfl k) ?_
  refine oS (fun t k => XS.ifnonnullNo X0.here hx rfl (hb hby d5_1) rfl k) ?_
  obtain ⟨T1, X1, e1, st1⟩ := getS2 X0 hx hZ hown (host := "") (Or.inl (oW hw 38 rfl)) Via.refl e0 ((wS7 W).ext O0.2) (g := (mkF m 4 #[.val .null] [])) rfl (hb hby d5_4)
  refine oS (fun t k => st1 t k) ?_
  try clear st1
  refine oS (fun t k => XS.goto X1.here hx rfl (pc0 := 7) (pc' := 18) rfl (hb hby d5_7) (by decide) (by decide) k) ?_
  exact own_ret (v := some (.ref (w 7))) X1 (fun h => by rw [Bd.returns] at h; cases h) Bd.notSynchronized (fun fs hr => retOut X1 hx (t := (.object "java/util/Optional")) Bd.returns rfl (Or.inr (Or.inr (Or.inr (Or.inr ⟨rfl, rfl, rfl⟩)))) (hb hby d5_18) hr) (by rw [e1]; exact ⟨rfl, N0, rfl⟩) (by decide) (by decide)
theorem d6_0 : decode jdk_32_method_15_code 0 = .ok (.aload_n 0, 1) := by decide +kernel
theorem d6_1 : decode jdk_32_method_15_code 1 = .ok (.getfield 13, 3) := by decide +kernel
theorem d6_4 : decode jdk_32_method_15_code 4 = .ok (.ifnull 10, 3) := by decide +kernel
theorem d6_7 : decode jdk_32_method_15_code 7 = .ok (.aload_n 0, 1) := by decide +kernel
theorem d6_8 : decode jdk_32_method_15_code 8 = .ok (.getfield 13, 3) := by decide +kernel
theorem d6_11 : decode jdk_32_method_15_code 11 = .ok (.goto 4, 3) := by decide +kernel
theorem d6_15 : decode jdk_32_method_15_code 15 = .ok (.areturn, 1) := by decide +kernel
abbrev mY7 : MethodName := (⟨"java/util/Optional", "orElse", "(Ljava/lang/Object;)Ljava/lang/Object;"⟩ : MethodName)
theorem ef_6_rn (m : MethodId) (x0 : Addr) : entryFrame m #[(.ref x0), .null] 2 = mkF m 0 #[.val (.ref x0), .val .null] [] := by first | (simp [entryFrame, mkF, argsToLocals, Value.category]; done) | rfl
def Q_oe (Z : State) (a1 : Addr) (a2 : Addr) (h0 : Heap) (n0 : Nat) (v : Option Value) (h : Heap) (L : List Loc) : Prop := v = some (.ref a2) ∧ Fr n0 L ∧ h = h0
set_option maxRecDepth 65536 in
set_option maxHeartbeats 40000000 in
theorem rm_oe (l : Launch) (Z : State) (a0 : Array Value) (hw : ∀ d ∈ tables_1, d.before a0 Z = true) (ws : List Jvm.Cond) (a1 : Addr) (a2 : Addr) (h0 : Heap) (n0 : Nat) (O0 : Old Z n0 h0) (F_v : Fld Z h0 a1 "java/util/Optional" "value" "Ljava/lang/Object;" (.ref a2)) :
    MetFree l mY7 (head1 (Jvm.Cond.code mY7 jdk_32_method_15_code 2 (some (.object "java/lang/Object")) :: ws) ({ frames := 0, cells := 0, slots := 0, locals := 0 } : Room)) (fun a U => a = #[(.ref a1), .null] ∧ Z.Warmed39 U.vm ∧ U.heap = h0) (fun _ _ _ _ _ => True) (fun _ U o U' => ∃ v L, o = .returned v ∧ Q_oe Z a1 a2 h0 n0 v U'.heap L ∧ FrameEnd U o U' L ({ frames := 0, cells := 0, slots := 0, locals := 0 } : Room).cells ({ frames := 0, cells := 0, slots := 0, locals := 0 } : Room).slots) := by
  refine MetFree.of_bodySF (plainFor_of_name pn_3) hisR ?_
  intro p e s m args below meth c s₁ Bd hml0 hP hK
  obtain ⟨rfl, hZ, hh⟩ := hP
  have hx := Bd.exec
  have hby := Bd.bytes
  have hml : c.maxLocals = 2 := hml0
  have hown : s.vm.findClass "java/util/Optional" = some m.cls := findClass_of_methodNamed Bd.named
  have hnm := (name_of_methodNamed Bd.named Bd.method).1
  have X0 : Stand p l e ({ frames := 0, cells := 0, slots := 0, locals := 0 } : Room) s m #[(.ref a1), .null] below meth c s₁ [] 0 0 := Stand.of_body Bd
  have e0 : s₁.heap = h0 := by rw [← hh, Bd.state]; rfl
  have N0 := Fr.nil n0
  show oG p e below s (Q_oe Z a1 a2 h0 n0) ({ frames := 0, cells := 0, slots := 0, locals := 0 } : Room).cells ({ frames := 0, cells := 0, slots := 0, locals := 0 } : Room).slots _
  refine oS (fun t k => castTop (ef_6_rn m a1) k) ?_
  show oG _ _ _ _ _ _ _ (s₁.setTop (mkF m 0 #[.val (.ref a1), .val .null] []))
  refine oS (fun t k => XS.aloadN X0.here hx rfl (hb hby d6_0) rfl rfl k) ?_
  obtain ⟨T1, X1, e1, st1⟩ := getF X0 hx hZ hown (host := "") (Or.inl (oW hw 44 rfl)) Via.refl e0 F_v (g := (mkF m 1 #[.val (.ref a1), .val .null] [(.ref a1)])) rfl rfl (hb hby d6_1)
  refine oS (fun t k => st1 t k) ?_
  try clear st1
  refine oS (fun t k => XS.ifnullNo X1.here hx rfl (hb hby d6_4) rfl k) ?_
  refine oS (fun t k => XS.aloadN X1.here hx rfl (hb hby d6_7) rfl rfl k) ?_
  obtain ⟨T2, X2, e2, st2⟩ := getF X1 hx hZ hown (host := "") (Or.inl (oW hw 44 rfl)) Via.refl e1 F_v (g := (mkF m 8 #[.val (.ref a1), .val .null] [(.ref a1)])) rfl rfl (hb hby d6_8)
  refine oS (fun t k => st2 t k) ?_
  show oG _ _ _ _ _ _ _ (T2.setTop (mkF m 11 #[.val (.ref a1), .val .null] [(.ref a2)]))
  try clear st2 X1 e1
  try clear T1
  refine oS (fun t k => XS.goto X2.here hx rfl (pc0 := 11) (pc' := 15) rfl (hb hby d6_11) (by decide) (by decide) k) ?_
  exact own_ret (v := some (.ref a2)) X2 (fun h => by rw [Bd.returns] at h; cases h) Bd.notSynchronized (fun fs hr => retOut X2 hx (t := (.object "java/lang/Object")) Bd.returns rfl (Or.inr (Or.inr (Or.inr (Or.inr ⟨rfl, rfl, rfl⟩)))) (hb hby d6_15) hr) (by rw [e2]; exact ⟨rfl, N0, rfl⟩) (by decide) (by decide)
theorem d6_14 : decode jdk_32_method_15_code 14 = .ok (.aload_n 1, 1) := by decide +kernel
def Q_oe0 (Z : State) (a1 : Addr) (h0 : Heap) (n0 : Nat) (v : Option Value) (h : Heap) (L : List Loc) : Prop := v = some .null ∧ Fr n0 L ∧ h = h0
set_option maxRecDepth 65536 in
set_option maxHeartbeats 40000000 in
theorem rm_oe0 (l : Launch) (Z : State) (a0 : Array Value) (hw : ∀ d ∈ tables_1, d.before a0 Z = true) (ws : List Jvm.Cond) (a1 : Addr) (h0 : Heap) (n0 : Nat) (O0 : Old Z n0 h0) (F_v : Fld Z h0 a1 "java/util/Optional" "value" "Ljava/lang/Object;" .null) :
    MetFree l mY7 (head1 (Jvm.Cond.code mY7 jdk_32_method_15_code 2 (some (.object "java/lang/Object")) :: ws) ({ frames := 0, cells := 0, slots := 0, locals := 0 } : Room)) (fun a U => a = #[(.ref a1), .null] ∧ Z.Warmed39 U.vm ∧ U.heap = h0) (fun _ _ _ _ _ => True) (fun _ U o U' => ∃ v L, o = .returned v ∧ Q_oe0 Z a1 h0 n0 v U'.heap L ∧ FrameEnd U o U' L ({ frames := 0, cells := 0, slots := 0, locals := 0 } : Room).cells ({ frames := 0, cells := 0, slots := 0, locals := 0 } : Room).slots) := by
  refine MetFree.of_bodySF (plainFor_of_name pn_3) hisR ?_
  intro p e s m args below meth c s₁ Bd hml0 hP hK
  obtain ⟨rfl, hZ, hh⟩ := hP
  have hx := Bd.exec
  have hby := Bd.bytes
  have hml : c.maxLocals = 2 := hml0
  have hown : s.vm.findClass "java/util/Optional" = some m.cls := findClass_of_methodNamed Bd.named
  have hnm := (name_of_methodNamed Bd.named Bd.method).1
  have X0 : Stand p l e ({ frames := 0, cells := 0, slots := 0, locals := 0 } : Room) s m #[(.ref a1), .null] below meth c s₁ [] 0 0 := Stand.of_body Bd
  have e0 : s₁.heap = h0 := by rw [← hh, Bd.state]; rfl
  have N0 := Fr.nil n0
  show oG p e below s (Q_oe0 Z a1 h0 n0) ({ frames := 0, cells := 0, slots := 0, locals := 0 } : Room).cells ({ frames := 0, cells := 0, slots := 0, locals := 0 } : Room).slots _
  refine oS (fun t k => castTop (ef_6_rn m a1) k) ?_
  show oG _ _ _ _ _ _ _ (s₁.setTop (mkF m 0 #[.val (.ref a1), .val .null] []))
  refine oS (fun t k => XS.aloadN X0.here hx rfl (hb hby d6_0) rfl rfl k) ?_
  obtain ⟨T1, X1, e1, st1⟩ := getF X0 hx hZ hown (host := "") (Or.inl (oW hw 44 rfl)) Via.refl e0 F_v (g := (mkF m 1 #[.val (.ref a1), .val .null] [(.ref a1)])) rfl rfl (hb hby d6_1)
  refine oS (fun t k => st1 t k) ?_
  try clear st1
  refine oS (fun t k => XS.ifnullYes X1.here hx rfl (pc0 := 4) (pc' := 14) rfl (hb hby d6_4) rfl (by decide) (by decide) k) ?_
  refine oS (fun t k => XS.aloadN X1.here hx rfl (hb hby d6_14) rfl rfl k) ?_
  exact own_ret (v := some .null) X1 (fun h => by rw [Bd.returns] at h; cases h) Bd.notSynchronized (fun fs hr => retOut X1 hx (t := (.object "java/lang/Object")) Bd.returns rfl (Or.inr (Or.inr (Or.inr (Or.inr ⟨rfl, rfl, rfl⟩)))) (hb hby d6_15) hr) (by rw [e1]; exact ⟨rfl, N0, rfl⟩) (by decide) (by decide)
theorem d3_0 : decode prog_45_method_6_code 0 = .ok (.getstatic 51, 3) := by decide +kernel
theorem d3_3 : decode prog_45_method_6_code 3 = .ok (.astore_n 3, 1) := by decide +kernel
theorem d3_4 : decode prog_45_method_6_code 4 = .ok (.getstatic 57, 3) := by decide +kernel
theorem d3_7 : decode prog_45_method_6_code 7 = .ok (.astore 4, 2) := by decide +kernel
theorem d3_9 : decode prog_45_method_6_code 9 = .ok (.aload_n 1, 1) := by decide +kernel
theorem d3_10 : decode prog_45_method_6_code 10 = .ok (.aload_n 3, 1) := by decide +kernel
theorem d3_11 : decode prog_45_method_6_code 11 = .ok (.if_acmp .ne 13, 3) := by decide +kernel
theorem d3_14 : decode prog_45_method_6_code 14 = .ok (.aload_n 2, 1) := by decide +kernel
theorem d3_15 : decode prog_45_method_6_code 15 = .ok (.aload_n 3, 1) := by decide +kernel
theorem d3_16 : decode prog_45_method_6_code 16 = .ok (.if_acmp .ne 8, 3) := by decide +kernel
theorem d3_19 : decode prog_45_method_6_code 19 = .ok (.aload_n 3, 1) := by decide +kernel
theorem d3_20 : decode prog_45_method_6_code 20 = .ok (.invokestatic 60, 3) := by decide +kernel
theorem pd_2 : parseMethodDescriptor "(Ljava/lang/Object;)Ljava/util/Optional;" = some ⟨[(.object "java/lang/Object")], some (.object "java/util/Optional")⟩ := by decide +kernel
theorem d3_23 : decode prog_45_method_6_code 23 = .ok (.areturn, 1) := by decide +kernel
abbrev mY8 : MethodName := (⟨"com/example/planwright/planwright/model/Expression$Operator", "type", "(Lcom/example/planwright/planwright/model/ValueType;Lcom/example/planwright/planwright/model/ValueType;)Ljava/util/Optional;"⟩ : MethodName)
theorem ef_3_rrr (m : MethodId) (x0 : Addr) (x1 : Addr) (x2 : Addr) : entryFrame m #[(.ref x0), (.ref x1), (.ref x2)] 5 = mkF m 0 #[.val (.ref x0), .val (.ref x1), .val (.ref x2), .unset, .unset] [] := by first | (simp [entryFrame, mkF, argsToLocals, Value.category]; done) | rfl
theorem pn_4 : plainName "com/example/planwright/planwright/model/Expression$Operator" = true := by first | (simp [plainName, overriddenIn]; done) | decide +kernel
def Q_ty_000 (Z : State)  (w : Nat → Addr) (h0 : Heap) (n0 : Nat) (v : Option Value) (h : Heap) (L : List Loc) : Prop := ∃ r : Addr, v = some (.ref r) ∧ Fr n0 L ∧ Keep h0 h [] ∧ h0.size ≤ r ∧ Exa Z h r "java/util/Optional" ∧ Fld Z h r "java/util/Optional" "value" "Ljava/lang/Object;" (.ref (w 1))
set_option maxRecDepth 65536 in
set_option maxHeartbeats 40000000 in
theorem rm_ty_000 (l : Launch) (Z : State) (a0 : Array Value) (hw : ∀ d ∈ tables_1, d.before a0 Z = true) (ws : List Jvm.Cond)  (w : Nat → Addr) (h0 : Heap) (n0 : Nat) (O0 : Old Z n0 h0) (W : own_World Z w) :
    MetFree l mY8 (head1 (Jvm.Cond.code mY8 prog_45_method_6_code 5 (some (.object "java/util/Optional")) :: ws) ({ frames := 3, cells := 1, slots := 1, locals := 38 } : Room)) (fun a U => a = #[(.ref (w 0)), (.ref (w 1)), (.ref (w 1))] ∧ Z.Warmed39 U.vm ∧ U.heap = h0) (fun _ _ _ _ _ => True) (fun _ U o U' => ∃ v L, o = .returned v ∧ Q_ty_000 Z  w h0 n0 v U'.heap L ∧ FrameEnd U o U' L ({ frames := 3, cells := 1, slots := 1, locals := 38 } : Room).cells ({ frames := 3, cells := 1, slots := 1, locals := 38 } : Room).slots) := by
  refine MetFree.of_bodySF (plainFor_of_name pn_4) hisR ?_
  intro p e s m args below meth c s₁ Bd hml0 hP hK
  obtain ⟨rfl, hZ, hh⟩ := hP
  have hx := Bd.exec
  have hby := Bd.bytes
  have hml : c.maxLocals = 5 := hml0
  have hown : s.vm.findClass "com/example/planwright/planwright/model/Expression$Operator" = some m.cls := findClass_of_methodNamed Bd.named
  have hnm := (name_of_methodNamed Bd.named Bd.method).1
  have X0 : Stand p l e ({ frames := 3, cells := 1, slots := 1, locals := 38 } : Room) s m #[(.ref (w 0)), (.ref (w 1)), (.ref (w 1))] below meth c s₁ [] 0 0 := Stand.of_body Bd
  have e0 : s₁.heap = h0 := by rw [← hh, Bd.state]; rfl
  have N0 := Fr.nil n0
  show oG p e below s (Q_ty_000 Z  w h0 n0) ({ frames := 3, cells := 1, slots := 1, locals := 38 } : Room).cells ({ frames := 3, cells := 1, slots := 1, locals := 38 } : Room).slots _
  refine oS (fun t k => castTop (ef_3_rrr m (w 0) (w 1) (w 1)) k) ?_
  show oG _ _ _ _ _ _ _ (s₁.setTop (mkF m 0 #[.val (.ref (w 0)), .val (.ref (w 1)), .val (.ref (w 1)), .unset, .unset] []))
  obtain ⟨T1, X1, e1, st1⟩ := getS2 X0 hx hZ hown (host := "") (Or.inl (oW hw 22 rfl)) Via.refl e0 ((wS1 W).ext O0.2) (g := (mkF m 0 #[.val (.ref (w 0)), .val (.ref (w 1)), .val (.ref (w 1)), .unset, .unset] [])) rfl (hb hby d3_0)
  refine oS (fun t k => st1 t k) ?_
  try clear st1
  refine oS (fun t k => XS.astoreN X1.here hx rfl (hb hby d3_3) rfl rfl (l' := #[.val (.ref (w 0)), .val (.ref (w 1)), .val (.ref (w 1)), .val (.ref (w 1)), .unset]) rfl k) ?_
  obtain ⟨T2, X2, e2, st2⟩ := getS2 X1 hx hZ hown (host := "") (Or.inl (oW hw 23 rfl)) Via.refl e1 ((wS3 W).ext O0.2) (g := (mkF m 4 #[.val (.ref (w 0)), .val (.ref (w 1)), .val (.ref (w 1)), .val (.ref (w 1)), .unset] [])) rfl (hb hby d3_4)
  refine oS (fun t k => st2 t k) ?_
  try clear st2 X1 e1
  try clear T1
  refine oS (fun t k => XS.astore X2.here hx rfl (hb hby d3_7) rfl rfl (l' := #[.val (.ref (w 0)), .val (.ref (w 1)), .val (.ref (w 1)), .val (.ref (w 1)), .val (.ref (w 3))]) rfl k) ?_
  refine oS (fun t k => XS.aloadN X2.here hx rfl (hb hby d3_9) rfl rfl k) ?_
  show oG _ _ _ _ _ _ _ (T2.setTop (mkF m 10 #[.val (.ref (w 0)), .val (.ref (w 1)), .val (.ref (w 1)), .val (.ref (w 1)), .val (.ref (w 3))] [(.ref (w 1))]))
  refine oS (fun t k => XS.aloadN X2.here hx rfl (hb hby d3_10) rfl rfl k) ?_
  refine oS (fun t k => Jvm.RoadKit.acmp (g := (mkF m 11 #[.val (.ref (w 0)), .val (.ref (w 1)), .val (.ref (w 1)), .val (.ref (w 1)), .val (.ref (w 3))] [(.ref (w 1)), (.ref (w 1))])) X2 hx rfl rfl rfl (pc0 := 11) (pc' := 14) (same := true) rfl (hb hby d3_11) rfl (decide_eq_true rfl) (by decide) (by decide) k) ?_
  refine oS (fun t k => XS.aloadN X2.here hx rfl (hb hby d3_14) rfl rfl k) ?_
  refine oS (fun t k => XS.aloadN X2.here hx rfl (hb hby d3_15) rfl rfl k) ?_
  refine oS (fun t k => Jvm.RoadKit.acmp (g := (mkF m 16 #[.val (.ref (w 0)), .val (.ref (w 1)), .val (.ref (w 1)), .val (.ref (w 1)), .val (.ref (w 3))] [(.ref (w 1)), (.ref (w 1))])) X2 hx rfl rfl rfl (pc0 := 16) (pc' := 19) (same := true) rfl (hb hby d3_16) rfl (decide_eq_true rfl) (by decide) (by decide) k) ?_
  show oG _ _ _ _ _ _ _ (T2.setTop (mkF m 19 #[.val (.ref (w 0)), .val (.ref (w 1)), .val (.ref (w 1)), .val (.ref (w 1)), .val (.ref (w 3))] []))
  refine oS (fun t k => XS.aloadN X2.here hx rfl (hb hby d3_19) rfl rfl k) ?_
  obtain ⟨_, _, ⟨T3, L3, k3, n3⟩, -, X3, ⟨Lc3, hQ3, l3, y3, z3⟩, st3⟩ := Jvm.LawKit.callS X2 hx (y := mY5) hown (mvT hZ (oW hw 48 rfl)) (mvT hZ (oW hw 49 rfl)) (mvT hZ (oW hw 36 rfl)) (mvT hZ (oW hw 50 rfl)) (by decide) (backOf (W := 0) (rm_of l Z a0 hw [] (w 1) w h0 n0 O0 W ) hZ (oW hw 50 rfl) (oW hw 36 rfl) (by decide) (by decide)) (g := (mkF m 20 #[.val (.ref (w 0)), .val (.ref (w 1)), .val (.ref (w 1)), .val (.ref (w 1)), .val (.ref (w 3))] [(.ref (w 1))])) rfl (by rw [hml]; rfl) (argsL := [(.ref (w 1))]) (rest := []) (lenOf pd_2 rfl) rfl (by show 2 * 0 + _ ≤ _; exact Nat.le_of_eq rfl) (hb hby d3_20) (fun _ _ => ⟨rfl, e2, (by decide : 0 + 1 ≤ _), (by decide : 0 + 1 ≤ _)⟩)
  dsimp only [Pt.U, Pt.locs, Pt.cells, Pt.slots] at X3 l3 y3 z3 st3 hQ3
  rw [l3, y3, z3] at X3
  clear l3 y3 z3
  obtain ⟨r3, rfl, Nq3, K3, sr3, P3_0, P3_1⟩ := hQ3
  have N3 := Fr.app N0 Nq3
  have O3 := O0.keep K3 (fun x q => absurd q List.not_mem_nil)
  have Kp3 : Keep h0 T3.heap [] := (Keep.refl h0 []).trans K3 (fun x q => absurd q List.not_mem_nil)
  have gr3 : n0 ≤ r3 := Nat.le_trans (O0.1 ▸ O0.2.1) sr3
  have szr3 : h0.size ≤ r3 := Nat.le_trans (Nat.le_refl _) sr3
  refine oS (fun t k => st3 t k) ?_
  show oG _ _ _ _ _ _ _ (T3.setTop (mkF m 23 #[.val (.ref (w 0)), .val (.ref (w 1)), .val (.ref (w 1)), .val (.ref (w 1)), .val (.ref (w 3))] [(.ref r3)]))
  try clear st3 X2 e2
  try clear T2
  exact own_ret (v := some (.ref r3)) X3 (fun h => by rw [Bd.returns] at h; cases h) Bd.notSynchronized (fun fs hr => retOut X3 hx (t := (.object "java/util/Optional")) Bd.returns rfl (Or.inr (Or.inr (Or.inr (Or.inr ⟨rfl, rfl, rfl⟩)))) (hb hby d3_23) hr) (by exact ⟨r3, rfl, N3, Kp3, szr3, P3_0, P3_1⟩) (by decide) (by decide)
theorem d3_24 : decode prog_45_method_6_code 24 = .ok (.aload_n 0, 1) := by decide +kernel
theorem d3_25 : decode prog_45_method_6_code 25 = .ok (.invokevirtual 66, 3) := by decide +kernel
theorem pd_3 : parseMethodDescriptor "()I" = some ⟨[], some .int⟩ := by decide +kernel
abbrev mY9 : MethodName := (⟨"com/example/planwright/planwright/model/Expression$Operator", "ordinal", "()I"⟩ : MethodName)
theorem d3_28 : decode prog_45_method_6_code 28 = .ok (.tableswitch 32 0 3 #[42, 73, 109, 109], 32) := by decide +kernel
theorem d3_70 : decode prog_45_method_6_code 70 = .ok (.aload_n 1, 1) := by decide +kernel
theorem d3_71 : decode prog_45_method_6_code 71 = .ok (.aload 4, 2) := by decide +kernel
theorem d3_73 : decode prog_45_method_6_code 73 = .ok (.if_acmp .ne 8, 3) := by decide +kernel
theorem d3_81 : decode prog_45_method_6_code 81 = .ok (.aload_n 1, 1) := by decide +kernel
theorem d3_82 : decode prog_45_method_6_code 82 = .ok (.aload_n 3, 1) := by decide +kernel
theorem d3_83 : decode prog_45_method_6_code 83 = .ok (.if_acmp .ne 14, 3) := by decide +kernel
theorem d3_86 : decode prog_45_method_6_code 86 = .ok (.aload_n 2, 1) := by decide +kernel
theorem d3_87 : decode prog_45_method_6_code 87 = .ok (.aload 4, 2) := by decide +kernel
theorem d3_89 : decode prog_45_method_6_code 89 = .ok (.if_acmp .ne 8, 3) := by decide +kernel
theorem d3_92 : decode prog_45_method_6_code 92 = .ok (.aload 4, 2) := by decide +kernel
theorem d3_94 : decode prog_45_method_6_code 94 = .ok (.goto 44, 3) := by decide +kernel
theorem d3_138 : decode prog_45_method_6_code 138 = .ok (.invokestatic 75, 3) := by decide +kernel
theorem d3_141 : decode prog_45_method_6_code 141 = .ok (.areturn, 1) := by decide +kernel
def Q_ty_001 (Z : State)  (w : Nat → Addr) (h0 : Heap) (n0 : Nat) (v : Option Value) (h : Heap) (L : List Loc) : Prop := ∃ r : Addr, v = some (.ref r) ∧ Fr n0 L ∧ Keep h0 h [] ∧ h0.size ≤ r ∧ Exa Z h r "java/util/Optional" ∧ Fld Z h r "java/util/Optional" "value" "Ljava/lang/Object;" (.ref (w 3))
set_option maxRecDepth 65536 in
set_option maxHeartbeats 40000000 in
theorem rm_ty_001 (l : Launch) (Z : State) (a0 : Array Value) (hw : ∀ d ∈ tables_1, d.before a0 Z = true) (ws : List Jvm.Cond)  (w : Nat → Addr) (h0 : Heap) (n0 : Nat) (O0 : Old Z n0 h0) (W : own_World Z w) :
    MetFree l mY8 (head1 (Jvm.Cond.code mY8 prog_45_method_6_code 5 (some (.object "java/util/Optional")) :: ws) ({ frames := 3, cells := 1, slots := 1, locals := 38 } : Room)) (fun a U => a = #[(.ref (w 0)), (.ref (w 1)), (.ref (w 3))] ∧ Z.Warmed39 U.vm ∧ U.heap = h0) (fun _ _ _ _ _ => True) (fun _ U o U' => ∃ v L, o = .returned v ∧ Q_ty_001 Z  w h0 n0 v U'.heap L ∧ FrameEnd U o U' L ({ frames := 3, cells := 1, slots := 1, locals := 38 } : Room).cells ({ frames := 3, cells := 1, slots := 1, locals := 38 } : Room).slots) := by
  refine MetFree.of_bodySF (plainFor_of_name pn_4) hisR ?_
  intro p e s m args below meth c s₁ Bd hml0 hP hK
  obtain ⟨rfl, hZ, hh⟩ := hP
  have hx := Bd.exec
  have hby := Bd.bytes
  have hml : c.maxLocals = 5 := hml0
  have hown : s.vm.findClass "com/example/planwright/planwright/model/Expression$Operator" = some m.cls := findClass_of_methodNamed Bd.named
  have hnm := (name_of_methodNamed Bd.named Bd.method).1
  have X0 : Stand p l e ({ frames := 3, cells := 1, slots := 1, locals := 38 } : Room) s m #[(.ref (w 0)), (.ref (w 1)), (.ref (w 3))] below meth c s₁ [] 0 0 := Stand.of_body Bd
  have e0 : s₁.heap = h0 := by rw [← hh, Bd.state]; rfl
  have N0 := Fr.nil n0
  show oG p e below s (Q_ty_001 Z  w h0 n0) ({ frames := 3, cells := 1, slots := 1, locals := 38 } : Room).cells ({ frames := 3, cells := 1, slots := 1, locals := 38 } : Room).slots _
  refine oS (fun t k => castTop (ef_3_rrr m (w 0) (w 1) (w 3)) k) ?_
  show oG _ _ _ _ _ _ _ (s₁.setTop (mkF m 0 #[.val (.ref (w 0)), .val (.ref (w 1)), .val (.ref (w 3)), .unset, .unset] []))
  obtain ⟨T1, X1, e1, st1⟩ := getS2 X0 hx hZ hown (host := "") (Or.inl (oW hw 22 rfl)) Via.refl e0 ((wS1 W).ext O0.2) (g := (mkF m 0 #[.val (.ref (w 0)), .val (.ref (w 1)), .val (.ref (w 3)), .unset, .unset] [])) rfl (hb hby d3_0)
  refine oS (fun t k => st1 t k) ?_
  try clear st1
  refine oS (fun t k => XS.astoreN X1.here hx rfl (hb hby d3_3) rfl rfl (l' := #[.val (.ref (w 0)), .val (.ref (w 1)), .val (.ref (w 3)), .val (.ref (w 1)), .unset]) rfl k) ?_
  obtain ⟨T2, X2, e2, st2⟩ := getS2 X1 hx hZ hown (host := "") (Or.inl (oW hw 23 rfl)) Via.refl e1 ((wS3 W).ext O0.2) (g := (mkF m 4 #[.val (.ref (w 0)), .val (.ref (w 1)), .val (.ref (w 3)), .val (.ref (w 1)), .unset] [])) rfl (hb hby d3_4)
  refine oS (fun t k => st2 t k) ?_
  try clear st2 X1 e1
  try clear T1
  refine oS (fun t k => XS.astore X2.here hx rfl (hb hby d3_7) rfl rfl (l' := #[.val (.ref (w 0)), .val (.ref (w 1)), .val (.ref (w 3)), .val (.ref (w 1)), .val (.ref (w 3))]) rfl k) ?_
  refine oS (fun t k => XS.aloadN X2.here hx rfl (hb hby d3_9) rfl rfl k) ?_
  show oG _ _ _ _ _ _ _ (T2.setTop (mkF m 10 #[.val (.ref (w 0)), .val (.ref (w 1)), .val (.ref (w 3)), .val (.ref (w 1)), .val (.ref (w 3))] [(.ref (w 1))]))
  refine oS (fun t k => XS.aloadN X2.here hx rfl (hb hby d3_10) rfl rfl k) ?_
  refine oS (fun t k => Jvm.RoadKit.acmp (g := (mkF m 11 #[.val (.ref (w 0)), .val (.ref (w 1)), .val (.ref (w 3)), .val (.ref (w 1)), .val (.ref (w 3))] [(.ref (w 1)), (.ref (w 1))])) X2 hx rfl rfl rfl (pc0 := 11) (pc' := 14) (same := true) rfl (hb hby d3_11) rfl (decide_eq_true rfl) (by decide) (by decide) k) ?_
  refine oS (fun t k => XS.aloadN X2.here hx rfl (hb hby d3_14) rfl rfl k) ?_
  refine oS (fun t k => XS.aloadN X2.here hx rfl (hb hby d3_15) rfl rfl k) ?_
  refine oS (fun t k => Jvm.RoadKit.acmp (g := (mkF m 16 #[.val (.ref (w 0)), .val (.ref (w 1)), .val (.ref (w 3)), .val (.ref (w 1)), .val (.ref (w 3))] [(.ref (w 1)), (.ref (w 3))])) X2 hx rfl rfl rfl (pc0 := 16) (pc' := 24) (same := false) rfl (hb hby d3_16) rfl (decide_eq_false fun q => (own_neI (wF3_ordinal W) (wF1_ordinal W) (by decide)) (Value.ref.inj q)) (by decide) (by decide) k) ?_
  show oG _ _ _ _ _ _ _ (T2.setTop (mkF m 24 #[.val (.ref (w 0)), .val (.ref (w 1)), .val (.ref (w 3)), .val (.ref (w 1)), .val (.ref (w 3))] []))
  refine oS (fun t k => XS.aloadN X2.here hx rfl (hb hby d3_24) rfl rfl k) ?_
  obtain ⟨cq3, kq3, q3a, q3b, q3c⟩ := isOf hZ e2 ((wE0 W).ext O0.2)
  obtain ⟨_, _, ⟨T3, L3, k3, n3⟩, -, X3, ⟨Lc3, hQ3, l3, y3, z3⟩, st3⟩ := X2.virtualBackUp hx (x := mY9) (y := mY1) hown (mvT hZ (oW hw 25 rfl)) (mvT hZ (oW hw 26 rfl)) (mvT hZ (oW hw 27 rfl)) (by decide) (mvT hZ (oW hw 29 rfl)) (mvT hZ (oW hw 28 rfl)) (backOf (W := 0) (rm_ord_0 l Z a0 hw []  w h0 n0 O0 W ) hZ (oW hw 31 rfl) (oW hw 30 rfl) (by decide) (by decide)) q3a q3c (g := (mkF m 25 #[.val (.ref (w 0)), .val (.ref (w 1)), .val (.ref (w 3)), .val (.ref (w 1)), .val (.ref (w 3))] [(.ref (w 0))])) rfl (by rw [hml]; rfl) (Steps.refl _) (argsL := []) (rest := []) (lenOf pd_3 rfl) rfl (by show 2 * 0 + _ ≤ _; exact Nat.le_of_eq rfl) (hb hby d3_25) (fun _ _ => ⟨rfl, e2, (by decide : 0 + 0 ≤ _), (by decide : 0 + 0 ≤ _)⟩)
  dsimp only [Pt.U, Pt.locs, Pt.cells, Pt.slots] at X3 l3 y3 z3 st3 hQ3
  rw [l3, y3, z3] at X3
  clear l3 y3 z3
  obtain ⟨rfl, Nq3, e3⟩ := hQ3
  have N3 := Fr.app N0 Nq3
  refine oS (fun t k => st3.trans k) ?_
  show oG _ _ _ _ _ _ _ (T3.setTop (mkF m 28 #[.val (.ref (w 0)), .val (.ref (w 1)), .val (.ref (w 3)), .val (.ref (w 1)), .val (.ref (w 3))] [(.int 0)]))
  try clear st3 X2 e2
  try clear T2
  refine oS (fun t k => XS.tswIn X3.here hx rfl (pc0 := 28) (pc' := 70) rfl (hb hby d3_28) (i := (0 : Int32)) rfl (by decide) (o := 42) rfl (by decide) (by decide) k) ?_
  refine oS (fun t k => XS.aloadN X3.here hx rfl (hb hby d3_70) rfl rfl k) ?_
  refine oS (fun t k => XS.aload X3.here hx rfl (hb hby d3_71) rfl rfl k) ?_
  refine oS (fun t k => Jvm.RoadKit.acmp (g := (mkF m 73 #[.val (.ref (w 0)), .val (.ref (w 1)), .val (.ref (w 3)), .val (.ref (w 1)), .val (.ref (w 3))] [(.ref (w 3)), (.ref (w 1))])) X3 hx rfl rfl rfl (pc0 := 73) (pc' := 81) (same := false) rfl (hb hby d3_73) rfl (decide_eq_false fun q => (own_neI (wF1_ordinal W) (wF3_ordinal W) (by decide)) (Value.ref.inj q)) (by decide) (by decide) k) ?_
  refine oS (fun t k => XS.aloadN X3.here hx rfl (hb hby d3_81) rfl rfl k) ?_
  show oG _ _ _ _ _ _ _ (T3.setTop (mkF m 82 #[.val (.ref (w 0)), .val (.ref (w 1)), .val (.ref (w 3)), .val (.ref (w 1)), .val (.ref (w 3))] [(.ref (w 1))]))
  refine oS (fun t k => XS.aloadN X3.here hx rfl (hb hby d3_82) rfl rfl k) ?_
  refine oS (fun t k => Jvm.RoadKit.acmp (g := (mkF m 83 #[.val (.ref (w 0)), .val (.ref (w 1)), .val (.ref (w 3)), .val (.ref (w 1)), .val (.ref (w 3))] [(.ref (w 1)), (.ref (w 1))])) X3 hx rfl rfl rfl (pc0 := 83) (pc' := 86) (same := true) rfl (hb hby d3_83) rfl (decide_eq_true rfl) (by decide) (by decide) k) ?_
  refine oS (fun t k => XS.aloadN X3.here hx rfl (hb hby d3_86) rfl rfl k) ?_
  refine oS (fun t k => XS.aload X3.here hx rfl (hb hby d3_87) rfl rfl k) ?_
  refine oS (fun t k => Jvm.RoadKit.acmp (g := (mkF m 89 #[.val (.ref (w 0)), .val (.ref (w 1)), .val (.ref (w 3)), .val (.ref (w 1)), .val (.ref (w 3))] [(.ref (w 3)), (.ref (w 3))])) X3 hx rfl rfl rfl (pc0 := 89) (pc' := 92) (same := true) rfl (hb hby d3_89) rfl (decide_eq_true rfl) (by decide) (by decide) k) ?_
  show oG _ _ _ _ _ _ _ (T3.setTop (mkF m 92 #[.val (.ref (w 0)), .val (.ref (w 1)), .val (.ref (w 3)), .val (.ref (w 1)), .val (.ref (w 3))] []))
  refine oS (fun t k => XS.aload X3.here hx rfl (hb hby d3_92) rfl rfl k) ?_
  refine oS (fun t k => XS.goto X3.here hx rfl (pc0 := 94) (pc' := 138) rfl (hb hby d3_94) (by decide) (by decide) k) ?_
  obtain ⟨_, _, ⟨T4, L4, k4, n4⟩, -, X4, ⟨Lc4, hQ4, l4, y4, z4⟩, st4⟩ := Jvm.LawKit.callS X3 hx (y := mY6) hown (mvT hZ (oW hw 34 rfl)) (mvT hZ (oW hw 35 rfl)) (mvT hZ (oW hw 36 rfl)) (mvT hZ (oW hw 37 rfl)) (by decide) (backOf (W := 0) (rm_ofN l Z a0 hw [] (w 3) w h0 n0 O0 W ) hZ (oW hw 37 rfl) (oW hw 36 rfl) (by decide) (by decide)) (g := (mkF m 138 #[.val (.ref (w 0)), .val (.ref (w 1)), .val (.ref (w 3)), .val (.ref (w 1)), .val (.ref (w 3))] [(.ref (w 3))])) rfl (by rw [hml]; rfl) (argsL := [(.ref (w 3))]) (rest := []) (lenOf pd_2 rfl) rfl (by show 2 * 0 + _ ≤ _; exact Nat.le_of_eq rfl) (hb hby d3_138) (fun _ _ => ⟨rfl, e3, (by decide : 0 + 1 ≤ _), (by decide : 0 + 1 ≤ _)⟩)
  dsimp only [Pt.U, Pt.locs, Pt.cells, Pt.slots] at X4 l4 y4 z4 st4 hQ4
  rw [l4, y4, z4] at X4
  clear l4 y4 z4
  obtain ⟨r4, rfl, Nq4, K4, sr4, P4_0, P4_1⟩ := hQ4
  have N4 := Fr.app N3 Nq4
  have O4 := O0.keep K4 (fun x q => absurd q List.not_mem_nil)
  have Kp4 : Keep h0 T4.heap [] := (Keep.refl h0 []).trans K4 (fun x q => absurd q List.not_mem_nil)
  have gr4 : n0 ≤ r4 := Nat.le_trans (O0.1 ▸ O0.2.1) sr4
  have szr4 : h0.size ≤ r4 := Nat.le_trans (Nat.le_refl _) sr4
  refine oS (fun t k => st4 t k) ?_
  show oG _ _ _ _ _ _ _ (T4.setTop (mkF m 141 #[.val (.ref (w 0)), .val (.ref (w 1)), .val (.ref (w 3)), .val (.ref (w 1)), .val (.ref (w 3))] [(.ref r4)]))
  try clear st4 X3 e3
  exact own_ret (v := some (.ref r4)) X4 (fun h => by rw [Bd.returns] at h; cases h) Bd.notSynchronized (fun fs hr => retOut X4 hx (t := (.object "java/util/Optional")) Bd.returns rfl (Or.inr (Or.inr (Or.inr (Or.inr ⟨rfl, rfl, rfl⟩)))) (hb hby d3_141) hr) (by exact ⟨r4, rfl, N4, Kp4, szr4, P4_0, P4_1⟩) (by decide) (by decide)
theorem d3_97 : decode prog_45_method_6_code 97 = .ok (.aconst_null, 1) := by decide +kernel
theorem d3_98 : decode prog_45_method_6_code 98 = .ok (.goto 40, 3) := by decide +kernel
def Q_ty_002 (Z : State)  (w : Nat → Addr) (h0 : Heap) (n0 : Nat) (v : Option Value) (h : Heap) (L : List Loc) : Prop := v = some (.ref (w 7)) ∧ Fr n0 L ∧ h = h0
set_option maxRecDepth 65536 in
set_option maxHeartbeats 40000000 in
theorem rm_ty_002 (l : Launch) (Z : State) (a0 : Array Value) (hw : ∀ d ∈ tables_1, d.before a0 Z = true) (ws : List Jvm.Cond)  (w : Nat → Addr) (h0 : Heap) (n0 : Nat) (O0 : Old Z n0 h0) (W : own_World Z w) :
    MetFree l mY8 (head1 (Jvm.Cond.code mY8 prog_45_method_6_code 5 (some (.object "java/util/Optional")) :: ws) ({ frames := 1, cells := 0, slots := 0, locals := 12 } : Room)) (fun a U => a = #[(.ref (w 0)), (.ref (w 1)), (.ref (w 2))] ∧ Z.Warmed39 U.vm ∧ U.heap = h0) (fun _ _ _ _ _ => True) (fun _ U o U' => ∃ v L, o = .returned v ∧ Q_ty_002 Z  w h0 n0 v U'.heap L ∧ FrameEnd U o U' L ({ frames := 1, cells := 0, slots := 0, locals := 12 } : Room).cells ({ frames := 1, cells := 0, slots := 0, locals := 12 } : Room).slots) := by
  refine MetFree.of_bodySF (plainFor_of_name pn_4) hisR ?_
  intro p e s m args below meth c s₁ Bd hml0 hP hK
  obtain ⟨rfl, hZ, hh⟩ := hP
  have hx := Bd.exec
  have hby := Bd.bytes
  have hml : c.maxLocals = 5 := hml0
  have hown : s.vm.findClass "com/example/planwright/planwright/model/Expression$Operator" = some m.cls := findClass_of_methodNamed Bd.named
  have hnm := (name_of_methodNamed Bd.named Bd.method).1
  have X0 : Stand p l e ({ frames := 1, cells := 0, slots := 0, locals := 12 } : Room) s m #[(.ref (w 0)), (.ref (w 1)), (.ref (w 2))] below meth c s₁ [] 0 0 := Stand.of_body Bd
  have e0 : s₁.heap = h0 := by rw [← hh, Bd.state]; rfl
  have N0 := Fr.nil n0
  show oG p e below s (Q_ty_002 Z  w h0 n0) ({ frames := 1, cells := 0, slots := 0, locals := 12 } : Room).cells ({ frames := 1, cells := 0, slots := 0, locals := 12 } : Room).slots _
  refine oS (fun t k => castTop (ef_3_rrr m (w 0) (w 1) (w 2)) k) ?_
  show oG _ _ _ _ _ _ _ (s₁.setTop (mkF m 0 #[.val (.ref (w 0)), .val (.ref (w 1)), .val (.ref (w 2)), .unset, .unset] []))
  obtain ⟨T1, X1, e1, st1⟩ := getS2 X0 hx hZ hown (host := "") (Or.inl (oW hw 22 rfl)) Via.refl e0 ((wS1 W).ext O0.2) (g := (mkF m 0 #[.val (.ref (w 0)), .val (.ref (w 1)), .val (.ref (w 2)), .unset, .unset] [])) rfl (hb hby d3_0)
  refine oS (fun t k => st1 t k) ?_
  try clear st1
  refine oS (fun t k => XS.astoreN X1.here hx rfl (hb hby d3_3) rfl rfl (l' := #[.val (.ref (w 0)), .val (.ref (w 1)), .val (.ref (w 2)), .val (.ref (w 1)), .unset]) rfl k) ?_
  obtain ⟨T2, X2, e2, st2⟩ := getS2 X1 hx hZ hown (host := "") (Or.inl (oW hw 23 rfl)) Via.refl e1 ((wS3 W).ext O0.2) (g := (mkF m 4 #[.val (.ref (w 0)), .val (.ref (w 1)), .val (.ref (w 2)), .val (.ref (w 1)), .unset] [])) rfl (hb hby d3_4)
  refine oS (fun t k => st2 t k) ?_
  try clear st2 X1 e1
  try clear T1
  refine oS (fun t k => XS.astore X2.here hx rfl (hb hby d3_7) rfl rfl (l' := #[.val (.ref (w 0)), .val (.ref (w 1)), .val (.ref (w 2)), .val (.ref (w 1)), .val (.ref (w 3))]) rfl k) ?_
  refine oS (fun t k => XS.aloadN X2.here hx rfl (hb hby d3_9) rfl rfl k) ?_
  show oG _ _ _ _ _ _ _ (T2.setTop (mkF m 10 #[.val (.ref (w 0)), .val (.ref (w 1)), .val (.ref (w 2)), .val (.ref (w 1)), .val (.ref (w 3))] [(.ref (w 1))]))
  refine oS (fun t k => XS.aloadN X2.here hx rfl (hb hby d3_10) rfl rfl k) ?_
  refine oS (fun t k => Jvm.RoadKit.acmp (g := (mkF m 11 #[.val (.ref (w 0)), .val (.ref (w 1)), .val (.ref (w 2)), .val (.ref (w 1)), .val (.ref (w 3))] [(.ref (w 1)), (.ref (w 1))])) X2 hx rfl rfl rfl (pc0 := 11) (pc' := 14) (same := true) rfl (hb hby d3_11) rfl (decide_eq_true rfl) (by decide) (by decide) k) ?_
  refine oS (fun t k => XS.aloadN X2.here hx rfl (hb hby d3_14) rfl rfl k) ?_
  refine oS (fun t k => XS.aloadN X2.here hx rfl (hb hby d3_15) rfl rfl k) ?_
  refine oS (fun t k => Jvm.RoadKit.acmp (g := (mkF m 16 #[.val (.ref (w 0)), .val (.ref (w 1)), .val (.ref (w 2)), .val (.ref (w 1)), .val (.ref (w 3))] [(.ref (w 1)), (.ref (w 2))])) X2 hx rfl rfl rfl (pc0 := 16) (pc' := 24) (same := false) rfl (hb hby d3_16) rfl (decide_eq_false fun q => (own_neI (wF2_ordinal W) (wF1_ordinal W) (by decide)) (Value.ref.inj q)) (by decide) (by decide) k) ?_
  show oG _ _ _ _ _ _ _ (T2.setTop (mkF m 24 #[.val (.ref (w 0)), .val (.ref (w 1)), .val (.ref (w 2)), .val (.ref (w 1)), .val (.ref (w 3))] []))
  refine oS (fun t k => XS.aloadN X2.here hx rfl (hb hby d3_24) rfl rfl k) ?_
  obtain ⟨cq3, kq3, q3a, q3b, q3c⟩ := isOf hZ e2 ((wE0 W).ext O0.2)
  obtain ⟨_, _, ⟨T3, L3, k3, n3⟩, -, X3, ⟨Lc3, hQ3, l3, y3, z3⟩, st3⟩ := X2.virtualBackUp hx (x := mY9) (y := mY1) hown (mvT hZ (oW hw 25 rfl)) (mvT hZ (oW hw 26 rfl)) (mvT hZ (oW hw 27 rfl)) (by decide) (mvT hZ (oW hw 29 rfl)) (mvT hZ (oW hw 28 rfl)) (backOf (W := 0) (rm_ord_0 l Z a0 hw []  w h0 n0 O0 W ) hZ (oW hw 31 rfl) (oW hw 30 rfl) (by decide) (by decide)) q3a q3c (g := (mkF m 25 #[.val (.ref (w 0)), .val (.ref (w 1)), .val (.ref (w 2)), .val (.ref (w 1)), .val (.ref (w 3))] [(.ref (w 0))])) rfl (by rw [hml]; rfl) (Steps.refl _) (argsL := []) (rest := []) (lenOf pd_3 rfl) rfl (by show 2 * 0 + _ ≤ _; exact Nat.le_of_eq rfl) (hb hby d3_25) (fun _ _ => ⟨rfl, e2, (by decide : 0 + 0 ≤ _), (by decide : 0 + 0 ≤ _)⟩)
  dsimp only [Pt.U, Pt.locs, Pt.cells, Pt.slots] at X3 l3 y3 z3 st3 hQ3
  rw [l3, y3, z3] at X3
  clear l3 y3 z3
  obtain ⟨rfl, Nq3, e3⟩ := hQ3
  have N3 := Fr.app N0 Nq3
  refine oS (fun t k => st3.trans k) ?_
  show oG _ _ _ _ _ _ _ (T3.setTop (mkF m 28 #[.val (.ref (w 0)), .val (.ref (w 1)), .val (.ref (w 2)), .val (.ref (w 1)), .val (.ref (w 3))] [(.int 0)]))
  try clear st3 X2 e2
  try clear T2
  refine oS (fun t k => XS.tswIn X3.here hx rfl (pc0 := 28) (pc' := 70) rfl (hb hby d3_28) (i := (0 : Int32)) rfl (by decide) (o := 42) rfl (by decide) (by decide) k) ?_
  refine oS (fun t k => XS.aloadN X3.here hx rfl (hb hby d3_70) rfl rfl k) ?_
  refine oS (fun t k => XS.aload X3.here hx rfl (hb hby d3_71) rfl rfl k) ?_
  refine oS (fun t k => Jvm.RoadKit.acmp (g := (mkF m 73 #[.val (.ref (w 0)), .val (.ref (w 1)), .val (.ref (w 2)), .val (.ref (w 1)), .val (.ref (w 3))] [(.ref (w 3)), (.ref (w 1))])) X3 hx rfl rfl rfl (pc0 := 73) (pc' := 81) (same := false) rfl (hb hby d3_73) rfl (decide_eq_false fun q => (own_neI (wF1_ordinal W) (wF3_ordinal W) (by decide)) (Value.ref.inj q)) (by decide) (by decide) k) ?_
  refine oS (fun t k => XS.aloadN X3.here hx rfl (hb hby d3_81) rfl rfl k) ?_
  show oG _ _ _ _ _ _ _ (T3.setTop (mkF m 82 #[.val (.ref (w 0)), .val (.ref (w 1)), .val (.ref (w 2)), .val (.ref (w 1)), .val (.ref (w 3))] [(.ref (w 1))]))
  refine oS (fun t k => XS.aloadN X3.here hx rfl (hb hby d3_82) rfl rfl k) ?_
  refine oS (fun t k => Jvm.RoadKit.acmp (g := (mkF m 83 #[.val (.ref (w 0)), .val (.ref (w 1)), .val (.ref (w 2)), .val (.ref (w 1)), .val (.ref (w 3))] [(.ref (w 1)), (.ref (w 1))])) X3 hx rfl rfl rfl (pc0 := 83) (pc' := 86) (same := true) rfl (hb hby d3_83) rfl (decide_eq_true rfl) (by decide) (by decide) k) ?_
  refine oS (fun t k => XS.aloadN X3.here hx rfl (hb hby d3_86) rfl rfl k) ?_
  refine oS (fun t k => XS.aload X3.here hx rfl (hb hby d3_87) rfl rfl k) ?_
  refine oS (fun t k => Jvm.RoadKit.acmp (g := (mkF m 89 #[.val (.ref (w 0)), .val (.ref (w 1)), .val (.ref (w 2)), .val (.ref (w 1)), .val (.ref (w 3))] [(.ref (w 3)), (.ref (w 2))])) X3 hx rfl rfl rfl (pc0 := 89) (pc' := 97) (same := false) rfl (hb hby d3_89) rfl (decide_eq_false fun q => (own_neI (wF2_ordinal W) (wF3_ordinal W) (by decide)) (Value.ref.inj q)) (by decide) (by decide) k) ?_
  show oG _ _ _ _ _ _ _ (T3.setTop (mkF m 97 #[.val (.ref (w 0)), .val (.ref (w 1)), .val (.ref (w 2)), .val (.ref (w 1)), .val (.ref (w 3))] []))
  refine oS (fun t k => XS.aconstNull X3.here hx rfl (hb hby d3_97) k) ?_
  refine oS (fun t k => XS.goto X3.here hx rfl (pc0 := 98) (pc' := 138) rfl (hb hby d3_98) (by decide) (by decide) k) ?_
  obtain ⟨_, _, ⟨T4, L4, k4, n4⟩, -, X4, ⟨Lc4, hQ4, l4, y4, z4⟩, st4⟩ := Jvm.LawKit.callS X3 hx (y := mY6) hown (mvT hZ (oW hw 34 rfl)) (mvT hZ (oW hw 35 rfl)) (mvT hZ (oW hw 36 rfl)) (mvT hZ (oW hw 37 rfl)) (by decide) (backOf (W := 0) (rm_ofN0 l Z a0 hw []  w h0 n0 O0 W ) hZ (oW hw 37 rfl) (oW hw 36 rfl) (by decide) (by decide)) (g := (mkF m 138 #[.val (.ref (w 0)), .val (.ref (w 1)), .val (.ref (w 2)), .val (.ref (w 1)), .val (.ref (w 3))] [.null])) rfl (by rw [hml]; rfl) (argsL := [.null]) (rest := []) (lenOf pd_2 rfl) rfl (by show 2 * 0 + _ ≤ _; exact Nat.le_of_eq rfl) (hb hby d3_138) (fun _ _ => ⟨rfl, e3, (by decide : 0 + 0 ≤ _), (by decide : 0 + 0 ≤ _)⟩)
  dsimp only [Pt.U, Pt.locs, Pt.cells, Pt.slots] at X4 l4 y4 z4 st4 hQ4
  rw [l4, y4, z4] at X4
  clear l4 y4 z4
  obtain ⟨rfl, Nq4, e4⟩ := hQ4
  have N4 := Fr.app N3 Nq4
  refine oS (fun t k => st4 t k) ?_
  show oG _ _ _ _ _ _ _ (T4.setTop (mkF m 141 #[.val (.ref (w 0)), .val (.ref (w 1)), .val (.ref (w 2)), .val (.ref (w 1)), .val (.ref (w 3))] [(.ref (w 7))]))
  try clear st4 X3 e3
  exact own_ret (v := some (.ref (w 7))) X4 (fun h => by rw [Bd.returns] at h; cases h) Bd.notSynchronized (fun fs hr => retOut X4 hx (t := (.object "java/util/Optional")) Bd.returns rfl (Or.inr (Or.inr (Or.inr (Or.inr ⟨rfl, rfl, rfl⟩)))) (hb hby d3_141) hr) (by rw [e4]; exact ⟨rfl, N4, rfl⟩) (by decide) (by decide)
theorem d3_76 : decode prog_45_method_6_code 76 = .ok (.aload_n 2, 1) := by decide +kernel
theorem d3_77 : decode prog_45_method_6_code 77 = .ok (.aload_n 3, 1) := by decide +kernel
theorem d3_78 : decode prog_45_method_6_code 78 = .ok (.if_acmp .eq 14, 3) := by decide +kernel
def Q_ty_010 (Z : State)  (w : Nat → Addr) (h0 : Heap) (n0 : Nat) (v : Option Value) (h : Heap) (L : List Loc) : Prop := ∃ r : Addr, v = some (.ref r) ∧ Fr n0 L ∧ Keep h0 h [] ∧ h0.size ≤ r ∧ Exa Z h r "java/util/Optional" ∧ Fld Z h r "java/util/Optional" "value" "Ljava/lang/Object;" (.ref (w 3))
set_option maxRecDepth 65536 in
set_option maxHeartbeats 40000000 in
theorem rm_ty_010 (l : Launch) (Z : State) (a0 : Array Value) (hw : ∀ d ∈ tables_1, d.before a0 Z = true) (ws : List Jvm.Cond)  (w : Nat → Addr) (h0 : Heap) (n0 : Nat) (O0 : Old Z n0 h0) (W : own_World Z w) :
    MetFree l mY8 (head1 (Jvm.Cond.code mY8 prog_45_method_6_code 5 (some (.object "java/util/Optional")) :: ws) ({ frames := 3, cells := 1, slots := 1, locals := 38 } : Room)) (fun a U => a = #[(.ref (w 0)), (.ref (w 3)), (.ref (w 1))] ∧ Z.Warmed39 U.vm ∧ U.heap = h0) (fun _ _ _ _ _ => True) (fun _ U o U' => ∃ v L, o = .returned v ∧ Q_ty_010 Z  w h0 n0 v U'.heap L ∧ FrameEnd U o U' L ({ frames := 3, cells := 1, slots := 1, locals := 38 } : Room).cells ({ frames := 3, cells := 1, slots := 1, locals := 38 } : Room).slots) := by
  refine MetFree.of_bodySF (plainFor_of_name pn_4) hisR ?_
  intro p e s m args below meth c s₁ Bd hml0 hP hK
  obtain ⟨rfl, hZ, hh⟩ := hP
  have hx := Bd.exec
  have hby := Bd.bytes
  have hml : c.maxLocals = 5 := hml0
  have hown : s.vm.findClass "com/example/planwright/planwright/model/Expression$Operator" = some m.cls := findClass_of_methodNamed Bd.named
  have hnm := (name_of_methodNamed Bd.named Bd.method).1
  have X0 : Stand p l e ({ frames := 3, cells := 1, slots := 1, locals := 38 } : Room) s m #[(.ref (w 0)), (.ref (w 3)), (.ref (w 1))] below meth c s₁ [] 0 0 := Stand.of_body Bd
  have e0 : s₁.heap = h0 := by rw [← hh, Bd.state]; rfl
  have N0 := Fr.nil n0
  show oG p e below s (Q_ty_010 Z  w h0 n0) ({ frames := 3, cells := 1, slots := 1, locals := 38 } : Room).cells ({ frames := 3, cells := 1, slots := 1, locals := 38 } : Room).slots _
  refine oS (fun t k => castTop (ef_3_rrr m (w 0) (w 3) (w 1)) k) ?_
  show oG _ _ _ _ _ _ _ (s₁.setTop (mkF m 0 #[.val (.ref (w 0)), .val (.ref (w 3)), .val (.ref (w 1)), .unset, .unset] []))
  obtain ⟨T1, X1, e1, st1⟩ := getS2 X0 hx hZ hown (host := "") (Or.inl (oW hw 22 rfl)) Via.refl e0 ((wS1 W).ext O0.2) (g := (mkF m 0 #[.val (.ref (w 0)), .val (.ref (w 3)), .val (.ref (w 1)), .unset, .unset] [])) rfl (hb hby d3_0)
  refine oS (fun t k => st1 t k) ?_
  try clear st1
  refine oS (fun t k => XS.astoreN X1.here hx rfl (hb hby d3_3) rfl rfl (l' := #[.val (.ref (w 0)), .val (.ref (w 3)), .val (.ref (w 1)), .val (.ref (w 1)), .unset]) rfl k) ?_
  obtain ⟨T2, X2, e2, st2⟩ := getS2 X1 hx hZ hown (host := "") (Or.inl (oW hw 23 rfl)) Via.refl e1 ((wS3 W).ext O0.2) (g := (mkF m 4 #[.val (.ref (w 0)), .val (.ref (w 3)), .val (.ref (w 1)), .val (.ref (w 1)), .unset] [])) rfl (hb hby d3_4)
  refine oS (fun t k => st2 t k) ?_
  try clear st2 X1 e1
  try clear T1
  refine oS (fun t k => XS.astore X2.here hx rfl (hb hby d3_7) rfl rfl (l' := #[.val (.ref (w 0)), .val (.ref (w 3)), .val (.ref (w 1)), .val (.ref (w 1)), .val (.ref (w 3))]) rfl k) ?_
  refine oS (fun t k => XS.aloadN X2.here hx rfl (hb hby d3_9) rfl rfl k) ?_
  show oG _ _ _ _ _ _ _ (T2.setTop (mkF m 10 #[.val (.ref (w 0)), .val (.ref (w 3)), .val (.ref (w 1)), .val (.ref (w 1)), .val (.ref (w 3))] [(.ref (w 3))]))
  refine oS (fun t k => XS.aloadN X2.here hx rfl (hb hby d3_10) rfl rfl k) ?_
  refine oS (fun t k => Jvm.RoadKit.acmp (g := (mkF m 11 #[.val (.ref (w 0)), .val (.ref (w 3)), .val (.ref (w 1)), .val (.ref (w 1)), .val (.ref (w 3))] [(.ref (w 1)), (.ref (w 3))])) X2 hx rfl rfl rfl (pc0 := 11) (pc' := 24) (same := false) rfl (hb hby d3_11) rfl (decide_eq_false fun q => (own_neI (wF3_ordinal W) (wF1_ordinal W) (by decide)) (Value.ref.inj q)) (by decide) (by decide) k) ?_
  refine oS (fun t k => XS.aloadN X2.here hx rfl (hb hby d3_24) rfl rfl k) ?_
  obtain ⟨cq3, kq3, q3a, q3b, q3c⟩ := isOf hZ e2 ((wE0 W).ext O0.2)
  obtain ⟨_, _, ⟨T3, L3, k3, n3⟩, -, X3, ⟨Lc3, hQ3, l3, y3, z3⟩, st3⟩ := X2.virtualBackUp hx (x := mY9) (y := mY1) hown (mvT hZ (oW hw 25 rfl)) (mvT hZ (oW hw 26 rfl)) (mvT hZ (oW hw 27 rfl)) (by decide) (mvT hZ (oW hw 29 rfl)) (mvT hZ (oW hw 28 rfl)) (backOf (W := 0) (rm_ord_0 l Z a0 hw []  w h0 n0 O0 W ) hZ (oW hw 31 rfl) (oW hw 30 rfl) (by decide) (by decide)) q3a q3c (g := (mkF m 25 #[.val (.ref (w 0)), .val (.ref (w 3)), .val (.ref (w 1)), .val (.ref (w 1)), .val (.ref (w 3))] [(.ref (w 0))])) rfl (by rw [hml]; rfl) (Steps.refl _) (argsL := []) (rest := []) (lenOf pd_3 rfl) rfl (by show 2 * 0 + _ ≤ _; exact Nat.le_of_eq rfl) (hb hby d3_25) (fun _ _ => ⟨rfl, e2, (by decide : 0 + 0 ≤ _), (by decide : 0 + 0 ≤ _)⟩)
  dsimp only [Pt.U, Pt.locs, Pt.cells, Pt.slots] at X3 l3 y3 z3 st3 hQ3
  rw [l3, y3, z3] at X3
  clear l3 y3 z3
  obtain ⟨rfl, Nq3, e3⟩ := hQ3
  have N3 := Fr.app N0 Nq3
  refine oS (fun t k => st3.trans k) ?_
  show oG _ _ _ _ _ _ _ (T3.setTop (mkF m 28 #[.val (.ref (w 0)), .val (.ref (w 3)), .val (.ref (w 1)), .val (.ref (w 1)), .val (.ref (w 3))] [(.int 0)]))
  try clear st3 X2 e2
  try clear T2
  refine oS (fun t k => XS.tswIn X3.here hx rfl (pc0 := 28) (pc' := 70) rfl (hb hby d3_28) (i := (0 : Int32)) rfl (by decide) (o := 42) rfl (by decide) (by decide) k) ?_
  refine oS (fun t k => XS.aloadN X3.here hx rfl (hb hby d3_70) rfl rfl k) ?_
  refine oS (fun t k => XS.aload X3.here hx rfl (hb hby d3_71) rfl rfl k) ?_
  refine oS (fun t k => Jvm.RoadKit.acmp (g := (mkF m 73 #[.val (.ref (w 0)), .val (.ref (w 3)), .val (.ref (w 1)), .val (.ref (w 1)), .val (.ref (w 3))] [(.ref (w 3)), (.ref (w 3))])) X3 hx rfl rfl rfl (pc0 := 73) (pc' := 76) (same := true) rfl (hb hby d3_73) rfl (decide_eq_true rfl) (by decide) (by decide) k) ?_
  refine oS (fun t k => XS.aloadN X3.here hx rfl (hb hby d3_76) rfl rfl k) ?_
  show oG _ _ _ _ _ _ _ (T3.setTop (mkF m 77 #[.val (.ref (w 0)), .val (.ref (w 3)), .val (.ref (w 1)), .val (.ref (w 1)), .val (.ref (w 3))] [(.ref (w 1))]))
  refine oS (fun t k => XS.aloadN X3.here hx rfl (hb hby d3_77) rfl rfl k) ?_
  refine oS (fun t k => Jvm.RoadKit.acmp (g := (mkF m 78 #[.val (.ref (w 0)), .val (.ref (w 3)), .val (.ref (w 1)), .val (.ref (w 1)), .val (.ref (w 3))] [(.ref (w 1)), (.ref (w 1))])) X3 hx rfl rfl rfl (pc0 := 78) (pc' := 92) (same := true) rfl (hb hby d3_78) rfl (decide_eq_true rfl) (by decide) (by decide) k) ?_
  refine oS (fun t k => XS.aload X3.here hx rfl (hb hby d3_92) rfl rfl k) ?_
  refine oS (fun t k => XS.goto X3.here hx rfl (pc0 := 94) (pc' := 138) rfl (hb hby d3_94) (by decide) (by decide) k) ?_
  obtain ⟨_, _, ⟨T4, L4, k4, n4⟩, -, X4, ⟨Lc4, hQ4, l4, y4, z4⟩, st4⟩ := Jvm.LawKit.callS X3 hx (y := mY6) hown (mvT hZ (oW hw 34 rfl)) (mvT hZ (oW hw 35 rfl)) (mvT hZ (oW hw 36 rfl)) (mvT hZ (oW hw 37 rfl)) (by decide) (backOf (W := 0) (rm_ofN l Z a0 hw [] (w 3) w h0 n0 O0 W ) hZ (oW hw 37 rfl) (oW hw 36 rfl) (by decide) (by decide)) (g := (mkF m 138 #[.val (.ref (w 0)), .val (.ref (w 3)), .val (.ref (w 1)), .val (.ref (w 1)), .val (.ref (w 3))] [(.ref (w 3))])) rfl (by rw [hml]; rfl) (argsL := [(.ref (w 3))]) (rest := []) (lenOf pd_2 rfl) rfl (by show 2 * 0 + _ ≤ _; exact Nat.le_of_eq rfl) (hb hby d3_138) (fun _ _ => ⟨rfl, e3, (by decide : 0 + 1 ≤ _), (by decide : 0 + 1 ≤ _)⟩)
  dsimp only [Pt.U, Pt.locs, Pt.cells, Pt.slots] at X4 l4 y4 z4 st4 hQ4
  rw [l4, y4, z4] at X4
  clear l4 y4 z4
  obtain ⟨r4, rfl, Nq4, K4, sr4, P4_0, P4_1⟩ := hQ4
  have N4 := Fr.app N3 Nq4
  have O4 := O0.keep K4 (fun x q => absurd q List.not_mem_nil)
  have Kp4 : Keep h0 T4.heap [] := (Keep.refl h0 []).trans K4 (fun x q => absurd q List.not_mem_nil)
  have gr4 : n0 ≤ r4 := Nat.le_trans (O0.1 ▸ O0.2.1) sr4
  have szr4 : h0.size ≤ r4 := Nat.le_trans (Nat.le_refl _) sr4
  refine oS (fun t k => st4 t k) ?_
  show oG _ _ _ _ _ _ _ (T4.setTop (mkF m 141 #[.val (.ref (w 0)), .val (.ref (w 3)), .val (.ref (w 1)), .val (.ref (w 1)), .val (.ref (w 3))] [(.ref r4)]))
  try clear st4 X3 e3
  exact own_ret (v := some (.ref r4)) X4 (fun h => by rw [Bd.returns] at h; cases h) Bd.notSynchronized (fun fs hr => retOut X4 hx (t := (.object "java/util/Optional")) Bd.returns rfl (Or.inr (Or.inr (Or.inr (Or.inr ⟨rfl, rfl, rfl⟩)))) (hb hby d3_141) hr) (by exact ⟨r4, rfl, N4, Kp4, szr4, P4_0, P4_1⟩) (by decide) (by decide)
def Q_ty_011 (Z : State)  (w : Nat → Addr) (h0 : Heap) (n0 : Nat) (v : Option Value) (h : Heap) (L : List Loc) : Prop := v = some (.ref (w 7)) ∧ Fr n0 L ∧ h = h0
set_option maxRecDepth 65536 in
set_option maxHeartbeats 40000000 in
theorem rm_ty_011 (l : Launch) (Z : State) (a0 : Array Value) (hw : ∀ d ∈ tables_1, d.before a0 Z = true) (ws : List Jvm.Cond)  (w : Nat → Addr) (h0 : Heap) (n0 : Nat) (O0 : Old Z n0 h0) (W : own_World Z w) :
    MetFree l mY8 (head1 (Jvm.Cond.code mY8 prog_45_method_6_code 5 (some (.object "java/util/Optional")) :: ws) ({ frames := 1, cells := 0, slots := 0, locals := 12 } : Room)) (fun a U => a = #[(.ref (w 0)), (.ref (w 3)), (.ref (w 3))] ∧ Z.Warmed39 U.vm ∧ U.heap = h0) (fun _ _ _ _ _ => True) (fun _ U o U' => ∃ v L, o = .returned v ∧ Q_ty_011 Z  w h0 n0 v U'.heap L ∧ FrameEnd U o U' L ({ frames := 1, cells := 0, slots := 0, locals := 12 } : Room).cells ({ frames := 1, cells := 0, slots := 0, locals := 12 } : Room).slots) := by
  refine MetFree.of_bodySF (plainFor_of_name pn_4) hisR ?_
  intro p e s m args below meth c s₁ Bd hml0 hP hK
  obtain ⟨rfl, hZ, hh⟩ := hP
  have hx := Bd.exec
  have hby := Bd.bytes
  have hml : c.maxLocals = 5 := hml0
  have hown : s.vm.findClass "com/example/planwright/planwright/model/Expression$Operator" = some m.cls := findClass_of_methodNamed Bd.named
  have hnm := (name_of_methodNamed Bd.named Bd.method).1
  have X0 : Stand p l e ({ frames := 1, cells := 0, slots := 0, locals := 12 } : Room) s m #[(.ref (w 0)), (.ref (w 3)), (.ref (w 3))] below meth c s₁ [] 0 0 := Stand.of_body Bd
  have e0 : s₁.heap = h0 := by rw [← hh, Bd.state]; rfl
  have N0 := Fr.nil n0
  show oG p e below s (Q_ty_011 Z  w h0 n0) ({ frames := 1, cells := 0, slots := 0, locals := 12 } : Room).cells ({ frames := 1, cells := 0, slots := 0, locals := 12 } : Room).slots _
  refine oS (fun t k => castTop (ef_3_rrr m (w 0) (w 3) (w 3)) k) ?_
  show oG _ _ _ _ _ _ _ (s₁.setTop (mkF m 0 #[.val (.ref (w 0)), .val (.ref (w 3)), .val (.ref (w 3)), .unset, .unset] []))
  obtain ⟨T1, X1, e1, st1⟩ := getS2 X0 hx hZ hown (host := "") (Or.inl (oW hw 22 rfl)) Via.refl e0 ((wS1 W).ext O0.2) (g := (mkF m 0 #[.val (.ref (w 0)), .val (.ref (w 3)), .val (.ref (w 3)), .unset, .unset] [])) rfl (hb hby d3_0)
  refine oS (fun t k => st1 t k) ?_
  try clear st1
  refine oS (fun t k => XS.astoreN X1.here hx rfl (hb hby d3_3) rfl rfl (l' := #[.val (.ref (w 0)), .val (.ref (w 3)), .val (.ref (w 3)), .val (.ref (w 1)), .unset]) rfl k) ?_
  obtain ⟨T2, X2, e2, st2⟩ := getS2 X1 hx hZ hown (host := "") (Or.inl (oW hw 23 rfl)) Via.refl e1 ((wS3 W).ext O0.2) (g := (mkF m 4 #[.val (.ref (w 0)), .val (.ref (w 3)), .val (.ref (w 3)), .val (.ref (w 1)), .unset] [])) rfl (hb hby d3_4)
  refine oS (fun t k => st2 t k) ?_
  try clear st2 X1 e1
  try clear T1
  refine oS (fun t k => XS.astore X2.here hx rfl (hb hby d3_7) rfl rfl (l' := #[.val (.ref (w 0)), .val (.ref (w 3)), .val (.ref (w 3)), .val (.ref (w 1)), .val (.ref (w 3))]) rfl k) ?_
  refine oS (fun t k => XS.aloadN X2.here hx rfl (hb hby d3_9) rfl rfl k) ?_
  show oG _ _ _ _ _ _ _ (T2.setTop (mkF m 10 #[.val (.ref (w 0)), .val (.ref (w 3)), .val (.ref (w 3)), .val (.ref (w 1)), .val (.ref (w 3))] [(.ref (w 3))]))
  refine oS (fun t k => XS.aloadN X2.here hx rfl (hb hby d3_10) rfl rfl k) ?_
  refine oS (fun t k => Jvm.RoadKit.acmp (g := (mkF m 11 #[.val (.ref (w 0)), .val (.ref (w 3)), .val (.ref (w 3)), .val (.ref (w 1)), .val (.ref (w 3))] [(.ref (w 1)), (.ref (w 3))])) X2 hx rfl rfl rfl (pc0 := 11) (pc' := 24) (same := false) rfl (hb hby d3_11) rfl (decide_eq_false fun q => (own_neI (wF3_ordinal W) (wF1_ordinal W) (by decide)) (Value.ref.inj q)) (by decide) (by decide) k) ?_
  refine oS (fun t k => XS.aloadN X2.here hx rfl (hb hby d3_24) rfl rfl k) ?_
  obtain ⟨cq3, kq3, q3a, q3b, q3c⟩ := isOf hZ e2 ((wE0 W).ext O0.2)
  obtain ⟨_, _, ⟨T3, L3, k3, n3⟩, -, X3, ⟨Lc3, hQ3, l3, y3, z3⟩, st3⟩ := X2.virtualBackUp hx (x := mY9) (y := mY1) hown (mvT hZ (oW hw 25 rfl)) (mvT hZ (oW hw 26 rfl)) (mvT hZ (oW hw 27 rfl)) (by decide) (mvT hZ (oW hw 29 rfl)) (mvT hZ (oW hw 28 rfl)) (backOf (W := 0) (rm_ord_0 l Z a0 hw []  w h0 n0 O0 W ) hZ (oW hw 31 rfl) (oW hw 30 rfl) (by decide) (by decide)) q3a q3c (g := (mkF m 25 #[.val (.ref (w 0)), .val (.ref (w 3)), .val (.ref (w 3)), .val (.ref (w 1)), .val (.ref (w 3))] [(.ref (w 0))])) rfl (by rw [hml]; rfl) (Steps.refl _) (argsL := []) (rest := []) (lenOf pd_3 rfl) rfl (by show 2 * 0 + _ ≤ _; exact Nat.le_of_eq rfl) (hb hby d3_25) (fun _ _ => ⟨rfl, e2, (by decide : 0 + 0 ≤ _), (by decide : 0 + 0 ≤ _)⟩)
  dsimp only [Pt.U, Pt.locs, Pt.cells, Pt.slots] at X3 l3 y3 z3 st3 hQ3
  rw [l3, y3, z3] at X3
  clear l3 y3 z3
  obtain ⟨rfl, Nq3, e3⟩ := hQ3
  have N3 := Fr.app N0 Nq3
  refine oS (fun t k => st3.trans k) ?_
  show oG _ _ _ _ _ _ _ (T3.setTop (mkF m 28 #[.val (.ref (w 0)), .val (.ref (w 3)), .val (.ref (w 3)), .val (.ref (w 1)), .val (.ref (w 3))] [(.int 0)]))
  try clear st3 X2 e2
  try clear T2
  refine oS (fun t k => XS.tswIn X3.here hx rfl (pc0 := 28) (pc' := 70) rfl (hb hby d3_28) (i := (0 : Int32)) rfl (by decide) (o := 42) rfl (by decide) (by decide) k) ?_
  refine oS (fun t k => XS.aloadN X3.here hx rfl (hb hby d3_70) rfl rfl k) ?_
  refine oS (fun t k => XS.aload X3.here hx rfl (hb hby d3_71) rfl rfl k) ?_
  refine oS (fun t k => Jvm.RoadKit.acmp (g := (mkF m 73 #[.val (.ref (w 0)), .val (.ref (w 3)), .val (.ref (w 3)), .val (.ref (w 1)), .val (.ref (w 3))] [(.ref (w 3)), (.ref (w 3))])) X3 hx rfl rfl rfl (pc0 := 73) (pc' := 76) (same := true) rfl (hb hby d3_73) rfl (decide_eq_true rfl) (by decide) (by decide) k) ?_
  refine oS (fun t k => XS.aloadN X3.here hx rfl (hb hby d3_76) rfl rfl k) ?_
  show oG _ _ _ _ _ _ _ (T3.setTop (mkF m 77 #[.val (.ref (w 0)), .val (.ref (w 3)), .val (.ref (w 3)), .val (.ref (w 1)), .val (.ref (w 3))] [(.ref (w 3))]))
  refine oS (fun t k => XS.aloadN X3.here hx rfl (hb hby d3_77) rfl rfl k) ?_
  refine oS (fun t k => Jvm.RoadKit.acmp (g := (mkF m 78 #[.val (.ref (w 0)), .val (.ref (w 3)), .val (.ref (w 3)), .val (.ref (w 1)), .val (.ref (w 3))] [(.ref (w 1)), (.ref (w 3))])) X3 hx rfl rfl rfl (pc0 := 78) (pc' := 81) (same := false) rfl (hb hby d3_78) rfl (decide_eq_false fun q => (own_neI (wF3_ordinal W) (wF1_ordinal W) (by decide)) (Value.ref.inj q)) (by decide) (by decide) k) ?_
  refine oS (fun t k => XS.aloadN X3.here hx rfl (hb hby d3_81) rfl rfl k) ?_
  refine oS (fun t k => XS.aloadN X3.here hx rfl (hb hby d3_82) rfl rfl k) ?_
  refine oS (fun t k => Jvm.RoadKit.acmp (g := (mkF m 83 #[.val (.ref (w 0)), .val (.ref (w 3)), .val (.ref (w 3)), .val (.ref (w 1)), .val (.ref (w 3))] [(.ref (w 1)), (.ref (w 3))])) X3 hx rfl rfl rfl (pc0 := 83) (pc' := 97) (same := false) rfl (hb hby d3_83) rfl (decide_eq_false fun q => (own_neI (wF3_ordinal W) (wF1_ordinal W) (by decide)) (Value.ref.inj q)) (by decide) (by decide) k) ?_
  show oG _ _ _ _ _ _ _ (T3.setTop (mkF m 97 #[.val (.ref (w 0)), .val (.ref (w 3)), .val (.ref (w 3)), .val (.ref (w 1)), .val (.ref (w 3))] []))
  refine oS (fun t k => XS.aconstNull X3.here hx rfl (hb hby d3_97) k) ?_
  refine oS (fun t k => XS.goto X3.here hx rfl (pc0 := 98) (pc' := 138) rfl (hb hby d3_98) (by decide) (by decide) k) ?_
  obtain ⟨_, _, ⟨T4, L4, k4, n4⟩, -, X4, ⟨Lc4, hQ4, l4, y4, z4⟩, st4⟩ := Jvm.LawKit.callS X3 hx (y := mY6) hown (mvT hZ (oW hw 34 rfl)) (mvT hZ (oW hw 35 rfl)) (mvT hZ (oW hw 36 rfl)) (mvT hZ (oW hw 37 rfl)) (by decide) (backOf (W := 0) (rm_ofN0 l Z a0 hw []  w h0 n0 O0 W ) hZ (oW hw 37 rfl) (oW hw 36 rfl) (by decide) (by decide)) (g := (mkF m 138 #[.val (.ref (w 0)), .val (.ref (w 3)), .val (.ref (w 3)), .val (.ref (w 1)), .val (.ref (w 3))] [.null])) rfl (by rw [hml]; rfl) (argsL := [.null]) (rest := []) (lenOf pd_2 rfl) rfl (by show 2 * 0 + _ ≤ _; exact Nat.le_of_eq rfl) (hb hby d3_138) (fun _ _ => ⟨rfl, e3, (by decide : 0 + 0 ≤ _), (by decide : 0 + 0 ≤ _)⟩)
  dsimp only [Pt.U, Pt.locs, Pt.cells, Pt.slots] at X4 l4 y4 z4 st4 hQ4
  rw [l4, y4, z4] at X4
  clear l4 y4 z4
  obtain ⟨rfl, Nq4, e4⟩ := hQ4
  have N4 := Fr.app N3 Nq4
  refine oS (fun t k => st4 t k) ?_
  show oG _ _ _ _ _ _ _ (T4.setTop (mkF m 141 #[.val (.ref (w 0)), .val (.ref (w 3)), .val (.ref (w 3)), .val (.ref (w 1)), .val (.ref (w 3))] [(.ref (w 7))]))
  try clear st4 X3 e3
  exact own_ret (v := some (.ref (w 7))) X4 (fun h => by rw [Bd.returns] at h; cases h) Bd.notSynchronized (fun fs hr => retOut X4 hx (t := (.object "java/util/Optional")) Bd.returns rfl (Or.inr (Or.inr (Or.inr (Or.inr ⟨rfl, rfl, rfl⟩)))) (hb hby d3_141) hr) (by rw [e4]; exact ⟨rfl, N4, rfl⟩) (by decide) (by decide)
def Q_ty_012 (Z : State)  (w : Nat → Addr) (h0 : Heap) (n0 : Nat) (v : Option Value) (h : Heap) (L : List Loc) : Prop := v = some (.ref (w 7)) ∧ Fr n0 L ∧ h = h0
set_option maxRecDepth 65536 in
set_option maxHeartbeats 40000000 in
theorem rm_ty_012 (l : Launch) (Z : State) (a0 : Array Value) (hw : ∀ d ∈ tables_1, d.before a0 Z = true) (ws : List Jvm.Cond)  (w : Nat → Addr) (h0 : Heap) (n0 : Nat) (O0 : Old Z n0 h0) (W : own_World Z w) :
    MetFree l mY8 (head1 (Jvm.Cond.code mY8 prog_45_method_6_code 5 (some (.object "java/util/Optional")) :: ws) ({ frames := 1, cells := 0, slots := 0, locals := 12 } : Room)) (fun a U => a = #[(.ref (w 0)), (.ref (w 3)), (.ref (w 2))] ∧ Z.Warmed39 U.vm ∧ U.heap = h0) (fun _ _ _ _ _ => True) (fun _ U o U' => ∃ v L, o = .returned v ∧ Q_ty_012 Z  w h0 n0 v U'.heap L ∧ FrameEnd U o U' L ({ frames := 1, cells := 0, slots := 0, locals := 12 } : Room).cells ({ frames := 1, cells := 0, slots := 0, locals := 12 } : Room).slots) := by
  refine MetFree.of_bodySF (plainFor_of_name pn_4) hisR ?_
  intro p e s m args below meth c s₁ Bd hml0 hP hK
  obtain ⟨rfl, hZ, hh⟩ := hP
  have hx := Bd.exec
  have hby := Bd.bytes
  have hml : c.maxLocals = 5 := hml0
  have hown : s.vm.findClass "com/example/planwright/planwright/model/Expression$Operator" = some m.cls := findClass_of_methodNamed Bd.named
  have hnm := (name_of_methodNamed Bd.named Bd.method).1
  have X0 : Stand p l e ({ frames := 1, cells := 0, slots := 0, locals := 12 } : Room) s m #[(.ref (w 0)), (.ref (w 3)), (.ref (w 2))] below meth c s₁ [] 0 0 := Stand.of_body Bd
  have e0 : s₁.heap = h0 := by rw [← hh, Bd.state]; rfl
  have N0 := Fr.nil n0
  show oG p e below s (Q_ty_012 Z  w h0 n0) ({ frames := 1, cells := 0, slots := 0, locals := 12 } : Room).cells ({ frames := 1, cells := 0, slots := 0, locals := 12 } : Room).slots _
  refine oS (fun t k => castTop (ef_3_rrr m (w 0) (w 3) (w 2)) k) ?_
  show oG _ _ _ _ _ _ _ (s₁.setTop (mkF m 0 #[.val (.ref (w 0)), .val (.ref (w 3)), .val (.ref (w 2)), .unset, .unset] []))
  obtain ⟨T1, X1, e1, st1⟩ := getS2 X0 hx hZ hown (host := "") (Or.inl (oW hw 22 rfl)) Via.refl e0 ((wS1 W).ext O0.2) (g := (mkF m 0 #[.val (.ref (w 0)), .val (.ref (w 3)), .val (.ref (w 2)), .unset, .unset] [])) rfl (hb hby d3_0)
  refine oS (fun t k => st1 t k) ?_
  try clear st1
  refine oS (fun t k => XS.astoreN X1.here hx rfl (hb hby d3_3) rfl rfl (l' := #[.val (.ref (w 0)), .val (.ref (w 3)), .val (.ref (w 2)), .val (.ref (w 1)), .unset]) rfl k) ?_
  obtain ⟨T2, X2, e2, st2⟩ := getS2 X1 hx hZ hown (host := "") (Or.inl (oW hw 23 rfl)) Via.refl e1 ((wS3 W).ext O0.2) (g := (mkF m 4 #[.val (.ref (w 0)), .val (.ref (w 3)), .val (.ref (w 2)), .val (.ref (w 1)), .unset] [])) rfl (hb hby d3_4)
  refine oS (fun t k => st2 t k) ?_
  try clear st2 X1 e1
  try clear T1
  refine oS (fun t k => XS.astore X2.here hx rfl (hb hby d3_7) rfl rfl (l' := #[.val (.ref (w 0)), .val (.ref (w 3)), .val (.ref (w 2)), .val (.ref (w 1)), .val (.ref (w 3))]) rfl k) ?_
  refine oS (fun t k => XS.aloadN X2.here hx rfl (hb hby d3_9) rfl rfl k) ?_
  show oG _ _ _ _ _ _ _ (T2.setTop (mkF m 10 #[.val (.ref (w 0)), .val (.ref (w 3)), .val (.ref (w 2)), .val (.ref (w 1)), .val (.ref (w 3))] [(.ref (w 3))]))
  refine oS (fun t k => XS.aloadN X2.here hx rfl (hb hby d3_10) rfl rfl k) ?_
  refine oS (fun t k => Jvm.RoadKit.acmp (g := (mkF m 11 #[.val (.ref (w 0)), .val (.ref (w 3)), .val (.ref (w 2)), .val (.ref (w 1)), .val (.ref (w 3))] [(.ref (w 1)), (.ref (w 3))])) X2 hx rfl rfl rfl (pc0 := 11) (pc' := 24) (same := false) rfl (hb hby d3_11) rfl (decide_eq_false fun q => (own_neI (wF3_ordinal W) (wF1_ordinal W) (by decide)) (Value.ref.inj q)) (by decide) (by decide) k) ?_
  refine oS (fun t k => XS.aloadN X2.here hx rfl (hb hby d3_24) rfl rfl k) ?_
  obtain ⟨cq3, kq3, q3a, q3b, q3c⟩ := isOf hZ e2 ((wE0 W).ext O0.2)
  obtain ⟨_, _, ⟨T3, L3, k3, n3⟩, -, X3, ⟨Lc3, hQ3, l3, y3, z3⟩, st3⟩ := X2.virtualBackUp hx (x := mY9) (y := mY1) hown (mvT hZ (oW hw 25 rfl)) (mvT hZ (oW hw 26 rfl)) (mvT hZ (oW hw 27 rfl)) (by decide) (mvT hZ (oW hw 29 rfl)) (mvT hZ (oW hw 28 rfl)) (backOf (W := 0) (rm_ord_0 l Z a0 hw []  w h0 n0 O0 W ) hZ (oW hw 31 rfl) (oW hw 30 rfl) (by decide) (by decide)) q3a q3c (g := (mkF m 25 #[.val (.ref (w 0)), .val (.ref (w 3)), .val (.ref (w 2)), .val (.ref (w 1)), .val (.ref (w 3))] [(.ref (w 0))])) rfl (by rw [hml]; rfl) (Steps.refl _) (argsL := []) (rest := []) (lenOf pd_3 rfl) rfl (by show 2 * 0 + _ ≤ _; exact Nat.le_of_eq rfl) (hb hby d3_25) (fun _ _ => ⟨rfl, e2, (by decide : 0 + 0 ≤ _), (by decide : 0 + 0 ≤ _)⟩)
  dsimp only [Pt.U, Pt.locs, Pt.cells, Pt.slots] at X3 l3 y3 z3 st3 hQ3
  rw [l3, y3, z3] at X3
  clear l3 y3 z3
  obtain ⟨rfl, Nq3, e3⟩ := hQ3
  have N3 := Fr.app N0 Nq3
  refine oS (fun t k => st3.trans k) ?_
  show oG _ _ _ _ _ _ _ (T3.setTop (mkF m 28 #[.val (.ref (w 0)), .val (.ref (w 3)), .val (.ref (w 2)), .val (.ref (w 1)), .val (.ref (w 3))] [(.int 0)]))
  try clear st3 X2 e2
  try clear T2
  refine oS (fun t k => XS.tswIn X3.here hx rfl (pc0 := 28) (pc' := 70) rfl (hb hby d3_28) (i := (0 : Int32)) rfl (by decide) (o := 42) rfl (by decide) (by decide) k) ?_
  refine oS (fun t k => XS.aloadN X3.here hx rfl (hb hby d3_70) rfl rfl k) ?_
  refine oS (fun t k => XS.aload X3.here hx rfl (hb hby d3_71) rfl rfl k) ?_
  refine oS (fun t k => Jvm.RoadKit.acmp (g := (mkF m 73 #[.val (.ref (w 0)), .val (.ref (w 3)), .val (.ref (w 2)), .val (.ref (w 1)), .val (.ref (w 3))] [(.ref (w 3)), (.ref (w 3))])) X3 hx rfl rfl rfl (pc0 := 73) (pc' := 76) (same := true) rfl (hb hby d3_73) rfl (decide_eq_true rfl) (by decide) (by decide) k) ?_
  refine oS (fun t k => XS.aloadN X3.here hx rfl (hb hby d3_76) rfl rfl k) ?_
  show oG _ _ _ _ _ _ _ (T3.setTop (mkF m 77 #[.val (.ref (w 0)), .val (.ref (w 3)), .val (.ref (w 2)), .val (.ref (w 1)), .val (.ref (w 3))] [(.ref (w 2))]))
  refine oS (fun t k => XS.aloadN X3.here hx rfl (hb hby d3_77) rfl rfl k) ?_
  refine oS (fun t k => Jvm.RoadKit.acmp (g := (mkF m 78 #[.val (.ref (w 0)), .val (.ref (w 3)), .val (.ref (w 2)), .val (.ref (w 1)), .val (.ref (w 3))] [(.ref (w 1)), (.ref (w 2))])) X3 hx rfl rfl rfl (pc0 := 78) (pc' := 81) (same := false) rfl (hb hby d3_78) rfl (decide_eq_false fun q => (own_neI (wF2_ordinal W) (wF1_ordinal W) (by decide)) (Value.ref.inj q)) (by decide) (by decide) k) ?_
  refine oS (fun t k => XS.aloadN X3.here hx rfl (hb hby d3_81) rfl rfl k) ?_
  refine oS (fun t k => XS.aloadN X3.here hx rfl (hb hby d3_82) rfl rfl k) ?_
  refine oS (fun t k => Jvm.RoadKit.acmp (g := (mkF m 83 #[.val (.ref (w 0)), .val (.ref (w 3)), .val (.ref (w 2)), .val (.ref (w 1)), .val (.ref (w 3))] [(.ref (w 1)), (.ref (w 3))])) X3 hx rfl rfl rfl (pc0 := 83) (pc' := 97) (same := false) rfl (hb hby d3_83) rfl (decide_eq_false fun q => (own_neI (wF3_ordinal W) (wF1_ordinal W) (by decide)) (Value.ref.inj q)) (by decide) (by decide) k) ?_
  show oG _ _ _ _ _ _ _ (T3.setTop (mkF m 97 #[.val (.ref (w 0)), .val (.ref (w 3)), .val (.ref (w 2)), .val (.ref (w 1)), .val (.ref (w 3))] []))
  refine oS (fun t k => XS.aconstNull X3.here hx rfl (hb hby d3_97) k) ?_
  refine oS (fun t k => XS.goto X3.here hx rfl (pc0 := 98) (pc' := 138) rfl (hb hby d3_98) (by decide) (by decide) k) ?_
  obtain ⟨_, _, ⟨T4, L4, k4, n4⟩, -, X4, ⟨Lc4, hQ4, l4, y4, z4⟩, st4⟩ := Jvm.LawKit.callS X3 hx (y := mY6) hown (mvT hZ (oW hw 34 rfl)) (mvT hZ (oW hw 35 rfl)) (mvT hZ (oW hw 36 rfl)) (mvT hZ (oW hw 37 rfl)) (by decide) (backOf (W := 0) (rm_ofN0 l Z a0 hw []  w h0 n0 O0 W ) hZ (oW hw 37 rfl) (oW hw 36 rfl) (by decide) (by decide)) (g := (mkF m 138 #[.val (.ref (w 0)), .val (.ref (w 3)), .val (.ref (w 2)), .val (.ref (w 1)), .val (.ref (w 3))] [.null])) rfl (by rw [hml]; rfl) (argsL := [.null]) (rest := []) (lenOf pd_2 rfl) rfl (by show 2 * 0 + _ ≤ _; exact Nat.le_of_eq rfl) (hb hby d3_138) (fun _ _ => ⟨rfl, e3, (by decide : 0 + 0 ≤ _), (by decide : 0 + 0 ≤ _)⟩)
  dsimp only [Pt.U, Pt.locs, Pt.cells, Pt.slots] at X4 l4 y4 z4 st4 hQ4
  rw [l4, y4, z4] at X4
  clear l4 y4 z4
  obtain ⟨rfl, Nq4, e4⟩ := hQ4
  have N4 := Fr.app N3 Nq4
  refine oS (fun t k => st4 t k) ?_
  show oG _ _ _ _ _ _ _ (T4.setTop (mkF m 141 #[.val (.ref (w 0)), .val (.ref (w 3)), .val (.ref (w 2)), .val (.ref (w 1)), .val (.ref (w 3))] [(.ref (w 7))]))
  try clear st4 X3 e3
  exact own_ret (v := some (.ref (w 7))) X4 (fun h => by rw [Bd.returns] at h; cases h) Bd.notSynchronized (fun fs hr => retOut X4 hx (t := (.object "java/util/Optional")) Bd.returns rfl (Or.inr (Or.inr (Or.inr (Or.inr ⟨rfl, rfl, rfl⟩)))) (hb hby d3_141) hr) (by rw [e4]; exact ⟨rfl, N4, rfl⟩) (by decide) (by decide)
def Q_ty_020 (Z : State)  (w : Nat → Addr) (h0 : Heap) (n0 : Nat) (v : Option Value) (h : Heap) (L : List Loc) : Prop := v = some (.ref (w 7)) ∧ Fr n0 L ∧ h = h0
set_option maxRecDepth 65536 in
set_option maxHeartbeats 40000000 in
theorem rm_ty_020 (l : Launch) (Z : State) (a0 : Array Value) (hw : ∀ d ∈ tables_1, d.before a0 Z = true) (ws : List Jvm.Cond)  (w : Nat → Addr) (h0 : Heap) (n0 : Nat) (O0 : Old Z n0 h0) (W : own_World Z w) :
    MetFree l mY8 (head1 (Jvm.Cond.code mY8 prog_45_method_6_code 5 (some (.object "java/util/Optional")) :: ws) ({ frames := 1, cells := 0, slots := 0, locals := 12 } : Room)) (fun a U => a = #[(.ref (w 0)), (.ref (w 2)), (.ref (w 1))] ∧ Z.Warmed39 U.vm ∧ U.heap = h0) (fun _ _ _ _ _ => True) (fun _ U o U' => ∃ v L, o = .returned v ∧ Q_ty_020 Z  w h0 n0 v U'.heap L ∧ FrameEnd U o U' L ({ frames := 1, cells := 0, slots := 0, locals := 12 } : Room).cells ({ frames := 1, cells := 0, slots := 0, locals := 12 } : Room).slots) := by
  refine MetFree.of_bodySF (plainFor_of_name pn_4) hisR ?_
  intro p e s m args below meth c s₁ Bd hml0 hP hK
  obtain ⟨rfl, hZ, hh⟩ := hP
  have hx := Bd.exec
  have hby := Bd.bytes
  have hml : c.maxLocals = 5 := hml0
  have hown : s.vm.findClass "com/example/planwright/planwright/model/Expression$Operator" = some m.cls := findClass_of_methodNamed Bd.named
  have hnm := (name_of_methodNamed Bd.named Bd.method).1
  have X0 : Stand p l e ({ frames := 1, cells := 0, slots := 0, locals := 12 } : Room) s m #[(.ref (w 0)), (.ref (w 2)), (.ref (w 1))] below meth c s₁ [] 0 0 := Stand.of_body Bd
  have e0 : s₁.heap = h0 := by rw [← hh, Bd.state]; rfl
  have N0 := Fr.nil n0
  show oG p e below s (Q_ty_020 Z  w h0 n0) ({ frames := 1, cells := 0, slots := 0, locals := 12 } : Room).cells ({ frames := 1, cells := 0, slots := 0, locals := 12 } : Room).slots _
  refine oS (fun t k => castTop (ef_3_rrr m (w 0) (w 2) (w 1)) k) ?_
  show oG _ _ _ _ _ _ _ (s₁.setTop (mkF m 0 #[.val (.ref (w 0)), .val (.ref (w 2)), .val (.ref (w 1)), .unset, .unset] []))
  obtain ⟨T1, X1, e1, st1⟩ := getS2 X0 hx hZ hown (host := "") (Or.inl (oW hw 22 rfl)) Via.refl e0 ((wS1 W).ext O0.2) (g := (mkF m 0 #[.val (.ref (w 0)), .val (.ref (w 2)), .val (.ref (w 1)), .unset, .unset] [])) rfl (hb hby d3_0)
  refine oS (fun t k => st1 t k) ?_
  try clear st1
  refine oS (fun t k => XS.astoreN X1.here hx rfl (hb hby d3_3) rfl rfl (l' := #[.val (.ref (w 0)), .val (.ref (w 2)), .val (.ref (w 1)), .val (.ref (w 1)), .unset]) rfl k) ?_
  obtain ⟨T2, X2, e2, st2⟩ := getS2 X1 hx hZ hown (host := "") (Or.inl (oW hw 23 rfl)) Via.refl e1 ((wS3 W).ext O0.2) (g := (mkF m 4 #[.val (.ref (w 0)), .val (.ref (w 2)), .val (.ref (w 1)), .val (.ref (w 1)), .unset] [])) rfl (hb hby d3_4)
  refine oS (fun t k => st2 t k) ?_
  try clear st2 X1 e1
  try clear T1
  refine oS (fun t k => XS.astore X2.here hx rfl (hb hby d3_7) rfl rfl (l' := #[.val (.ref (w 0)), .val (.ref (w 2)), .val (.ref (w 1)), .val (.ref (w 1)), .val (.ref (w 3))]) rfl k) ?_
  refine oS (fun t k => XS.aloadN X2.here hx rfl (hb hby d3_9) rfl rfl k) ?_
  show oG _ _ _ _ _ _ _ (T2.setTop (mkF m 10 #[.val (.ref (w 0)), .val (.ref (w 2)), .val (.ref (w 1)), .val (.ref (w 1)), .val (.ref (w 3))] [(.ref (w 2))]))
  refine oS (fun t k => XS.aloadN X2.here hx rfl (hb hby d3_10) rfl rfl k) ?_
  refine oS (fun t k => Jvm.RoadKit.acmp (g := (mkF m 11 #[.val (.ref (w 0)), .val (.ref (w 2)), .val (.ref (w 1)), .val (.ref (w 1)), .val (.ref (w 3))] [(.ref (w 1)), (.ref (w 2))])) X2 hx rfl rfl rfl (pc0 := 11) (pc' := 24) (same := false) rfl (hb hby d3_11) rfl (decide_eq_false fun q => (own_neI (wF2_ordinal W) (wF1_ordinal W) (by decide)) (Value.ref.inj q)) (by decide) (by decide) k) ?_
  refine oS (fun t k => XS.aloadN X2.here hx rfl (hb hby d3_24) rfl rfl k) ?_
  obtain ⟨cq3, kq3, q3a, q3b, q3c⟩ := isOf hZ e2 ((wE0 W).ext O0.2)
  obtain ⟨_, _, ⟨T3, L3, k3, n3⟩, -, X3, ⟨Lc3, hQ3, l3, y3, z3⟩, st3⟩ := X2.virtualBackUp hx (x := mY9) (y := mY1) hown (mvT hZ (oW hw 25 rfl)) (mvT hZ (oW hw 26 rfl)) (mvT hZ (oW hw 27 rfl)) (by decide) (mvT hZ (oW hw 29 rfl)) (mvT hZ (oW hw 28 rfl)) (backOf (W := 0) (rm_ord_0 l Z a0 hw []  w h0 n0 O0 W ) hZ (oW hw 31 rfl) (oW hw 30 rfl) (by decide) (by decide)) q3a q3c (g := (mkF m 25 #[.val (.ref (w 0)), .val (.ref (w 2)), .val (.ref (w 1)), .val (.ref (w 1)), .val (.ref (w 3))] [(.ref (w 0))])) rfl (by rw [hml]; rfl) (Steps.refl _) (argsL := []) (rest := []) (lenOf pd_3 rfl) rfl (by show 2 * 0 + _ ≤ _; exact Nat.le_of_eq rfl) (hb hby d3_25) (fun _ _ => ⟨rfl, e2, (by decide : 0 + 0 ≤ _), (by decide : 0 + 0 ≤ _)⟩)
  dsimp only [Pt.U, Pt.locs, Pt.cells, Pt.slots] at X3 l3 y3 z3 st3 hQ3
  rw [l3, y3, z3] at X3
  clear l3 y3 z3
  obtain ⟨rfl, Nq3, e3⟩ := hQ3
  have N3 := Fr.app N0 Nq3
  refine oS (fun t k => st3.trans k) ?_
  show oG _ _ _ _ _ _ _ (T3.setTop (mkF m 28 #[.val (.ref (w 0)), .val (.ref (w 2)), .val (.ref (w 1)), .val (.ref (w 1)), .val (.ref (w 3))] [(.int 0)]))
  try clear st3 X2 e2
  try clear T2
  refine oS (fun t k => XS.tswIn X3.here hx rfl (pc0 := 28) (pc' := 70) rfl (hb hby d3_28) (i := (0 : Int32)) rfl (by decide) (o := 42) rfl (by decide) (by decide) k) ?_
  refine oS (fun t k => XS.aloadN X3.here hx rfl (hb hby d3_70) rfl rfl k) ?_
  refine oS (fun t k => XS.aload X3.here hx rfl (hb hby d3_71) rfl rfl k) ?_
  refine oS (fun t k => Jvm.RoadKit.acmp (g := (mkF m 73 #[.val (.ref (w 0)), .val (.ref (w 2)), .val (.ref (w 1)), .val (.ref (w 1)), .val (.ref (w 3))] [(.ref (w 3)), (.ref (w 2))])) X3 hx rfl rfl rfl (pc0 := 73) (pc' := 81) (same := false) rfl (hb hby d3_73) rfl (decide_eq_false fun q => (own_neI (wF2_ordinal W) (wF3_ordinal W) (by decide)) (Value.ref.inj q)) (by decide) (by decide) k) ?_
  refine oS (fun t k => XS.aloadN X3.here hx rfl (hb hby d3_81) rfl rfl k) ?_
  show oG _ _ _ _ _ _ _ (T3.setTop (mkF m 82 #[.val (.ref (w 0)), .val (.ref (w 2)), .val (.ref (w 1)), .val (.ref (w 1)), .val (.ref (w 3))] [(.ref (w 2))]))
  refine oS (fun t k => XS.aloadN X3.here hx rfl (hb hby d3_82) rfl rfl k) ?_
  refine oS (fun t k => Jvm.RoadKit.acmp (g := (mkF m 83 #[.val (.ref (w 0)), .val (.ref (w 2)), .val (.ref (w 1)), .val (.ref (w 1)), .val (.ref (w 3))] [(.ref (w 1)), (.ref (w 2))])) X3 hx rfl rfl rfl (pc0 := 83) (pc' := 97) (same := false) rfl (hb hby d3_83) rfl (decide_eq_false fun q => (own_neI (wF2_ordinal W) (wF1_ordinal W) (by decide)) (Value.ref.inj q)) (by decide) (by decide) k) ?_
  refine oS (fun t k => XS.aconstNull X3.here hx rfl (hb hby d3_97) k) ?_
  refine oS (fun t k => XS.goto X3.here hx rfl (pc0 := 98) (pc' := 138) rfl (hb hby d3_98) (by decide) (by decide) k) ?_
  obtain ⟨_, _, ⟨T4, L4, k4, n4⟩, -, X4, ⟨Lc4, hQ4, l4, y4, z4⟩, st4⟩ := Jvm.LawKit.callS X3 hx (y := mY6) hown (mvT hZ (oW hw 34 rfl)) (mvT hZ (oW hw 35 rfl)) (mvT hZ (oW hw 36 rfl)) (mvT hZ (oW hw 37 rfl)) (by decide) (backOf (W := 0) (rm_ofN0 l Z a0 hw []  w h0 n0 O0 W ) hZ (oW hw 37 rfl) (oW hw 36 rfl) (by decide) (by decide)) (g := (mkF m 138 #[.val (.ref (w 0)), .val (.ref (w 2)), .val (.ref (w 1)), .val (.ref (w 1)), .val (.ref (w 3))] [.null])) rfl (by rw [hml]; rfl) (argsL := [.null]) (rest := []) (lenOf pd_2 rfl) rfl (by show 2 * 0 + _ ≤ _; exact Nat.le_of_eq rfl) (hb hby d3_138) (fun _ _ => ⟨rfl, e3, (by decide : 0 + 0 ≤ _), (by decide : 0 + 0 ≤ _)⟩)
  dsimp only [Pt.U, Pt.locs, Pt.cells, Pt.slots] at X4 l4 y4 z4 st4 hQ4
  rw [l4, y4, z4] at X4
  clear l4 y4 z4
  obtain ⟨rfl, Nq4, e4⟩ := hQ4
  have N4 := Fr.app N3 Nq4
  refine oS (fun t k => st4 t k) ?_
  show oG _ _ _ _ _ _ _ (T4.setTop (mkF m 141 #[.val (.ref (w 0)), .val (.ref (w 2)), .val (.ref (w 1)), .val (.ref (w 1)), .val (.ref (w 3))] [(.ref (w 7))]))
  try clear st4 X3 e3
  exact own_ret (v := some (.ref (w 7))) X4 (fun h => by rw [Bd.returns] at h; cases h) Bd.notSynchronized (fun fs hr => retOut X4 hx (t := (.object "java/util/Optional")) Bd.returns rfl (Or.inr (Or.inr (Or.inr (Or.inr ⟨rfl, rfl, rfl⟩)))) (hb hby d3_141) hr) (by rw [e4]; exact ⟨rfl, N4, rfl⟩) (by decide) (by decide)
def Q_ty_021 (Z : State)  (w : Nat → Addr) (h0 : Heap) (n0 : Nat) (v : Option Value) (h : Heap) (L : List Loc) : Prop := v = some (.ref (w 7)) ∧ Fr n0 L ∧ h = h0
set_option maxRecDepth 65536 in
set_option maxHeartbeats 40000000 in
theorem rm_ty_021 (l : Launch) (Z : State) (a0 : Array Value) (hw : ∀ d ∈ tables_1, d.before a0 Z = true) (ws : List Jvm.Cond)  (w : Nat → Addr) (h0 : Heap) (n0 : Nat) (O0 : Old Z n0 h0) (W : own_World Z w) :
    MetFree l mY8 (head1 (Jvm.Cond.code mY8 prog_45_method_6_code 5 (some (.object "java/util/Optional")) :: ws) ({ frames := 1, cells := 0, slots := 0, locals := 12 } : Room)) (fun a U => a = #[(.ref (w 0)), (.ref (w 2)), (.ref (w 3))] ∧ Z.Warmed39 U.vm ∧ U.heap = h0) (fun _ _ _ _ _ => True) (fun _ U o U' => ∃ v L, o = .returned v ∧ Q_ty_021 Z  w h0 n0 v U'.heap L ∧ FrameEnd U o U' L ({ frames := 1, cells := 0, slots := 0, locals := 12 } : Room).cells ({ frames := 1, cells := 0, slots := 0, locals := 12 } : Room).slots) := by
  refine MetFree.of_bodySF (plainFor_of_name pn_4) hisR ?_
  intro p e s m args below meth c s₁ Bd hml0 hP hK
  obtain ⟨rfl, hZ, hh⟩ := hP
  have hx := Bd.exec
  have hby := Bd.bytes
  have hml : c.maxLocals = 5 := hml0
  have hown : s.vm.findClass "com/example/planwright/planwright/model/Expression$Operator" = some m.cls := findClass_of_methodNamed Bd.named
  have hnm := (name_of_methodNamed Bd.named Bd.method).1
  have X0 : Stand p l e ({ frames := 1, cells := 0, slots := 0, locals := 12 } : Room) s m #[(.ref (w 0)), (.ref (w 2)), (.ref (w 3))] below meth c s₁ [] 0 0 := Stand.of_body Bd
  have e0 : s₁.heap = h0 := by rw [← hh, Bd.state]; rfl
  have N0 := Fr.nil n0
  show oG p e below s (Q_ty_021 Z  w h0 n0) ({ frames := 1, cells := 0, slots := 0, locals := 12 } : Room).cells ({ frames := 1, cells := 0, slots := 0, locals := 12 } : Room).slots _
  refine oS (fun t k => castTop (ef_3_rrr m (w 0) (w 2) (w 3)) k) ?_
  show oG _ _ _ _ _ _ _ (s₁.setTop (mkF m 0 #[.val (.ref (w 0)), .val (.ref (w 2)), .val (.ref (w 3)), .unset, .unset] []))
  obtain ⟨T1, X1, e1, st1⟩ := getS2 X0 hx hZ hown (host := "") (Or.inl (oW hw 22 rfl)) Via.refl e0 ((wS1 W).ext O0.2) (g := (mkF m 0 #[.val (.ref (w 0)), .val (.ref (w 2)), .val (.ref (w 3)), .unset, .unset] [])) rfl (hb hby d3_0)
  refine oS (fun t k => st1 t k) ?_
  try clear st1
  refine oS (fun t k => XS.astoreN X1.here hx rfl (hb hby d3_3) rfl rfl (l' := #[.val (.ref (w 0)), .val (.ref (w 2)), .val (.ref (w 3)), .val (.ref (w 1)), .unset]) rfl k) ?_
  obtain ⟨T2, X2, e2, st2⟩ := getS2 X1 hx hZ hown (host := "") (Or.inl (oW hw 23 rfl)) Via.refl e1 ((wS3 W).ext O0.2) (g := (mkF m 4 #[.val (.ref (w 0)), .val (.ref (w 2)), .val (.ref (w 3)), .val (.ref (w 1)), .unset] [])) rfl (hb hby d3_4)
  refine oS (fun t k => st2 t k) ?_
  try clear st2 X1 e1
  try clear T1
  refine oS (fun t k => XS.astore X2.here hx rfl (hb hby d3_7) rfl rfl (l' := #[.val (.ref (w 0)), .val (.ref (w 2)), .val (.ref (w 3)), .val (.ref (w 1)), .val (.ref (w 3))]) rfl k) ?_
  refine oS (fun t k => XS.aloadN X2.here hx rfl (hb hby d3_9) rfl rfl k) ?_
  show oG _ _ _ _ _ _ _ (T2.setTop (mkF m 10 #[.val (.ref (w 0)), .val (.ref (w 2)), .val (.ref (w 3)), .val (.ref (w 1)), .val (.ref (w 3))] [(.ref (w 2))]))
  refine oS (fun t k => XS.aloadN X2.here hx rfl (hb hby d3_10) rfl rfl k) ?_
  refine oS (fun t k => Jvm.RoadKit.acmp (g := (mkF m 11 #[.val (.ref (w 0)), .val (.ref (w 2)), .val (.ref (w 3)), .val (.ref (w 1)), .val (.ref (w 3))] [(.ref (w 1)), (.ref (w 2))])) X2 hx rfl rfl rfl (pc0 := 11) (pc' := 24) (same := false) rfl (hb hby d3_11) rfl (decide_eq_false fun q => (own_neI (wF2_ordinal W) (wF1_ordinal W) (by decide)) (Value.ref.inj q)) (by decide) (by decide) k) ?_
  refine oS (fun t k => XS.aloadN X2.here hx rfl (hb hby d3_24) rfl rfl k) ?_
  obtain ⟨cq3, kq3, q3a, q3b, q3c⟩ := isOf hZ e2 ((wE0 W).ext O0.2)
  obtain ⟨_, _, ⟨T3, L3, k3, n3⟩, -, X3, ⟨Lc3, hQ3, l3, y3, z3⟩, st3⟩ := X2.virtualBackUp hx (x := mY9) (y := mY1) hown (mvT hZ (oW hw 25 rfl)) (mvT hZ (oW hw 26 rfl)) (mvT hZ (oW hw 27 rfl)) (by decide) (mvT hZ (oW hw 29 rfl)) (mvT hZ (oW hw 28 rfl)) (backOf (W := 0) (rm_ord_0 l Z a0 hw []  w h0 n0 O0 W ) hZ (oW hw 31 rfl) (oW hw 30 rfl) (by decide) (by decide)) q3a q3c (g := (mkF m 25 #[.val (.ref (w 0)), .val (.ref (w 2)), .val (.ref (w 3)), .val (.ref (w 1)), .val (.ref (w 3))] [(.ref (w 0))])) rfl (by rw [hml]; rfl) (Steps.refl _) (argsL := []) (rest := []) (lenOf pd_3 rfl) rfl (by show 2 * 0 + _ ≤ _; exact Nat.le_of_eq rfl) (hb hby d3_25) (fun _ _ => ⟨rfl, e2, (by decide : 0 + 0 ≤ _), (by decide : 0 + 0 ≤ _)⟩)
  dsimp only [Pt.U, Pt.locs, Pt.cells, Pt.slots] at X3 l3 y3 z3 st3 hQ3
  rw [l3, y3, z3] at X3
  clear l3 y3 z3
  obtain ⟨rfl, Nq3, e3⟩ := hQ3
  have N3 := Fr.app N0 Nq3
  refine oS (fun t k => st3.trans k) ?_
  show oG _ _ _ _ _ _ _ (T3.setTop (mkF m 28 #[.val (.ref (w 0)), .val (.ref (w 2)), .val (.ref (w 3)), .val (.ref (w 1)), .val (.ref (w 3))] [(.int 0)]))
  try clear st3 X2 e2
  try clear T2
  refine oS (fun t k => XS.tswIn X3.here hx rfl (pc0 := 28) (pc' := 70) rfl (hb hby d3_28) (i := (0 : Int32)) rfl (by decide) (o := 42) rfl (by decide) (by decide) k) ?_
  refine oS (fun t k => XS.aloadN X3.here hx rfl (hb hby d3_70) rfl rfl k) ?_
  refine oS (fun t k => XS.aload X3.here hx rfl (hb hby d3_71) rfl rfl k) ?_
  refine oS (fun t k => Jvm.RoadKit.acmp (g := (mkF m 73 #[.val (.ref (w 0)), .val (.ref (w 2)), .val (.ref (w 3)), .val (.ref (w 1)), .val (.ref (w 3))] [(.ref (w 3)), (.ref (w 2))])) X3 hx rfl rfl rfl (pc0 := 73) (pc' := 81) (same := false) rfl (hb hby d3_73) rfl (decide_eq_false fun q => (own_neI (wF2_ordinal W) (wF3_ordinal W) (by decide)) (Value.ref.inj q)) (by decide) (by decide) k) ?_
  refine oS (fun t k => XS.aloadN X3.here hx rfl (hb hby d3_81) rfl rfl k) ?_
  show oG _ _ _ _ _ _ _ (T3.setTop (mkF m 82 #[.val (.ref (w 0)), .val (.ref (w 2)), .val (.ref (w 3)), .val (.ref (w 1)), .val (.ref (w 3))] [(.ref (w 2))]))
  refine oS (fun t k => XS.aloadN X3.here hx rfl (hb hby d3_82) rfl rfl k) ?_
  refine oS (fun t k => Jvm.RoadKit.acmp (g := (mkF m 83 #[.val (.ref (w 0)), .val (.ref (w 2)), .val (.ref (w 3)), .val (.ref (w 1)), .val (.ref (w 3))] [(.ref (w 1)), (.ref (w 2))])) X3 hx rfl rfl rfl (pc0 := 83) (pc' := 97) (same := false) rfl (hb hby d3_83) rfl (decide_eq_false fun q => (own_neI (wF2_ordinal W) (wF1_ordinal W) (by decide)) (Value.ref.inj q)) (by decide) (by decide) k) ?_
  refine oS (fun t k => XS.aconstNull X3.here hx rfl (hb hby d3_97) k) ?_
  refine oS (fun t k => XS.goto X3.here hx rfl (pc0 := 98) (pc' := 138) rfl (hb hby d3_98) (by decide) (by decide) k) ?_
  obtain ⟨_, _, ⟨T4, L4, k4, n4⟩, -, X4, ⟨Lc4, hQ4, l4, y4, z4⟩, st4⟩ := Jvm.LawKit.callS X3 hx (y := mY6) hown (mvT hZ (oW hw 34 rfl)) (mvT hZ (oW hw 35 rfl)) (mvT hZ (oW hw 36 rfl)) (mvT hZ (oW hw 37 rfl)) (by decide) (backOf (W := 0) (rm_ofN0 l Z a0 hw []  w h0 n0 O0 W ) hZ (oW hw 37 rfl) (oW hw 36 rfl) (by decide) (by decide)) (g := (mkF m 138 #[.val (.ref (w 0)), .val (.ref (w 2)), .val (.ref (w 3)), .val (.ref (w 1)), .val (.ref (w 3))] [.null])) rfl (by rw [hml]; rfl) (argsL := [.null]) (rest := []) (lenOf pd_2 rfl) rfl (by show 2 * 0 + _ ≤ _; exact Nat.le_of_eq rfl) (hb hby d3_138) (fun _ _ => ⟨rfl, e3, (by decide : 0 + 0 ≤ _), (by decide : 0 + 0 ≤ _)⟩)
  dsimp only [Pt.U, Pt.locs, Pt.cells, Pt.slots] at X4 l4 y4 z4 st4 hQ4
  rw [l4, y4, z4] at X4
  clear l4 y4 z4
  obtain ⟨rfl, Nq4, e4⟩ := hQ4
  have N4 := Fr.app N3 Nq4
  refine oS (fun t k => st4 t k) ?_
  show oG _ _ _ _ _ _ _ (T4.setTop (mkF m 141 #[.val (.ref (w 0)), .val (.ref (w 2)), .val (.ref (w 3)), .val (.ref (w 1)), .val (.ref (w 3))] [(.ref (w 7))]))
  try clear st4 X3 e3
  exact own_ret (v := some (.ref (w 7))) X4 (fun h => by rw [Bd.returns] at h; cases h) Bd.notSynchronized (fun fs hr => retOut X4 hx (t := (.object "java/util/Optional")) Bd.returns rfl (Or.inr (Or.inr (Or.inr (Or.inr ⟨rfl, rfl, rfl⟩)))) (hb hby d3_141) hr) (by rw [e4]; exact ⟨rfl, N4, rfl⟩) (by decide) (by decide)
def Q_ty_022 (Z : State)  (w : Nat → Addr) (h0 : Heap) (n0 : Nat) (v : Option Value) (h : Heap) (L : List Loc) : Prop := v = some (.ref (w 7)) ∧ Fr n0 L ∧ h = h0
set_option maxRecDepth 65536 in
set_option maxHeartbeats 40000000 in
theorem rm_ty_022 (l : Launch) (Z : State) (a0 : Array Value) (hw : ∀ d ∈ tables_1, d.before a0 Z = true) (ws : List Jvm.Cond)  (w : Nat → Addr) (h0 : Heap) (n0 : Nat) (O0 : Old Z n0 h0) (W : own_World Z w) :
    MetFree l mY8 (head1 (Jvm.Cond.code mY8 prog_45_method_6_code 5 (some (.object "java/util/Optional")) :: ws) ({ frames := 1, cells := 0, slots := 0, locals := 12 } : Room)) (fun a U => a = #[(.ref (w 0)), (.ref (w 2)), (.ref (w 2))] ∧ Z.Warmed39 U.vm ∧ U.heap = h0) (fun _ _ _ _ _ => True) (fun _ U o U' => ∃ v L, o = .returned v ∧ Q_ty_022 Z  w h0 n0 v U'.heap L ∧ FrameEnd U o U' L ({ frames := 1, cells := 0, slots := 0, locals := 12 } : Room).cells ({ frames := 1, cells := 0, slots := 0, locals := 12 } : Room).slots) := by
  refine MetFree.of_bodySF (plainFor_of_name pn_4) hisR ?_
  intro p e s m args below meth c s₁ Bd hml0 hP hK
  obtain ⟨rfl, hZ, hh⟩ := hP
  have hx := Bd.exec
  have hby := Bd.bytes
  have hml : c.maxLocals = 5 := hml0
  have hown : s.vm.findClass "com/example/planwright/planwright/model/Expression$Operator" = some m.cls := findClass_of_methodNamed Bd.named
  have hnm := (name_of_methodNamed Bd.named Bd.method).1
  have X0 : Stand p l e ({ frames := 1, cells := 0, slots := 0, locals := 12 } : Room) s m #[(.ref (w 0)), (.ref (w 2)), (.ref (w 2))] below meth c s₁ [] 0 0 := Stand.of_body Bd
  have e0 : s₁.heap = h0 := by rw [← hh, Bd.state]; rfl
  have N0 := Fr.nil n0
  show oG p e below s (Q_ty_022 Z  w h0 n0) ({ frames := 1, cells := 0, slots := 0, locals := 12 } : Room).cells ({ frames := 1, cells := 0, slots := 0, locals := 12 } : Room).slots _
  refine oS (fun t k => castTop (ef_3_rrr m (w 0) (w 2) (w 2)) k) ?_
  show oG _ _ _ _ _ _ _ (s₁.setTop (mkF m 0 #[.val (.ref (w 0)), .val (.ref (w 2)), .val (.ref (w 2)), .unset, .unset] []))
  obtain ⟨T1, X1, e1, st1⟩ := getS2 X0 hx hZ hown (host := "") (Or.inl (oW hw 22 rfl)) Via.refl e0 ((wS1 W).ext O0.2) (g := (mkF m 0 #[.val (.ref (w 0)), .val (.ref (w 2)), .val (.ref (w 2)), .unset, .unset] [])) rfl (hb hby d3_0)
  refine oS (fun t k => st1 t k) ?_
  try clear st1
  refine oS (fun t k => XS.astoreN X1.here hx rfl (hb hby d3_3) rfl rfl (l' := #[.val (.ref (w 0)), .val (.ref (w 2)), .val (.ref (w 2)), .val (.ref (w 1)), .unset]) rfl k) ?_
  obtain ⟨T2, X2, e2, st2⟩ := getS2 X1 hx hZ hown (host := "") (Or.inl (oW hw 23 rfl)) Via.refl e1 ((wS3 W).ext O0.2) (g := (mkF m 4 #[.val (.ref (w 0)), .val (.ref (w 2)), .val (.ref (w 2)), .val (.ref (w 1)), .unset] [])) rfl (hb hby d3_4)
  refine oS (fun t k => st2 t k) ?_
  try clear st2 X1 e1
  try clear T1
  refine oS (fun t k => XS.astore X2.here hx rfl (hb hby d3_7) rfl rfl (l' := #[.val (.ref (w 0)), .val (.ref (w 2)), .val (.ref (w 2)), .val (.ref (w 1)), .val (.ref (w 3))]) rfl k) ?_
  refine oS (fun t k => XS.aloadN X2.here hx rfl (hb hby d3_9) rfl rfl k) ?_
  show oG _ _ _ _ _ _ _ (T2.setTop (mkF m 10 #[.val (.ref (w 0)), .val (.ref (w 2)), .val (.ref (w 2)), .val (.ref (w 1)), .val (.ref (w 3))] [(.ref (w 2))]))
  refine oS (fun t k => XS.aloadN X2.here hx rfl (hb hby d3_10) rfl rfl k) ?_
  refine oS (fun t k => Jvm.RoadKit.acmp (g := (mkF m 11 #[.val (.ref (w 0)), .val (.ref (w 2)), .val (.ref (w 2)), .val (.ref (w 1)), .val (.ref (w 3))] [(.ref (w 1)), (.ref (w 2))])) X2 hx rfl rfl rfl (pc0 := 11) (pc' := 24) (same := false) rfl (hb hby d3_11) rfl (decide_eq_false fun q => (own_neI (wF2_ordinal W) (wF1_ordinal W) (by decide)) (Value.ref.inj q)) (by decide) (by decide) k) ?_
  refine oS (fun t k => XS.aloadN X2.here hx rfl (hb hby d3_24) rfl rfl k) ?_
  obtain ⟨cq3, kq3, q3a, q3b, q3c⟩ := isOf hZ e2 ((wE0 W).ext O0.2)
  obtain ⟨_, _, ⟨T3, L3, k3, n3⟩, -, X3, ⟨Lc3, hQ3, l3, y3, z3⟩, st3⟩ := X2.virtualBackUp hx (x := mY9) (y := mY1) hown (mvT hZ (oW hw 25 rfl)) (mvT hZ (oW hw 26 rfl)) (mvT hZ (oW hw 27 rfl)) (by decide) (mvT hZ (oW hw 29 rfl)) (mvT hZ (oW hw 28 rfl)) (backOf (W := 0) (rm_ord_0 l Z a0 hw []  w h0 n0 O0 W ) hZ (oW hw 31 rfl) (oW hw 30 rfl) (by decide) (by decide)) q3a q3c (g := (mkF m 25 #[.val (.ref (w 0)), .val (.ref (w 2)), .val (.ref (w 2)), .val (.ref (w 1)), .val (.ref (w 3))] [(.ref (w 0))])) rfl (by rw [hml]; rfl) (Steps.refl _) (argsL := []) (rest := []) (lenOf pd_3 rfl) rfl (by show 2 * 0 + _ ≤ _; exact Nat.le_of_eq rfl) (hb hby d3_25) (fun _ _ => ⟨rfl, e2, (by decide : 0 + 0 ≤ _), (by decide : 0 + 0 ≤ _)⟩)
  dsimp only [Pt.U, Pt.locs, Pt.cells, Pt.slots] at X3 l3 y3 z3 st3 hQ3
  rw [l3, y3, z3] at X3
  clear l3 y3 z3
  obtain ⟨rfl, Nq3, e3⟩ := hQ3
  have N3 := Fr.app N0 Nq3
  refine oS (fun t k => st3.trans k) ?_
  show oG _ _ _ _ _ _ _ (T3.setTop (mkF m 28 #[.val (.ref (w 0)), .val (.ref (w 2)), .val (.ref (w 2)), .val (.ref (w 1)), .val (.ref (w 3))] [(.int 0)]))
  try clear st3 X2 e2
  try clear T2
  refine oS (fun t k => XS.tswIn X3.here hx rfl (pc0 := 28) (pc' := 70) rfl (hb hby d3_28) (i := (0 : Int32)) rfl (by decide) (o := 42) rfl (by decide) (by decide) k) ?_
  refine oS (fun t k => XS.aloadN X3.here hx rfl (hb hby d3_70) rfl rfl k) ?_
  refine oS (fun t k => XS.aload X3.here hx rfl (hb hby d3_71) rfl rfl k) ?_
  refine oS (fun t k => Jvm.RoadKit.acmp (g := (mkF m 73 #[.val (.ref (w 0)), .val (.ref (w 2)), .val (.ref (w 2)), .val (.ref (w 1)), .val (.ref (w 3))] [(.ref (w 3)), (.ref (w 2))])) X3 hx rfl rfl rfl (pc0 := 73) (pc' := 81) (same := false) rfl (hb hby d3_73) rfl (decide_eq_false fun q => (own_neI (wF2_ordinal W) (wF3_ordinal W) (by decide)) (Value.ref.inj q)) (by decide) (by decide) k) ?_
  refine oS (fun t k => XS.aloadN X3.here hx rfl (hb hby d3_81) rfl rfl k) ?_
  show oG _ _ _ _ _ _ _ (T3.setTop (mkF m 82 #[.val (.ref (w 0)), .val (.ref (w 2)), .val (.ref (w 2)), .val (.ref (w 1)), .val (.ref (w 3))] [(.ref (w 2))]))
  refine oS (fun t k => XS.aloadN X3.here hx rfl (hb hby d3_82) rfl rfl k) ?_
  refine oS (fun t k => Jvm.RoadKit.acmp (g := (mkF m 83 #[.val (.ref (w 0)), .val (.ref (w 2)), .val (.ref (w 2)), .val (.ref (w 1)), .val (.ref (w 3))] [(.ref (w 1)), (.ref (w 2))])) X3 hx rfl rfl rfl (pc0 := 83) (pc' := 97) (same := false) rfl (hb hby d3_83) rfl (decide_eq_false fun q => (own_neI (wF2_ordinal W) (wF1_ordinal W) (by decide)) (Value.ref.inj q)) (by decide) (by decide) k) ?_
  refine oS (fun t k => XS.aconstNull X3.here hx rfl (hb hby d3_97) k) ?_
  refine oS (fun t k => XS.goto X3.here hx rfl (pc0 := 98) (pc' := 138) rfl (hb hby d3_98) (by decide) (by decide) k) ?_
  obtain ⟨_, _, ⟨T4, L4, k4, n4⟩, -, X4, ⟨Lc4, hQ4, l4, y4, z4⟩, st4⟩ := Jvm.LawKit.callS X3 hx (y := mY6) hown (mvT hZ (oW hw 34 rfl)) (mvT hZ (oW hw 35 rfl)) (mvT hZ (oW hw 36 rfl)) (mvT hZ (oW hw 37 rfl)) (by decide) (backOf (W := 0) (rm_ofN0 l Z a0 hw []  w h0 n0 O0 W ) hZ (oW hw 37 rfl) (oW hw 36 rfl) (by decide) (by decide)) (g := (mkF m 138 #[.val (.ref (w 0)), .val (.ref (w 2)), .val (.ref (w 2)), .val (.ref (w 1)), .val (.ref (w 3))] [.null])) rfl (by rw [hml]; rfl) (argsL := [.null]) (rest := []) (lenOf pd_2 rfl) rfl (by show 2 * 0 + _ ≤ _; exact Nat.le_of_eq rfl) (hb hby d3_138) (fun _ _ => ⟨rfl, e3, (by decide : 0 + 0 ≤ _), (by decide : 0 + 0 ≤ _)⟩)
  dsimp only [Pt.U, Pt.locs, Pt.cells, Pt.slots] at X4 l4 y4 z4 st4 hQ4
  rw [l4, y4, z4] at X4
  clear l4 y4 z4
  obtain ⟨rfl, Nq4, e4⟩ := hQ4
  have N4 := Fr.app N3 Nq4
  refine oS (fun t k => st4 t k) ?_
  show oG _ _ _ _ _ _ _ (T4.setTop (mkF m 141 #[.val (.ref (w 0)), .val (.ref (w 2)), .val (.ref (w 2)), .val (.ref (w 1)), .val (.ref (w 3))] [(.ref (w 7))]))
  try clear st4 X3 e3
  exact own_ret (v := some (.ref (w 7))) X4 (fun h => by rw [Bd.returns] at h; cases h) Bd.notSynchronized (fun fs hr => retOut X4 hx (t := (.object "java/util/Optional")) Bd.returns rfl (Or.inr (Or.inr (Or.inr (Or.inr ⟨rfl, rfl, rfl⟩)))) (hb hby d3_141) hr) (by rw [e4]; exact ⟨rfl, N4, rfl⟩) (by decide) (by decide)
def Q_ty_100 (Z : State)  (w : Nat → Addr) (h0 : Heap) (n0 : Nat) (v : Option Value) (h : Heap) (L : List Loc) : Prop := ∃ r : Addr, v = some (.ref r) ∧ Fr n0 L ∧ Keep h0 h [] ∧ h0.size ≤ r ∧ Exa Z h r "java/util/Optional" ∧ Fld Z h r "java/util/Optional" "value" "Ljava/lang/Object;" (.ref (w 1))
set_option maxRecDepth 65536 in
set_option maxHeartbeats 40000000 in
theorem rm_ty_100 (l : Launch) (Z : State) (a0 : Array Value) (hw : ∀ d ∈ tables_1, d.before a0 Z = true) (ws : List Jvm.Cond)  (w : Nat → Addr) (h0 : Heap) (n0 : Nat) (O0 : Old Z n0 h0) (W : own_World Z w) :
    MetFree l mY8 (head1 (Jvm.Cond.code mY8 prog_45_method_6_code 5 (some (.object "java/util/Optional")) :: ws) ({ frames := 3, cells := 1, slots := 1, locals := 38 } : Room)) (fun a U => a = #[(.ref (w 4)), (.ref (w 1)), (.ref (w 1))] ∧ Z.Warmed39 U.vm ∧ U.heap = h0) (fun _ _ _ _ _ => True) (fun _ U o U' => ∃ v L, o = .returned v ∧ Q_ty_100 Z  w h0 n0 v U'.heap L ∧ FrameEnd U o U' L ({ frames := 3, cells := 1, slots := 1, locals := 38 } : Room).cells ({ frames := 3, cells := 1, slots := 1, locals := 38 } : Room).slots) := by
  refine MetFree.of_bodySF (plainFor_of_name pn_4) hisR ?_
  intro p e s m args below meth c s₁ Bd hml0 hP hK
  obtain ⟨rfl, hZ, hh⟩ := hP
  have hx := Bd.exec
  have hby := Bd.bytes
  have hml : c.maxLocals = 5 := hml0
  have hown : s.vm.findClass "com/example/planwright/planwright/model/Expression$Operator" = some m.cls := findClass_of_methodNamed Bd.named
  have hnm := (name_of_methodNamed Bd.named Bd.method).1
  have X0 : Stand p l e ({ frames := 3, cells := 1, slots := 1, locals := 38 } : Room) s m #[(.ref (w 4)), (.ref (w 1)), (.ref (w 1))] below meth c s₁ [] 0 0 := Stand.of_body Bd
  have e0 : s₁.heap = h0 := by rw [← hh, Bd.state]; rfl
  have N0 := Fr.nil n0
  show oG p e below s (Q_ty_100 Z  w h0 n0) ({ frames := 3, cells := 1, slots := 1, locals := 38 } : Room).cells ({ frames := 3, cells := 1, slots := 1, locals := 38 } : Room).slots _
  refine oS (fun t k => castTop (ef_3_rrr m (w 4) (w 1) (w 1)) k) ?_
  show oG _ _ _ _ _ _ _ (s₁.setTop (mkF m 0 #[.val (.ref (w 4)), .val (.ref (w 1)), .val (.ref (w 1)), .unset, .unset] []))
  obtain ⟨T1, X1, e1, st1⟩ := getS2 X0 hx hZ hown (host := "") (Or.inl (oW hw 22 rfl)) Via.refl e0 ((wS1 W).ext O0.2) (g := (mkF m 0 #[.val (.ref (w 4)), .val (.ref (w 1)), .val (.ref (w 1)), .unset, .unset] [])) rfl (hb hby d3_0)
  refine oS (fun t k => st1 t k) ?_
  try clear st1
  refine oS (fun t k => XS.astoreN X1.here hx rfl (hb hby d3_3) rfl rfl (l' := #[.val (.ref (w 4)), .val (.ref (w 1)), .val (.ref (w 1)), .val (.ref (w 1)), .unset]) rfl k) ?_
  obtain ⟨T2, X2, e2, st2⟩ := getS2 X1 hx hZ hown (host := "") (Or.inl (oW hw 23 rfl)) Via.refl e1 ((wS3 W).ext O0.2) (g := (mkF m 4 #[.val (.ref (w 4)), .val (.ref (w 1)), .val (.ref (w 1)), .val (.ref (w 1)), .unset] [])) rfl (hb hby d3_4)
  refine oS (fun t k => st2 t k) ?_
  try clear st2 X1 e1
  try clear T1
  refine oS (fun t k => XS.astore X2.here hx rfl (hb hby d3_7) rfl rfl (l' := #[.val (.ref (w 4)), .val (.ref (w 1)), .val (.ref (w 1)), .val (.ref (w 1)), .val (.ref (w 3))]) rfl k) ?_
  refine oS (fun t k => XS.aloadN X2.here hx rfl (hb hby d3_9) rfl rfl k) ?_
  show oG _ _ _ _ _ _ _ (T2.setTop (mkF m 10 #[.val (.ref (w 4)), .val (.ref (w 1)), .val (.ref (w 1)), .val (.ref (w 1)), .val (.ref (w 3))] [(.ref (w 1))]))
  refine oS (fun t k => XS.aloadN X2.here hx rfl (hb hby d3_10) rfl rfl k) ?_
  refine oS (fun t k => Jvm.RoadKit.acmp (g := (mkF m 11 #[.val (.ref (w 4)), .val (.ref (w 1)), .val (.ref (w 1)), .val (.ref (w 1)), .val (.ref (w 3))] [(.ref (w 1)), (.ref (w 1))])) X2 hx rfl rfl rfl (pc0 := 11) (pc' := 14) (same := true) rfl (hb hby d3_11) rfl (decide_eq_true rfl) (by decide) (by decide) k) ?_
  refine oS (fun t k => XS.aloadN X2.here hx rfl (hb hby d3_14) rfl rfl k) ?_
  refine oS (fun t k => XS.aloadN X2.here hx rfl (hb hby d3_15) rfl rfl k) ?_
  refine oS (fun t k => Jvm.RoadKit.acmp (g := (mkF m 16 #[.val (.ref (w 4)), .val (.ref (w 1)), .val (.ref (w 1)), .val (.ref (w 1)), .val (.ref (w 3))] [(.ref (w 1)), (.ref (w 1))])) X2 hx rfl rfl rfl (pc0 := 16) (pc' := 19) (same := true) rfl (hb hby d3_16) rfl (decide_eq_true rfl) (by decide) (by decide) k) ?_
  show oG _ _ _ _ _ _ _ (T2.setTop (mkF m 19 #[.val (.ref (w 4)), .val (.ref (w 1)), .val (.ref (w 1)), .val (.ref (w 1)), .val (.ref (w 3))] []))
  refine oS (fun t k => XS.aloadN X2.here hx rfl (hb hby d3_19) rfl rfl k) ?_
  obtain ⟨_, _, ⟨T3, L3, k3, n3⟩, -, X3, ⟨Lc3, hQ3, l3, y3, z3⟩, st3⟩ := Jvm.LawKit.callS X2 hx (y := mY5) hown (mvT hZ (oW hw 48 rfl)) (mvT hZ (oW hw 49 rfl)) (mvT hZ (oW hw 36 rfl)) (mvT hZ (oW hw 50 rfl)) (by decide) (backOf (W := 0) (rm_of l Z a0 hw [] (w 1) w h0 n0 O0 W ) hZ (oW hw 50 rfl) (oW hw 36 rfl) (by decide) (by decide)) (g := (mkF m 20 #[.val (.ref (w 4)), .val (.ref (w 1)), .val (.ref (w 1)), .val (.ref (w 1)), .val (.ref (w 3))] [(.ref (w 1))])) rfl (by rw [hml]; rfl) (argsL := [(.ref (w 1))]) (rest := []) (lenOf pd_2 rfl) rfl (by show 2 * 0 + _ ≤ _; exact Nat.le_of_eq rfl) (hb hby d3_20) (fun _ _ => ⟨rfl, e2, (by decide : 0 + 1 ≤ _), (by decide : 0 + 1 ≤ _)⟩)
  dsimp only [Pt.U, Pt.locs, Pt.cells, Pt.slots] at X3 l3 y3 z3 st3 hQ3
  rw [l3, y3, z3] at X3
  clear l3 y3 z3
  obtain ⟨r3, rfl, Nq3, K3, sr3, P3_0, P3_1⟩ := hQ3
  have N3 := Fr.app N0 Nq3
  have O3 := O0.keep K3 (fun x q => absurd q List.not_mem_nil)
  have Kp3 : Keep h0 T3.heap [] := (Keep.refl h0 []).trans K3 (fun x q => absurd q List.not_mem_nil)
  have gr3 : n0 ≤ r3 := Nat.le_trans (O0.1 ▸ O0.2.1) sr3
  have szr3 : h0.size ≤ r3 := Nat.le_trans (Nat.le_refl _) sr3
  refine oS (fun t k => st3 t k) ?_
  show oG _ _ _ _ _ _ _ (T3.setTop (mkF m 23 #[.val (.ref (w 4)), .val (.ref (w 1)), .val (.ref (w 1)), .val (.ref (w 1)), .val (.ref (w 3))] [(.ref r3)]))
  try clear st3 X2 e2
  try clear T2
  exact own_ret (v := some (.ref r3)) X3 (fun h => by rw [Bd.returns] at h; cases h) Bd.notSynchronized (fun fs hr => retOut X3 hx (t := (.object "java/util/Optional")) Bd.returns rfl (Or.inr (Or.inr (Or.inr (Or.inr ⟨rfl, rfl, rfl⟩)))) (hb hby d3_23) hr) (by exact ⟨r3, rfl, N3, Kp3, szr3, P3_0, P3_1⟩) (by decide) (by decide)
theorem d3_101 : decode prog_45_method_6_code 101 = .ok (.aload_n 1, 1) := by decide +kernel
theorem d3_102 : decode prog_45_method_6_code 102 = .ok (.aload 4, 2) := by decide +kernel
theorem d3_104 : decode prog_45_method_6_code 104 = .ok (.if_acmp .ne 13, 3) := by decide +kernel
theorem d3_117 : decode prog_45_method_6_code 117 = .ok (.aload_n 1, 1) := by decide +kernel
theorem d3_118 : decode prog_45_method_6_code 118 = .ok (.aload 4, 2) := by decide +kernel
theorem d3_120 : decode prog_45_method_6_code 120 = .ok (.if_acmp .ne 13, 3) := by decide +kernel
theorem d3_133 : decode prog_45_method_6_code 133 = .ok (.aconst_null, 1) := by decide +kernel
theorem d3_134 : decode prog_45_method_6_code 134 = .ok (.goto 4, 3) := by decide +kernel
def Q_ty_101 (Z : State)  (w : Nat → Addr) (h0 : Heap) (n0 : Nat) (v : Option Value) (h : Heap) (L : List Loc) : Prop := v = some (.ref (w 7)) ∧ Fr n0 L ∧ h = h0
set_option maxRecDepth 65536 in
set_option maxHeartbeats 40000000 in
theorem rm_ty_101 (l : Launch) (Z : State) (a0 : Array Value) (hw : ∀ d ∈ tables_1, d.before a0 Z = true) (ws : List Jvm.Cond)  (w : Nat → Addr) (h0 : Heap) (n0 : Nat) (O0 : Old Z n0 h0) (W : own_World Z w) :
    MetFree l mY8 (head1 (Jvm.Cond.code mY8 prog_45_method_6_code 5 (some (.object "java/util/Optional")) :: ws) ({ frames := 1, cells := 0, slots := 0, locals := 12 } : Room)) (fun a U => a = #[(.ref (w 4)), (.ref (w 1)), (.ref (w 3))] ∧ Z.Warmed39 U.vm ∧ U.heap = h0) (fun _ _ _ _ _ => True) (fun _ U o U' => ∃ v L, o = .returned v ∧ Q_ty_101 Z  w h0 n0 v U'.heap L ∧ FrameEnd U o U' L ({ frames := 1, cells := 0, slots := 0, locals := 12 } : Room).cells ({ frames := 1, cells := 0, slots := 0, locals := 12 } : Room).slots) := by
  refine MetFree.of_bodySF (plainFor_of_name pn_4) hisR ?_
  intro p e s m args below meth c s₁ Bd hml0 hP hK
  obtain ⟨rfl, hZ, hh⟩ := hP
  have hx := Bd.exec
  have hby := Bd.bytes
  have hml : c.maxLocals = 5 := hml0
  have hown : s.vm.findClass "com/example/planwright/planwright/model/Expression$Operator" = some m.cls := findClass_of_methodNamed Bd.named
  have hnm := (name_of_methodNamed Bd.named Bd.method).1
  have X0 : Stand p l e ({ frames := 1, cells := 0, slots := 0, locals := 12 } : Room) s m #[(.ref (w 4)), (.ref (w 1)), (.ref (w 3))] below meth c s₁ [] 0 0 := Stand.of_body Bd
  have e0 : s₁.heap = h0 := by rw [← hh, Bd.state]; rfl
  have N0 := Fr.nil n0
  show oG p e below s (Q_ty_101 Z  w h0 n0) ({ frames := 1, cells := 0, slots := 0, locals := 12 } : Room).cells ({ frames := 1, cells := 0, slots := 0, locals := 12 } : Room).slots _
  refine oS (fun t k => castTop (ef_3_rrr m (w 4) (w 1) (w 3)) k) ?_
  show oG _ _ _ _ _ _ _ (s₁.setTop (mkF m 0 #[.val (.ref (w 4)), .val (.ref (w 1)), .val (.ref (w 3)), .unset, .unset] []))
  obtain ⟨T1, X1, e1, st1⟩ := getS2 X0 hx hZ hown (host := "") (Or.inl (oW hw 22 rfl)) Via.refl e0 ((wS1 W).ext O0.2) (g := (mkF m 0 #[.val (.ref (w 4)), .val (.ref (w 1)), .val (.ref (w 3)), .unset, .unset] [])) rfl (hb hby d3_0)
  refine oS (fun t k => st1 t k) ?_
  try clear st1
  refine oS (fun t k => XS.astoreN X1.here hx rfl (hb hby d3_3) rfl rfl (l' := #[.val (.ref (w 4)), .val (.ref (w 1)), .val (.ref (w 3)), .val (.ref (w 1)), .unset]) rfl k) ?_
  obtain ⟨T2, X2, e2, st2⟩ := getS2 X1 hx hZ hown (host := "") (Or.inl (oW hw 23 rfl)) Via.refl e1 ((wS3 W).ext O0.2) (g := (mkF m 4 #[.val (.ref (w 4)), .val (.ref (w 1)), .val (.ref (w 3)), .val (.ref (w 1)), .unset] [])) rfl (hb hby d3_4)
  refine oS (fun t k => st2 t k) ?_
  try clear st2 X1 e1
  try clear T1
  refine oS (fun t k => XS.astore X2.here hx rfl (hb hby d3_7) rfl rfl (l' := #[.val (.ref (w 4)), .val (.ref (w 1)), .val (.ref (w 3)), .val (.ref (w 1)), .val (.ref (w 3))]) rfl k) ?_
  refine oS (fun t k => XS.aloadN X2.here hx rfl (hb hby d3_9) rfl rfl k) ?_
  show oG _ _ _ _ _ _ _ (T2.setTop (mkF m 10 #[.val (.ref (w 4)), .val (.ref (w 1)), .val (.ref (w 3)), .val (.ref (w 1)), .val (.ref (w 3))] [(.ref (w 1))]))
  refine oS (fun t k => XS.aloadN X2.here hx rfl (hb hby d3_10) rfl rfl k) ?_
  refine oS (fun t k => Jvm.RoadKit.acmp (g := (mkF m 11 #[.val (.ref (w 4)), .val (.ref (w 1)), .val (.ref (w 3)), .val (.ref (w 1)), .val (.ref (w 3))] [(.ref (w 1)), (.ref (w 1))])) X2 hx rfl rfl rfl (pc0 := 11) (pc' := 14) (same := true) rfl (hb hby d3_11) rfl (decide_eq_true rfl) (by decide) (by decide) k) ?_
  refine oS (fun t k => XS.aloadN X2.here hx rfl (hb hby d3_14) rfl rfl k) ?_
  refine oS (fun t k => XS.aloadN X2.here hx rfl (hb hby d3_15) rfl rfl k) ?_
  refine oS (fun t k => Jvm.RoadKit.acmp (g := (mkF m 16 #[.val (.ref (w 4)), .val (.ref (w 1)), .val (.ref (w 3)), .val (.ref (w 1)), .val (.ref (w 3))] [(.ref (w 1)), (.ref (w 3))])) X2 hx rfl rfl rfl (pc0 := 16) (pc' := 24) (same := false) rfl (hb hby d3_16) rfl (decide_eq_false fun q => (own_neI (wF3_ordinal W) (wF1_ordinal W) (by decide)) (Value.ref.inj q)) (by decide) (by decide) k) ?_
  show oG _ _ _ _ _ _ _ (T2.setTop (mkF m 24 #[.val (.ref (w 4)), .val (.ref (w 1)), .val (.ref (w 3)), .val (.ref (w 1)), .val (.ref (w 3))] []))
  refine oS (fun t k => XS.aloadN X2.here hx rfl (hb hby d3_24) rfl rfl k) ?_
  obtain ⟨cq3, kq3, q3a, q3b, q3c⟩ := isOf hZ e2 ((wE4 W).ext O0.2)
  obtain ⟨_, _, ⟨T3, L3, k3, n3⟩, -, X3, ⟨Lc3, hQ3, l3, y3, z3⟩, st3⟩ := X2.virtualBackUp hx (x := mY9) (y := mY1) hown (mvT hZ (oW hw 25 rfl)) (mvT hZ (oW hw 26 rfl)) (mvT hZ (oW hw 27 rfl)) (by decide) (mvT hZ (oW hw 29 rfl)) (mvT hZ (oW hw 28 rfl)) (backOf (W := 0) (rm_ord_1 l Z a0 hw []  w h0 n0 O0 W ) hZ (oW hw 31 rfl) (oW hw 30 rfl) (by decide) (by decide)) q3a q3c (g := (mkF m 25 #[.val (.ref (w 4)), .val (.ref (w 1)), .val (.ref (w 3)), .val (.ref (w 1)), .val (.ref (w 3))] [(.ref (w 4))])) rfl (by rw [hml]; rfl) (Steps.refl _) (argsL := []) (rest := []) (lenOf pd_3 rfl) rfl (by show 2 * 0 + _ ≤ _; exact Nat.le_of_eq rfl) (hb hby d3_25) (fun _ _ => ⟨rfl, e2, (by decide : 0 + 0 ≤ _), (by decide : 0 + 0 ≤ _)⟩)
  dsimp only [Pt.U, Pt.locs, Pt.cells, Pt.slots] at X3 l3 y3 z3 st3 hQ3
  rw [l3, y3, z3] at X3
  clear l3 y3 z3
  obtain ⟨rfl, Nq3, e3⟩ := hQ3
  have N3 := Fr.app N0 Nq3
  refine oS (fun t k => st3.trans k) ?_
  show oG _ _ _ _ _ _ _ (T3.setTop (mkF m 28 #[.val (.ref (w 4)), .val (.ref (w 1)), .val (.ref (w 3)), .val (.ref (w 1)), .val (.ref (w 3))] [(.int 1)]))
  try clear st3 X2 e2
  try clear T2
  refine oS (fun t k => XS.tswIn X3.here hx rfl (pc0 := 28) (pc' := 101) rfl (hb hby d3_28) (i := (1 : Int32)) rfl (by decide) (o := 73) rfl (by decide) (by decide) k) ?_
  refine oS (fun t k => XS.aloadN X3.here hx rfl (hb hby d3_101) rfl rfl k) ?_
  refine oS (fun t k => XS.aload X3.here hx rfl (hb hby d3_102) rfl rfl k) ?_
  refine oS (fun t k => Jvm.RoadKit.acmp (g := (mkF m 104 #[.val (.ref (w 4)), .val (.ref (w 1)), .val (.ref (w 3)), .val (.ref (w 1)), .val (.ref (w 3))] [(.ref (w 3)), (.ref (w 1))])) X3 hx rfl rfl rfl (pc0 := 104) (pc' := 117) (same := false) rfl (hb hby d3_104) rfl (decide_eq_false fun q => (own_neI (wF1_ordinal W) (wF3_ordinal W) (by decide)) (Value.ref.inj q)) (by decide) (by decide) k) ?_
  refine oS (fun t k => XS.aloadN X3.here hx rfl (hb hby d3_117) rfl rfl k) ?_
  show oG _ _ _ _ _ _ _ (T3.setTop (mkF m 118 #[.val (.ref (w 4)), .val (.ref (w 1)), .val (.ref (w 3)), .val (.ref (w 1)), .val (.ref (w 3))] [(.ref (w 1))]))
  refine oS (fun t k => XS.aload X3.here hx rfl (hb hby d3_118) rfl rfl k) ?_
  refine oS (fun t k => Jvm.RoadKit.acmp (g := (mkF m 120 #[.val (.ref (w 4)), .val (.ref (w 1)), .val (.ref (w 3)), .val (.ref (w 1)), .val (.ref (w 3))] [(.ref (w 3)), (.ref (w 1))])) X3 hx rfl rfl rfl (pc0 := 120) (pc' := 133) (same := false) rfl (hb hby d3_120) rfl (decide_eq_false fun q => (own_neI (wF1_ordinal W) (wF3_ordinal W) (by decide)) (Value.ref.inj q)) (by decide) (by decide) k) ?_
  refine oS (fun t k => XS.aconstNull X3.here hx rfl (hb hby d3_133) k) ?_
  refine oS (fun t k => XS.goto X3.here hx rfl (pc0 := 134) (pc' := 138) rfl (hb hby d3_134) (by decide) (by decide) k) ?_
  obtain ⟨_, _, ⟨T4, L4, k4, n4⟩, -, X4, ⟨Lc4, hQ4, l4, y4, z4⟩, st4⟩ := Jvm.LawKit.callS X3 hx (y := mY6) hown (mvT hZ (oW hw 34 rfl)) (mvT hZ (oW hw 35 rfl)) (mvT hZ (oW hw 36 rfl)) (mvT hZ (oW hw 37 rfl)) (by decide) (backOf (W := 0) (rm_ofN0 l Z a0 hw []  w h0 n0 O0 W ) hZ (oW hw 37 rfl) (oW hw 36 rfl) (by decide) (by decide)) (g := (mkF m 138 #[.val (.ref (w 4)), .val (.ref (w 1)), .val (.ref (w 3)), .val (.ref (w 1)), .val (.ref (w 3))] [.null])) rfl (by rw [hml]; rfl) (argsL := [.null]) (rest := []) (lenOf pd_2 rfl) rfl (by show 2 * 0 + _ ≤ _; exact Nat.le_of_eq rfl) (hb hby d3_138) (fun _ _ => ⟨rfl, e3, (by decide : 0 + 0 ≤ _), (by decide : 0 + 0 ≤ _)⟩)
  dsimp only [Pt.U, Pt.locs, Pt.cells, Pt.slots] at X4 l4 y4 z4 st4 hQ4
  rw [l4, y4, z4] at X4
  clear l4 y4 z4
  obtain ⟨rfl, Nq4, e4⟩ := hQ4
  have N4 := Fr.app N3 Nq4
  refine oS (fun t k => st4 t k) ?_
  show oG _ _ _ _ _ _ _ (T4.setTop (mkF m 141 #[.val (.ref (w 4)), .val (.ref (w 1)), .val (.ref (w 3)), .val (.ref (w 1)), .val (.ref (w 3))] [(.ref (w 7))]))
  try clear st4 X3 e3
  exact own_ret (v := some (.ref (w 7))) X4 (fun h => by rw [Bd.returns] at h; cases h) Bd.notSynchronized (fun fs hr => retOut X4 hx (t := (.object "java/util/Optional")) Bd.returns rfl (Or.inr (Or.inr (Or.inr (Or.inr ⟨rfl, rfl, rfl⟩)))) (hb hby d3_141) hr) (by rw [e4]; exact ⟨rfl, N4, rfl⟩) (by decide) (by decide)
def Q_ty_102 (Z : State)  (w : Nat → Addr) (h0 : Heap) (n0 : Nat) (v : Option Value) (h : Heap) (L : List Loc) : Prop := v = some (.ref (w 7)) ∧ Fr n0 L ∧ h = h0
set_option maxRecDepth 65536 in
set_option maxHeartbeats 40000000 in
theorem rm_ty_102 (l : Launch) (Z : State) (a0 : Array Value) (hw : ∀ d ∈ tables_1, d.before a0 Z = true) (ws : List Jvm.Cond)  (w : Nat → Addr) (h0 : Heap) (n0 : Nat) (O0 : Old Z n0 h0) (W : own_World Z w) :
    MetFree l mY8 (head1 (Jvm.Cond.code mY8 prog_45_method_6_code 5 (some (.object "java/util/Optional")) :: ws) ({ frames := 1, cells := 0, slots := 0, locals := 12 } : Room)) (fun a U => a = #[(.ref (w 4)), (.ref (w 1)), (.ref (w 2))] ∧ Z.Warmed39 U.vm ∧ U.heap = h0) (fun _ _ _ _ _ => True) (fun _ U o U' => ∃ v L, o = .returned v ∧ Q_ty_102 Z  w h0 n0 v U'.heap L ∧ FrameEnd U o U' L ({ frames := 1, cells := 0, slots := 0, locals := 12 } : Room).cells ({ frames := 1, cells := 0, slots := 0, locals := 12 } : Room).slots) := by
  refine MetFree.of_bodySF (plainFor_of_name pn_4) hisR ?_
  intro p e s m args below meth c s₁ Bd hml0 hP hK
  obtain ⟨rfl, hZ, hh⟩ := hP
  have hx := Bd.exec
  have hby := Bd.bytes
  have hml : c.maxLocals = 5 := hml0
  have hown : s.vm.findClass "com/example/planwright/planwright/model/Expression$Operator" = some m.cls := findClass_of_methodNamed Bd.named
  have hnm := (name_of_methodNamed Bd.named Bd.method).1
  have X0 : Stand p l e ({ frames := 1, cells := 0, slots := 0, locals := 12 } : Room) s m #[(.ref (w 4)), (.ref (w 1)), (.ref (w 2))] below meth c s₁ [] 0 0 := Stand.of_body Bd
  have e0 : s₁.heap = h0 := by rw [← hh, Bd.state]; rfl
  have N0 := Fr.nil n0
  show oG p e below s (Q_ty_102 Z  w h0 n0) ({ frames := 1, cells := 0, slots := 0, locals := 12 } : Room).cells ({ frames := 1, cells := 0, slots := 0, locals := 12 } : Room).slots _
  refine oS (fun t k => castTop (ef_3_rrr m (w 4) (w 1) (w 2)) k) ?_
  show oG _ _ _ _ _ _ _ (s₁.setTop (mkF m 0 #[.val (.ref (w 4)), .val (.ref (w 1)), .val (.ref (w 2)), .unset, .unset] []))
  obtain ⟨T1, X1, e1, st1⟩ := getS2 X0 hx hZ hown (host := "") (Or.inl (oW hw 22 rfl)) Via.refl e0 ((wS1 W).ext O0.2) (g := (mkF m 0 #[.val (.ref (w 4)), .val (.ref (w 1)), .val (.ref (w 2)), .unset, .unset] [])) rfl (hb hby d3_0)
  refine oS (fun t k => st1 t k) ?_
  try clear st1
  refine oS (fun t k => XS.astoreN X1.here hx rfl (hb hby d3_3) rfl rfl (l' := #[.val (.ref (w 4)), .val (.ref (w 1)), .val (.ref (w 2)), .val (.ref (w 1)), .unset]) rfl k) ?_
  obtain ⟨T2, X2, e2, st2⟩ := getS2 X1 hx hZ hown (host := "") (Or.inl (oW hw 23 rfl)) Via.refl e1 ((wS3 W).ext O0.2) (g := (mkF m 4 #[.val (.ref (w 4)), .val (.ref (w 1)), .val (.ref (w 2)), .val (.ref (w 1)), .unset] [])) rfl (hb hby d3_4)
  refine oS (fun t k => st2 t k) ?_
  try clear st2 X1 e1
  try clear T1
  refine oS (fun t k => XS.astore X2.here hx rfl (hb hby d3_7) rfl rfl (l' := #[.val (.ref (w 4)), .val (.ref (w 1)), .val (.ref (w 2)), .val (.ref (w 1)), .val (.ref (w 3))]) rfl k) ?_
  refine oS (fun t k => XS.aloadN X2.here hx rfl (hb hby d3_9) rfl rfl k) ?_
  show oG _ _ _ _ _ _ _ (T2.setTop (mkF m 10 #[.val (.ref (w 4)), .val (.ref (w 1)), .val (.ref (w 2)), .val (.ref (w 1)), .val (.ref (w 3))] [(.ref (w 1))]))
  refine oS (fun t k => XS.aloadN X2.here hx rfl (hb hby d3_10) rfl rfl k) ?_
  refine oS (fun t k => Jvm.RoadKit.acmp (g := (mkF m 11 #[.val (.ref (w 4)), .val (.ref (w 1)), .val (.ref (w 2)), .val (.ref (w 1)), .val (.ref (w 3))] [(.ref (w 1)), (.ref (w 1))])) X2 hx rfl rfl rfl (pc0 := 11) (pc' := 14) (same := true) rfl (hb hby d3_11) rfl (decide_eq_true rfl) (by decide) (by decide) k) ?_
  refine oS (fun t k => XS.aloadN X2.here hx rfl (hb hby d3_14) rfl rfl k) ?_
  refine oS (fun t k => XS.aloadN X2.here hx rfl (hb hby d3_15) rfl rfl k) ?_
  refine oS (fun t k => Jvm.RoadKit.acmp (g := (mkF m 16 #[.val (.ref (w 4)), .val (.ref (w 1)), .val (.ref (w 2)), .val (.ref (w 1)), .val (.ref (w 3))] [(.ref (w 1)), (.ref (w 2))])) X2 hx rfl rfl rfl (pc0 := 16) (pc' := 24) (same := false) rfl (hb hby d3_16) rfl (decide_eq_false fun q => (own_neI (wF2_ordinal W) (wF1_ordinal W) (by decide)) (Value.ref.inj q)) (by decide) (by decide) k) ?_
  show oG _ _ _ _ _ _ _ (T2.setTop (mkF m 24 #[.val (.ref (w 4)), .val (.ref (w 1)), .val (.ref (w 2)), .val (.ref (w 1)), .val (.ref (w 3))] []))
  refine oS (fun t k => XS.aloadN X2.here hx rfl (hb hby d3_24) rfl rfl k) ?_
  obtain ⟨cq3, kq3, q3a, q3b, q3c⟩ := isOf hZ e2 ((wE4 W).ext O0.2)
  obtain ⟨_, _, ⟨T3, L3, k3, n3⟩, -, X3, ⟨Lc3, hQ3, l3, y3, z3⟩, st3⟩ := X2.virtualBackUp hx (x := mY9) (y := mY1) hown (mvT hZ (oW hw 25 rfl)) (mvT hZ (oW hw 26 rfl)) (mvT hZ (oW hw 27 rfl)) (by decide) (mvT hZ (oW hw 29 rfl)) (mvT hZ (oW hw 28 rfl)) (backOf (W := 0) (rm_ord_1 l Z a0 hw []  w h0 n0 O0 W ) hZ (oW hw 31 rfl) (oW hw 30 rfl) (by decide) (by decide)) q3a q3c (g := (mkF m 25 #[.val (.ref (w 4)), .val (.ref (w 1)), .val (.ref (w 2)), .val (.ref (w 1)), .val (.ref (w 3))] [(.ref (w 4))])) rfl (by rw [hml]; rfl) (Steps.refl _) (argsL := []) (rest := []) (lenOf pd_3 rfl) rfl (by show 2 * 0 + _ ≤ _; exact Nat.le_of_eq rfl) (hb hby d3_25) (fun _ _ => ⟨rfl, e2, (by decide : 0 + 0 ≤ _), (by decide : 0 + 0 ≤ _)⟩)
  dsimp only [Pt.U, Pt.locs, Pt.cells, Pt.slots] at X3 l3 y3 z3 st3 hQ3
  rw [l3, y3, z3] at X3
  clear l3 y3 z3
  obtain ⟨rfl, Nq3, e3⟩ := hQ3
  have N3 := Fr.app N0 Nq3
  refine oS (fun t k => st3.trans k) ?_
  show oG _ _ _ _ _ _ _ (T3.setTop (mkF m 28 #[.val (.ref (w 4)), .val (.ref (w 1)), .val (.ref (w 2)), .val (.ref (w 1)), .val (.ref (w 3))] [(.int 1)]))
  try clear st3 X2 e2
  try clear T2
  refine oS (fun t k => XS.tswIn X3.here hx rfl (pc0 := 28) (pc' := 101) rfl (hb hby d3_28) (i := (1 : Int32)) rfl (by decide) (o := 73) rfl (by decide) (by decide) k) ?_
  refine oS (fun t k => XS.aloadN X3.here hx rfl (hb hby d3_101) rfl rfl k) ?_
  refine oS (fun t k => XS.aload X3.here hx rfl (hb hby d3_102) rfl rfl k) ?_
  refine oS (fun t k => Jvm.RoadKit.acmp (g := (mkF m 104 #[.val (.ref (w 4)), .val (.ref (w 1)), .val (.ref (w 2)), .val (.ref (w 1)), .val (.ref (w 3))] [(.ref (w 3)), (.ref (w 1))])) X3 hx rfl rfl rfl (pc0 := 104) (pc' := 117) (same := false) rfl (hb hby d3_104) rfl (decide_eq_false fun q => (own_neI (wF1_ordinal W) (wF3_ordinal W) (by decide)) (Value.ref.inj q)) (by decide) (by decide) k) ?_
  refine oS (fun t k => XS.aloadN X3.here hx rfl (hb hby d3_117) rfl rfl k) ?_
  show oG _ _ _ _ _ _ _ (T3.setTop (mkF m 118 #[.val (.ref (w 4)), .val (.ref (w 1)), .val (.ref (w 2)), .val (.ref (w 1)), .val (.ref (w 3))] [(.ref (w 1))]))
  refine oS (fun t k => XS.aload X3.here hx rfl (hb hby d3_118) rfl rfl k) ?_
  refine oS (fun t k => Jvm.RoadKit.acmp (g := (mkF m 120 #[.val (.ref (w 4)), .val (.ref (w 1)), .val (.ref (w 2)), .val (.ref (w 1)), .val (.ref (w 3))] [(.ref (w 3)), (.ref (w 1))])) X3 hx rfl rfl rfl (pc0 := 120) (pc' := 133) (same := false) rfl (hb hby d3_120) rfl (decide_eq_false fun q => (own_neI (wF1_ordinal W) (wF3_ordinal W) (by decide)) (Value.ref.inj q)) (by decide) (by decide) k) ?_
  refine oS (fun t k => XS.aconstNull X3.here hx rfl (hb hby d3_133) k) ?_
  refine oS (fun t k => XS.goto X3.here hx rfl (pc0 := 134) (pc' := 138) rfl (hb hby d3_134) (by decide) (by decide) k) ?_
  obtain ⟨_, _, ⟨T4, L4, k4, n4⟩, -, X4, ⟨Lc4, hQ4, l4, y4, z4⟩, st4⟩ := Jvm.LawKit.callS X3 hx (y := mY6) hown (mvT hZ (oW hw 34 rfl)) (mvT hZ (oW hw 35 rfl)) (mvT hZ (oW hw 36 rfl)) (mvT hZ (oW hw 37 rfl)) (by decide) (backOf (W := 0) (rm_ofN0 l Z a0 hw []  w h0 n0 O0 W ) hZ (oW hw 37 rfl) (oW hw 36 rfl) (by decide) (by decide)) (g := (mkF m 138 #[.val (.ref (w 4)), .val (.ref (w 1)), .val (.ref (w 2)), .val (.ref (w 1)), .val (.ref (w 3))] [.null])) rfl (by rw [hml]; rfl) (argsL := [.null]) (rest := []) (lenOf pd_2 rfl) rfl (by show 2 * 0 + _ ≤ _; exact Nat.le_of_eq rfl) (hb hby d3_138) (fun _ _ => ⟨rfl, e3, (by decide : 0 + 0 ≤ _), (by decide : 0 + 0 ≤ _)⟩)
  dsimp only [Pt.U, Pt.locs, Pt.cells, Pt.slots] at X4 l4 y4 z4 st4 hQ4
  rw [l4, y4, z4] at X4
  clear l4 y4 z4
  obtain ⟨rfl, Nq4, e4⟩ := hQ4
  have N4 := Fr.app N3 Nq4
  refine oS (fun t k => st4 t k) ?_
  show oG _ _ _ _ _ _ _ (T4.setTop (mkF m 141 #[.val (.ref (w 4)), .val (.ref (w 1)), .val (.ref (w 2)), .val (.ref (w 1)), .val (.ref (w 3))] [(.ref (w 7))]))
  try clear st4 X3 e3
  exact own_ret (v := some (.ref (w 7))) X4 (fun h => by rw [Bd.returns] at h; cases h) Bd.notSynchronized (fun fs hr => retOut X4 hx (t := (.object "java/util/Optional")) Bd.returns rfl (Or.inr (Or.inr (Or.inr (Or.inr ⟨rfl, rfl, rfl⟩)))) (hb hby d3_141) hr) (by rw [e4]; exact ⟨rfl, N4, rfl⟩) (by decide) (by decide)
theorem d3_107 : decode prog_45_method_6_code 107 = .ok (.aload_n 2, 1) := by decide +kernel
theorem d3_108 : decode prog_45_method_6_code 108 = .ok (.aload_n 3, 1) := by decide +kernel
theorem d3_109 : decode prog_45_method_6_code 109 = .ok (.if_acmp .ne 8, 3) := by decide +kernel
theorem d3_112 : decode prog_45_method_6_code 112 = .ok (.aload 4, 2) := by decide +kernel
theorem d3_114 : decode prog_45_method_6_code 114 = .ok (.goto 24, 3) := by decide +kernel
def Q_ty_110 (Z : State)  (w : Nat → Addr) (h0 : Heap) (n0 : Nat) (v : Option Value) (h : Heap) (L : List Loc) : Prop := ∃ r : Addr, v = some (.ref r) ∧ Fr n0 L ∧ Keep h0 h [] ∧ h0.size ≤ r ∧ Exa Z h r "java/util/Optional" ∧ Fld Z h r "java/util/Optional" "value" "Ljava/lang/Object;" (.ref (w 3))
set_option maxRecDepth 65536 in
set_option maxHeartbeats 40000000 in
theorem rm_ty_110 (l : Launch) (Z : State) (a0 : Array Value) (hw : ∀ d ∈ tables_1, d.before a0 Z = true) (ws : List Jvm.Cond)  (w : Nat → Addr) (h0 : Heap) (n0 : Nat) (O0 : Old Z n0 h0) (W : own_World Z w) :
    MetFree l mY8 (head1 (Jvm.Cond.code mY8 prog_45_method_6_code 5 (some (.object "java/util/Optional")) :: ws) ({ frames := 3, cells := 1, slots := 1, locals := 38 } : Room)) (fun a U => a = #[(.ref (w 4)), (.ref (w 3)), (.ref (w 1))] ∧ Z.Warmed39 U.vm ∧ U.heap = h0) (fun _ _ _ _ _ => True) (fun _ U o U' => ∃ v L, o = .returned v ∧ Q_ty_110 Z  w h0 n0 v U'.heap L ∧ FrameEnd U o U' L ({ frames := 3, cells := 1, slots := 1, locals := 38 } : Room).cells ({ frames := 3, cells := 1, slots := 1, locals := 38 } : Room).slots) := by
  refine MetFree.of_bodySF (plainFor_of_name pn_4) hisR ?_
  intro p e s m args below meth c s₁ Bd hml0 hP hK
  obtain ⟨rfl, hZ, hh⟩ := hP
  have hx := Bd.exec
  have hby := Bd.bytes
  have hml : c.maxLocals = 5 := hml0
  have hown : s.vm.findClass "com/example/planwright/planwright/model/Expression$Operator" = some m.cls := findClass_of_methodNamed Bd.named
  have hnm := (name_of_methodNamed Bd.named Bd.method).1
  have X0 : Stand p l e ({ frames := 3, cells := 1, slots := 1, locals := 38 } : Room) s m #[(.ref (w 4)), (.ref (w 3)), (.ref (w 1))] below meth c s₁ [] 0 0 := Stand.of_body Bd
  have e0 : s₁.heap = h0 := by rw [← hh, Bd.state]; rfl
  have N0 := Fr.nil n0
  show oG p e below s (Q_ty_110 Z  w h0 n0) ({ frames := 3, cells := 1, slots := 1, locals := 38 } : Room).cells ({ frames := 3, cells := 1, slots := 1, locals := 38 } : Room).slots _
  refine oS (fun t k => castTop (ef_3_rrr m (w 4) (w 3) (w 1)) k) ?_
  show oG _ _ _ _ _ _ _ (s₁.setTop (mkF m 0 #[.val (.ref (w 4)), .val (.ref (w 3)), .val (.ref (w 1)), .unset, .unset] []))
  obtain ⟨T1, X1, e1, st1⟩ := getS2 X0 hx hZ hown (host := "") (Or.inl (oW hw 22 rfl)) Via.refl e0 ((wS1 W).ext O0.2) (g := (mkF m 0 #[.val (.ref (w 4)), .val (.ref (w 3)), .val (.ref (w 1)), .unset, .unset] [])) rfl (hb hby d3_0)
  refine oS (fun t k => st1 t k) ?_
  try clear st1
  refine oS (fun t k => XS.astoreN X1.here hx rfl (hb hby d3_3) rfl rfl (l' := #[.val (.ref (w 4)), .val (.ref (w 3)), .val (.ref (w 1)), .val (.ref (w 1)), .unset]) rfl k) ?_
  obtain ⟨T2, X2, e2, st2⟩ := getS2 X1 hx hZ hown (host := "") (Or.inl (oW hw 23 rfl)) Via.refl e1 ((wS3 W).ext O0.2) (g := (mkF m 4 #[.val (.ref (w 4)), .val (.ref (w 3)), .val (.ref (w 1)), .val (.ref (w 1)), .unset] [])) rfl (hb hby d3_4)
  refine oS (fun t k => st2 t k) ?_
  try clear st2 X1 e1
  try clear T1
  refine oS (fun t k => XS.astore X2.here hx rfl (hb hby d3_7) rfl rfl (l' := #[.val (.ref (w 4)), .val (.ref (w 3)), .val (.ref (w 1)), .val (.ref (w 1)), .val (.ref (w 3))]) rfl k) ?_
  refine oS (fun t k => XS.aloadN X2.here hx rfl (hb hby d3_9) rfl rfl k) ?_
  show oG _ _ _ _ _ _ _ (T2.setTop (mkF m 10 #[.val (.ref (w 4)), .val (.ref (w 3)), .val (.ref (w 1)), .val (.ref (w 1)), .val (.ref (w 3))] [(.ref (w 3))]))
  refine oS (fun t k => XS.aloadN X2.here hx rfl (hb hby d3_10) rfl rfl k) ?_
  refine oS (fun t k => Jvm.RoadKit.acmp (g := (mkF m 11 #[.val (.ref (w 4)), .val (.ref (w 3)), .val (.ref (w 1)), .val (.ref (w 1)), .val (.ref (w 3))] [(.ref (w 1)), (.ref (w 3))])) X2 hx rfl rfl rfl (pc0 := 11) (pc' := 24) (same := false) rfl (hb hby d3_11) rfl (decide_eq_false fun q => (own_neI (wF3_ordinal W) (wF1_ordinal W) (by decide)) (Value.ref.inj q)) (by decide) (by decide) k) ?_
  refine oS (fun t k => XS.aloadN X2.here hx rfl (hb hby d3_24) rfl rfl k) ?_
  obtain ⟨cq3, kq3, q3a, q3b, q3c⟩ := isOf hZ e2 ((wE4 W).ext O0.2)
  obtain ⟨_, _, ⟨T3, L3, k3, n3⟩, -, X3, ⟨Lc3, hQ3, l3, y3, z3⟩, st3⟩ := X2.virtualBackUp hx (x := mY9) (y := mY1) hown (mvT hZ (oW hw 25 rfl)) (mvT hZ (oW hw 26 rfl)) (mvT hZ (oW hw 27 rfl)) (by decide) (mvT hZ (oW hw 29 rfl)) (mvT hZ (oW hw 28 rfl)) (backOf (W := 0) (rm_ord_1 l Z a0 hw []  w h0 n0 O0 W ) hZ (oW hw 31 rfl) (oW hw 30 rfl) (by decide) (by decide)) q3a q3c (g := (mkF m 25 #[.val (.ref (w 4)), .val (.ref (w 3)), .val (.ref (w 1)), .val (.ref (w 1)), .val (.ref (w 3))] [(.ref (w 4))])) rfl (by rw [hml]; rfl) (Steps.refl _) (argsL := []) (rest := []) (lenOf pd_3 rfl) rfl (by show 2 * 0 + _ ≤ _; exact Nat.le_of_eq rfl) (hb hby d3_25) (fun _ _ => ⟨rfl, e2, (by decide : 0 + 0 ≤ _), (by decide : 0 + 0 ≤ _)⟩)
  dsimp only [Pt.U, Pt.locs, Pt.cells, Pt.slots] at X3 l3 y3 z3 st3 hQ3
  rw [l3, y3, z3] at X3
  clear l3 y3 z3
  obtain ⟨rfl, Nq3, e3⟩ := hQ3
  have N3 := Fr.app N0 Nq3
  refine oS (fun t k => st3.trans k) ?_
  show oG _ _ _ _ _ _ _ (T3.setTop (mkF m 28 #[.val (.ref (w 4)), .val (.ref (w 3)), .val (.ref (w 1)), .val (.ref (w 1)), .val (.ref (w 3))] [(.int 1)]))
  try clear st3 X2 e2
  try clear T2
  refine oS (fun t k => XS.tswIn X3.here hx rfl (pc0 := 28) (pc' := 101) rfl (hb hby d3_28) (i := (1 : Int32)) rfl (by decide) (o := 73) rfl (by decide) (by decide) k) ?_
  refine oS (fun t k => XS.aloadN X3.here hx rfl (hb hby d3_101) rfl rfl k) ?_
  refine oS (fun t k => XS.aload X3.here hx rfl (hb hby d3_102) rfl rfl k) ?_
  refine oS (fun t k => Jvm.RoadKit.acmp (g := (mkF m 104 #[.val (.ref (w 4)), .val (.ref (w 3)), .val (.ref (w 1)), .val (.ref (w 1)), .val (.ref (w 3))] [(.ref (w 3)), (.ref (w 3))])) X3 hx rfl rfl rfl (pc0 := 104) (pc' := 107) (same := true) rfl (hb hby d3_104) rfl (decide_eq_true rfl) (by decide) (by decide) k) ?_
  refine oS (fun t k => XS.aloadN X3.here hx rfl (hb hby d3_107) rfl rfl k) ?_
  show oG _ _ _ _ _ _ _ (T3.setTop (mkF m 108 #[.val (.ref (w 4)), .val (.ref (w 3)), .val (.ref (w 1)), .val (.ref (w 1)), .val (.ref (w 3))] [(.ref (w 1))]))
  refine oS (fun t k => XS.aloadN X3.here hx rfl (hb hby d3_108) rfl rfl k) ?_
  refine oS (fun t k => Jvm.RoadKit.acmp (g := (mkF m 109 #[.val (.ref (w 4)), .val (.ref (w 3)), .val (.ref (w 1)), .val (.ref (w 1)), .val (.ref (w 3))] [(.ref (w 1)), (.ref (w 1))])) X3 hx rfl rfl rfl (pc0 := 109) (pc' := 112) (same := true) rfl (hb hby d3_109) rfl (decide_eq_true rfl) (by decide) (by decide) k) ?_
  refine oS (fun t k => XS.aload X3.here hx rfl (hb hby d3_112) rfl rfl k) ?_
  refine oS (fun t k => XS.goto X3.here hx rfl (pc0 := 114) (pc' := 138) rfl (hb hby d3_114) (by decide) (by decide) k) ?_
  obtain ⟨_, _, ⟨T4, L4, k4, n4⟩, -, X4, ⟨Lc4, hQ4, l4, y4, z4⟩, st4⟩ := Jvm.LawKit.callS X3 hx (y := mY6) hown (mvT hZ (oW hw 34 rfl)) (mvT hZ (oW hw 35 rfl)) (mvT hZ (oW hw 36 rfl)) (mvT hZ (oW hw 37 rfl)) (by decide) (backOf (W := 0) (rm_ofN l Z a0 hw [] (w 3) w h0 n0 O0 W ) hZ (oW hw 37 rfl) (oW hw 36 rfl) (by decide) (by decide)) (g := (mkF m 138 #[.val (.ref (w 4)), .val (.ref (w 3)), .val (.ref (w 1)), .val (.ref (w 1)), .val (.ref (w 3))] [(.ref (w 3))])) rfl (by rw [hml]; rfl) (argsL := [(.ref (w 3))]) (rest := []) (lenOf pd_2 rfl) rfl (by show 2 * 0 + _ ≤ _; exact Nat.le_of_eq rfl) (hb hby d3_138) (fun _ _ => ⟨rfl, e3, (by decide : 0 + 1 ≤ _), (by decide : 0 + 1 ≤ _)⟩)
  dsimp only [Pt.U, Pt.locs, Pt.cells, Pt.slots] at X4 l4 y4 z4 st4 hQ4
  rw [l4, y4, z4] at X4
  clear l4 y4 z4
  obtain ⟨r4, rfl, Nq4, K4, sr4, P4_0, P4_1⟩ := hQ4
  have N4 := Fr.app N3 Nq4
  have O4 := O0.keep K4 (fun x q => absurd q List.not_mem_nil)
  have Kp4 : Keep h0 T4.heap [] := (Keep.refl h0 []).trans K4 (fun x q => absurd q List.not_mem_nil)
  have gr4 : n0 ≤ r4 := Nat.le_trans (O0.1 ▸ O0.2.1) sr4
  have szr4 : h0.size ≤ r4 := Nat.le_trans (Nat.le_refl _) sr4
  refine oS (fun t k => st4 t k) ?_
  show oG _ _ _ _ _ _ _ (T4.setTop (mkF m 141 #[.val (.ref (w 4)), .val (.ref (w 3)), .val (.ref (w 1)), .val (.ref (w 1)), .val (.ref (w 3))] [(.ref r4)]))
  try clear st4 X3 e3
  exact own_ret (v := some (.ref r4)) X4 (fun h => by rw [Bd.returns] at h; cases h) Bd.notSynchronized (fun fs hr => retOut X4 hx (t := (.object "java/util/Optional")) Bd.returns rfl (Or.inr (Or.inr (Or.inr (Or.inr ⟨rfl, rfl, rfl⟩)))) (hb hby d3_141) hr) (by exact ⟨r4, rfl, N4, Kp4, szr4, P4_0, P4_1⟩) (by decide) (by decide)
theorem d3_123 : decode prog_45_method_6_code 123 = .ok (.aload_n 2, 1) := by decide +kernel
theorem d3_124 : decode prog_45_method_6_code 124 = .ok (.aload 4, 2) := by decide +kernel
theorem d3_126 : decode prog_45_method_6_code 126 = .ok (.if_acmp .ne 7, 3) := by decide +kernel
theorem d3_129 : decode prog_45_method_6_code 129 = .ok (.aload_n 3, 1) := by decide +kernel
theorem d3_130 : decode prog_45_method_6_code 130 = .ok (.goto 8, 3) := by decide +kernel
def Q_ty_111 (Z : State)  (w : Nat → Addr) (h0 : Heap) (n0 : Nat) (v : Option Value) (h : Heap) (L : List Loc) : Prop := ∃ r : Addr, v = some (.ref r) ∧ Fr n0 L ∧ Keep h0 h [] ∧ h0.size ≤ r ∧ Exa Z h r "java/util/Optional" ∧ Fld Z h r "java/util/Optional" "value" "Ljava/lang/Object;" (.ref (w 1))
set_option maxRecDepth 65536 in
set_option maxHeartbeats 40000000 in
theorem rm_ty_111 (l : Launch) (Z : State) (a0 : Array Value) (hw : ∀ d ∈ tables_1, d.before a0 Z = true) (ws : List Jvm.Cond)  (w : Nat → Addr) (h0 : Heap) (n0 : Nat) (O0 : Old Z n0 h0) (W : own_World Z w) :
    MetFree l mY8 (head1 (Jvm.Cond.code mY8 prog_45_method_6_code 5 (some (.object "java/util/Optional")) :: ws) ({ frames := 3, cells := 1, slots := 1, locals := 38 } : Room)) (fun a U => a = #[(.ref (w 4)), (.ref (w 3)), (.ref (w 3))] ∧ Z.Warmed39 U.vm ∧ U.heap = h0) (fun _ _ _ _ _ => True) (fun _ U o U' => ∃ v L, o = .returned v ∧ Q_ty_111 Z  w h0 n0 v U'.heap L ∧ FrameEnd U o U' L ({ frames := 3, cells := 1, slots := 1, locals := 38 } : Room).cells ({ frames := 3, cells := 1, slots := 1, locals := 38 } : Room).slots) := by
  refine MetFree.of_bodySF (plainFor_of_name pn_4) hisR ?_
  intro p e s m args below meth c s₁ Bd hml0 hP hK
  obtain ⟨rfl, hZ, hh⟩ := hP
  have hx := Bd.exec
  have hby := Bd.bytes
  have hml : c.maxLocals = 5 := hml0
  have hown : s.vm.findClass "com/example/planwright/planwright/model/Expression$Operator" = some m.cls := findClass_of_methodNamed Bd.named
  have hnm := (name_of_methodNamed Bd.named Bd.method).1
  have X0 : Stand p l e ({ frames := 3, cells := 1, slots := 1, locals := 38 } : Room) s m #[(.ref (w 4)), (.ref (w 3)), (.ref (w 3))] below meth c s₁ [] 0 0 := Stand.of_body Bd
  have e0 : s₁.heap = h0 := by rw [← hh, Bd.state]; rfl
  have N0 := Fr.nil n0
  show oG p e below s (Q_ty_111 Z  w h0 n0) ({ frames := 3, cells := 1, slots := 1, locals := 38 } : Room).cells ({ frames := 3, cells := 1, slots := 1, locals := 38 } : Room).slots _
  refine oS (fun t k => castTop (ef_3_rrr m (w 4) (w 3) (w 3)) k) ?_
  show oG _ _ _ _ _ _ _ (s₁.setTop (mkF m 0 #[.val (.ref (w 4)), .val (.ref (w 3)), .val (.ref (w 3)), .unset, .unset] []))
  obtain ⟨T1, X1, e1, st1⟩ := getS2 X0 hx hZ hown (host := "") (Or.inl (oW hw 22 rfl)) Via.refl e0 ((wS1 W).ext O0.2) (g := (mkF m 0 #[.val (.ref (w 4)), .val (.ref (w 3)), .val (.ref (w 3)), .unset, .unset] [])) rfl (hb hby d3_0)
  refine oS (fun t k => st1 t k) ?_
  try clear st1
  refine oS (fun t k => XS.astoreN X1.here hx rfl (hb hby d3_3) rfl rfl (l' := #[.val (.ref (w 4)), .val (.ref (w 3)), .val (.ref (w 3)), .val (.ref (w 1)), .unset]) rfl k) ?_
  obtain ⟨T2, X2, e2, st2⟩ := getS2 X1 hx hZ hown (host := "") (Or.inl (oW hw 23 rfl)) Via.refl e1 ((wS3 W).ext O0.2) (g := (mkF m 4 #[.val (.ref (w 4)), .val (.ref (w 3)), .val (.ref (w 3)), .val (.ref (w 1)), .unset] [])) rfl (hb hby d3_4)
  refine oS (fun t k => st2 t k) ?_
  try clear st2 X1 e1
  try clear T1
  refine oS (fun t k => XS.astore X2.here hx rfl (hb hby d3_7) rfl rfl (l' := #[.val (.ref (w 4)), .val (.ref (w 3)), .val (.ref (w 3)), .val (.ref (w 1)), .val (.ref (w 3))]) rfl k) ?_
  refine oS (fun t k => XS.aloadN X2.here hx rfl (hb hby d3_9) rfl rfl k) ?_
  show oG _ _ _ _ _ _ _ (T2.setTop (mkF m 10 #[.val (.ref (w 4)), .val (.ref (w 3)), .val (.ref (w 3)), .val (.ref (w 1)), .val (.ref (w 3))] [(.ref (w 3))]))
  refine oS (fun t k => XS.aloadN X2.here hx rfl (hb hby d3_10) rfl rfl k) ?_
  refine oS (fun t k => Jvm.RoadKit.acmp (g := (mkF m 11 #[.val (.ref (w 4)), .val (.ref (w 3)), .val (.ref (w 3)), .val (.ref (w 1)), .val (.ref (w 3))] [(.ref (w 1)), (.ref (w 3))])) X2 hx rfl rfl rfl (pc0 := 11) (pc' := 24) (same := false) rfl (hb hby d3_11) rfl (decide_eq_false fun q => (own_neI (wF3_ordinal W) (wF1_ordinal W) (by decide)) (Value.ref.inj q)) (by decide) (by decide) k) ?_
  refine oS (fun t k => XS.aloadN X2.here hx rfl (hb hby d3_24) rfl rfl k) ?_
  obtain ⟨cq3, kq3, q3a, q3b, q3c⟩ := isOf hZ e2 ((wE4 W).ext O0.2)
  obtain ⟨_, _, ⟨T3, L3, k3, n3⟩, -, X3, ⟨Lc3, hQ3, l3, y3, z3⟩, st3⟩ := X2.virtualBackUp hx (x := mY9) (y := mY1) hown (mvT hZ (oW hw 25 rfl)) (mvT hZ (oW hw 26 rfl)) (mvT hZ (oW hw 27 rfl)) (by decide) (mvT hZ (oW hw 29 rfl)) (mvT hZ (oW hw 28 rfl)) (backOf (W := 0) (rm_ord_1 l Z a0 hw []  w h0 n0 O0 W ) hZ (oW hw 31 rfl) (oW hw 30 rfl) (by decide) (by decide)) q3a q3c (g := (mkF m 25 #[.val (.ref (w 4)), .val (.ref (w 3)), .val (.ref (w 3)), .val (.ref (w 1)), .val (.ref (w 3))] [(.ref (w 4))])) rfl (by rw [hml]; rfl) (Steps.refl _) (argsL := []) (rest := []) (lenOf pd_3 rfl) rfl (by show 2 * 0 + _ ≤ _; exact Nat.le_of_eq rfl) (hb hby d3_25) (fun _ _ => ⟨rfl, e2, (by decide : 0 + 0 ≤ _), (by decide : 0 + 0 ≤ _)⟩)
  dsimp only [Pt.U, Pt.locs, Pt.cells, Pt.slots] at X3 l3 y3 z3 st3 hQ3
  rw [l3, y3, z3] at X3
  clear l3 y3 z3
  obtain ⟨rfl, Nq3, e3⟩ := hQ3
  have N3 := Fr.app N0 Nq3
  refine oS (fun t k => st3.trans k) ?_
  show oG _ _ _ _ _ _ _ (T3.setTop (mkF m 28 #[.val (.ref (w 4)), .val (.ref (w 3)), .val (.ref (w 3)), .val (.ref (w 1)), .val (.ref (w 3))] [(.int 1)]))
  try clear st3 X2 e2
  try clear T2
  refine oS (fun t k => XS.tswIn X3.here hx rfl (pc0 := 28) (pc' := 101) rfl (hb hby d3_28) (i := (1 : Int32)) rfl (by decide) (o := 73) rfl (by decide) (by decide) k) ?_
  refine oS (fun t k => XS.aloadN X3.here hx rfl (hb hby d3_101) rfl rfl k) ?_
  refine oS (fun t k => XS.aload X3.here hx rfl (hb hby d3_102) rfl rfl k) ?_
  refine oS (fun t k => Jvm.RoadKit.acmp (g := (mkF m 104 #[.val (.ref (w 4)), .val (.ref (w 3)), .val (.ref (w 3)), .val (.ref (w 1)), .val (.ref (w 3))] [(.ref (w 3)), (.ref (w 3))])) X3 hx rfl rfl rfl (pc0 := 104) (pc' := 107) (same := true) rfl (hb hby d3_104) rfl (decide_eq_true rfl) (by decide) (by decide) k) ?_
  refine oS (fun t k => XS.aloadN X3.here hx rfl (hb hby d3_107) rfl rfl k) ?_
  show oG _ _ _ _ _ _ _ (T3.setTop (mkF m 108 #[.val (.ref (w 4)), .val (.ref (w 3)), .val (.ref (w 3)), .val (.ref (w 1)), .val (.ref (w 3))] [(.ref (w 3))]))
  refine oS (fun t k => XS.aloadN X3.here hx rfl (hb hby d3_108) rfl rfl k) ?_
  refine oS (fun t k => Jvm.RoadKit.acmp (g := (mkF m 109 #[.val (.ref (w 4)), .val (.ref (w 3)), .val (.ref (w 3)), .val (.ref (w 1)), .val (.ref (w 3))] [(.ref (w 1)), (.ref (w 3))])) X3 hx rfl rfl rfl (pc0 := 109) (pc' := 117) (same := false) rfl (hb hby d3_109) rfl (decide_eq_false fun q => (own_neI (wF3_ordinal W) (wF1_ordinal W) (by decide)) (Value.ref.inj q)) (by decide) (by decide) k) ?_
  refine oS (fun t k => XS.aloadN X3.here hx rfl (hb hby d3_117) rfl rfl k) ?_
  refine oS (fun t k => XS.aload X3.here hx rfl (hb hby d3_118) rfl rfl k) ?_
  refine oS (fun t k => Jvm.RoadKit.acmp (g := (mkF m 120 #[.val (.ref (w 4)), .val (.ref (w 3)), .val (.ref (w 3)), .val (.ref (w 1)), .val (.ref (w 3))] [(.ref (w 3)), (.ref (w 3))])) X3 hx rfl rfl rfl (pc0 := 120) (pc' := 123) (same := true) rfl (hb hby d3_120) rfl (decide_eq_true rfl) (by decide) (by decide) k) ?_
  show oG _ _ _ _ _ _ _ (T3.setTop (mkF m 123 #[.val (.ref (w 4)), .val (.ref (w 3)), .val (.ref (w 3)), .val (.ref (w 1)), .val (.ref (w 3))] []))
  refine oS (fun t k => XS.aloadN X3.here hx rfl (hb hby d3_123) rfl rfl k) ?_
  refine oS (fun t k => XS.aload X3.here hx rfl (hb hby d3_124) rfl rfl k) ?_
  refine oS (fun t k => Jvm.RoadKit.acmp (g := (mkF m 126 #[.val (.ref (w 4)), .val (.ref (w 3)), .val (.ref (w 3)), .val (.ref (w 1)), .val (.ref (w 3))] [(.ref (w 3)), (.ref (w 3))])) X3 hx rfl rfl rfl (pc0 := 126) (pc' := 129) (same := true) rfl (hb hby d3_126) rfl (decide_eq_true rfl) (by decide) (by decide) k) ?_
  refine oS (fun t k => XS.aloadN X3.here hx rfl (hb hby d3_129) rfl rfl k) ?_
  refine oS (fun t k => XS.goto X3.here hx rfl (pc0 := 130) (pc' := 138) rfl (hb hby d3_130) (by decide) (by decide) k) ?_
  show oG _ _ _ _ _ _ _ (T3.setTop (mkF m 138 #[.val (.ref (w 4)), .val (.ref (w 3)), .val (.ref (w 3)), .val (.ref (w 1)), .val (.ref (w 3))] [(.ref (w 1))]))
  obtain ⟨_, _, ⟨T4, L4, k4, n4⟩, -, X4, ⟨Lc4, hQ4, l4, y4, z4⟩, st4⟩ := Jvm.LawKit.callS X3 hx (y := mY6) hown (mvT hZ (oW hw 34 rfl)) (mvT hZ (oW hw 35 rfl)) (mvT hZ (oW hw 36 rfl)) (mvT hZ (oW hw 37 rfl)) (by decide) (backOf (W := 0) (rm_ofN l Z a0 hw [] (w 1) w h0 n0 O0 W ) hZ (oW hw 37 rfl) (oW hw 36 rfl) (by decide) (by decide)) (g := (mkF m 138 #[.val (.ref (w 4)), .val (.ref (w 3)), .val (.ref (w 3)), .val (.ref (w 1)), .val (.ref (w 3))] [(.ref (w 1))])) rfl (by rw [hml]; rfl) (argsL := [(.ref (w 1))]) (rest := []) (lenOf pd_2 rfl) rfl (by show 2 * 0 + _ ≤ _; exact Nat.le_of_eq rfl) (hb hby d3_138) (fun _ _ => ⟨rfl, e3, (by decide : 0 + 1 ≤ _), (by decide : 0 + 1 ≤ _)⟩)
  dsimp only [Pt.U, Pt.locs, Pt.cells, Pt.slots] at X4 l4 y4 z4 st4 hQ4
  rw [l4, y4, z4] at X4
  clear l4 y4 z4
  obtain ⟨r4, rfl, Nq4, K4, sr4, P4_0, P4_1⟩ := hQ4
  have N4 := Fr.app N3 Nq4
  have O4 := O0.keep K4 (fun x q => absurd q List.not_mem_nil)
  have Kp4 : Keep h0 T4.heap [] := (Keep.refl h0 []).trans K4 (fun x q => absurd q List.not_mem_nil)
  have gr4 : n0 ≤ r4 := Nat.le_trans (O0.1 ▸ O0.2.1) sr4
  have szr4 : h0.size ≤ r4 := Nat.le_trans (Nat.le_refl _) sr4
  refine oS (fun t k => st4 t k) ?_
  show oG _ _ _ _ _ _ _ (T4.setTop (mkF m 141 #[.val (.ref (w 4)), .val (.ref (w 3)), .val (.ref (w 3)), .val (.ref (w 1)), .val (.ref (w 3))] [(.ref r4)]))
  try clear st4 X3 e3
  exact own_ret (v := some (.ref r4)) X4 (fun h => by rw [Bd.returns] at h; cases h) Bd.notSynchronized (fun fs hr => retOut X4 hx (t := (.object "java/util/Optional")) Bd.returns rfl (Or.inr (Or.inr (Or.inr (Or.inr ⟨rfl, rfl, rfl⟩)))) (hb hby d3_141) hr) (by exact ⟨r4, rfl, N4, Kp4, szr4, P4_0, P4_1⟩) (by decide) (by decide)
def Q_ty_112 (Z : State)  (w : Nat → Addr) (h0 : Heap) (n0 : Nat) (v : Option Value) (h : Heap) (L : List Loc) : Prop := v = some (.ref (w 7)) ∧ Fr n0 L ∧ h = h0
set_option maxRecDepth 65536 in
set_option maxHeartbeats 40000000 in
theorem rm_ty_112 (l : Launch) (Z : State) (a0 : Array Value) (hw : ∀ d ∈ tables_1, d.before a0 Z = true) (ws : List Jvm.Cond)  (w : Nat → Addr) (h0 : Heap) (n0 : Nat) (O0 : Old Z n0 h0) (W : own_World Z w) :
    MetFree l mY8 (head1 (Jvm.Cond.code mY8 prog_45_method_6_code 5 (some (.object "java/util/Optional")) :: ws) ({ frames := 1, cells := 0, slots := 0, locals := 12 } : Room)) (fun a U => a = #[(.ref (w 4)), (.ref (w 3)), (.ref (w 2))] ∧ Z.Warmed39 U.vm ∧ U.heap = h0) (fun _ _ _ _ _ => True) (fun _ U o U' => ∃ v L, o = .returned v ∧ Q_ty_112 Z  w h0 n0 v U'.heap L ∧ FrameEnd U o U' L ({ frames := 1, cells := 0, slots := 0, locals := 12 } : Room).cells ({ frames := 1, cells := 0, slots := 0, locals := 12 } : Room).slots) := by
  refine MetFree.of_bodySF (plainFor_of_name pn_4) hisR ?_
  intro p e s m args below meth c s₁ Bd hml0 hP hK
  obtain ⟨rfl, hZ, hh⟩ := hP
  have hx := Bd.exec
  have hby := Bd.bytes
  have hml : c.maxLocals = 5 := hml0
  have hown : s.vm.findClass "com/example/planwright/planwright/model/Expression$Operator" = some m.cls := findClass_of_methodNamed Bd.named
  have hnm := (name_of_methodNamed Bd.named Bd.method).1
  have X0 : Stand p l e ({ frames := 1, cells := 0, slots := 0, locals := 12 } : Room) s m #[(.ref (w 4)), (.ref (w 3)), (.ref (w 2))] below meth c s₁ [] 0 0 := Stand.of_body Bd
  have e0 : s₁.heap = h0 := by rw [← hh, Bd.state]; rfl
  have N0 := Fr.nil n0
  show oG p e below s (Q_ty_112 Z  w h0 n0) ({ frames := 1, cells := 0, slots := 0, locals := 12 } : Room).cells ({ frames := 1, cells := 0, slots := 0, locals := 12 } : Room).slots _
  refine oS (fun t k => castTop (ef_3_rrr m (w 4) (w 3) (w 2)) k) ?_
  show oG _ _ _ _ _ _ _ (s₁.setTop (mkF m 0 #[.val (.ref (w 4)), .val (.ref (w 3)), .val (.ref (w 2)), .unset, .unset] []))
  obtain ⟨T1, X1, e1, st1⟩ := getS2 X0 hx hZ hown (host := "") (Or.inl (oW hw 22 rfl)) Via.refl e0 ((wS1 W).ext O0.2) (g := (mkF m 0 #[.val (.ref (w 4)), .val (.ref (w 3)), .val (.ref (w 2)), .unset, .unset] [])) rfl (hb hby d3_0)
  refine oS (fun t k => st1 t k) ?_
  try clear st1
  refine oS (fun t k => XS.astoreN X1.here hx rfl (hb hby d3_3) rfl rfl (l' := #[.val (.ref (w 4)), .val (.ref (w 3)), .val (.ref (w 2)), .val (.ref (w 1)), .unset]) rfl k) ?_
  obtain ⟨T2, X2, e2, st2⟩ := getS2 X1 hx hZ hown (host := "") (Or.inl (oW hw 23 rfl)) Via.refl e1 ((wS3 W).ext O0.2) (g := (mkF m 4 #[.val (.ref (w 4)), .val (.ref (w 3)), .val (.ref (w 2)), .val (.ref (w 1)), .unset] [])) rfl (hb hby d3_4)
  refine oS (fun t k => st2 t k) ?_
  try clear st2 X1 e1
  try clear T1
  refine oS (fun t k => XS.astore X2.here hx rfl (hb hby d3_7) rfl rfl (l' := #[.val (.ref (w 4)), .val (.ref (w 3)), .val (.ref (w 2)), .val (.ref (w 1)), .val (.ref (w 3))]) rfl k) ?_
  refine oS (fun t k => XS.aloadN X2.here hx rfl (hb hby d3_9) rfl rfl k) ?_
  show oG _ _ _ _ _ _ _ (T2.setTop (mkF m 10 #[.val (.ref (w 4)), .val (.ref (w 3)), .val (.ref (w 2)), .val (.ref (w 1)), .val (.ref (w 3))] [(.ref (w 3))]))
  refine oS (fun t k => XS.aloadN X2.here hx rfl (hb hby d3_10) rfl rfl k) ?_
  refine oS (fun t k => Jvm.RoadKit.acmp (g := (mkF m 11 #[.val (.ref (w 4)), .val (.ref (w 3)), .val (.ref (w 2)), .val (.ref (w 1)), .val (.ref (w 3))] [(.ref (w 1)), (.ref (w 3))])) X2 hx rfl rfl rfl (pc0 := 11) (pc' := 24) (same := false) rfl (hb hby d3_11) rfl (decide_eq_false fun q => (own_neI (wF3_ordinal W) (wF1_ordinal W) (by decide)) (Value.ref.inj q)) (by decide) (by decide) k) ?_
  refine oS (fun t k => XS.aloadN X2.here hx rfl (hb hby d3_24) rfl rfl k) ?_
  obtain ⟨cq3, kq3, q3a, q3b, q3c⟩ := isOf hZ e2 ((wE4 W).ext O0.2)
  obtain ⟨_, _, ⟨T3, L3, k3, n3⟩, -, X3, ⟨Lc3, hQ3, l3, y3, z3⟩, st3⟩ := X2.virtualBackUp hx (x := mY9) (y := mY1) hown (mvT hZ (oW hw 25 rfl)) (mvT hZ (oW hw 26 rfl)) (mvT hZ (oW hw 27 rfl)) (by decide) (mvT hZ (oW hw 29 rfl)) (mvT hZ (oW hw 28 rfl)) (backOf (W := 0) (rm_ord_1 l Z a0 hw []  w h0 n0 O0 W ) hZ (oW hw 31 rfl) (oW hw 30 rfl) (by decide) (by decide)) q3a q3c (g := (mkF m 25 #[.val (.ref (w 4)), .val (.ref (w 3)), .val (.ref (w 2)), .val (.ref (w 1)), .val (.ref (w 3))] [(.ref (w 4))])) rfl (by rw [hml]; rfl) (Steps.refl _) (argsL := []) (rest := []) (lenOf pd_3 rfl) rfl (by show 2 * 0 + _ ≤ _; exact Nat.le_of_eq rfl) (hb hby d3_25) (fun _ _ => ⟨rfl, e2, (by decide : 0 + 0 ≤ _), (by decide : 0 + 0 ≤ _)⟩)
  dsimp only [Pt.U, Pt.locs, Pt.cells, Pt.slots] at X3 l3 y3 z3 st3 hQ3
  rw [l3, y3, z3] at X3
  clear l3 y3 z3
  obtain ⟨rfl, Nq3, e3⟩ := hQ3
  have N3 := Fr.app N0 Nq3
  refine oS (fun t k => st3.trans k) ?_
  show oG _ _ _ _ _ _ _ (T3.setTop (mkF m 28 #[.val (.ref (w 4)), .val (.ref (w 3)), .val (.ref (w 2)), .val (.ref (w 1)), .val (.ref (w 3))] [(.int 1)]))
  try clear st3 X2 e2
  try clear T2
  refine oS (fun t k => XS.tswIn X3.here hx rfl (pc0 := 28) (pc' := 101) rfl (hb hby d3_28) (i := (1 : Int32)) rfl (by decide) (o := 73) rfl (by decide) (by decide) k) ?_
  refine oS (fun t k => XS.aloadN X3.here hx rfl (hb hby d3_101) rfl rfl k) ?_
  refine oS (fun t k => XS.aload X3.here hx rfl (hb hby d3_102) rfl rfl k) ?_
  refine oS (fun t k => Jvm.RoadKit.acmp (g := (mkF m 104 #[.val (.ref (w 4)), .val (.ref (w 3)), .val (.ref (w 2)), .val (.ref (w 1)), .val (.ref (w 3))] [(.ref (w 3)), (.ref (w 3))])) X3 hx rfl rfl rfl (pc0 := 104) (pc' := 107) (same := true) rfl (hb hby d3_104) rfl (decide_eq_true rfl) (by decide) (by decide) k) ?_
  refine oS (fun t k => XS.aloadN X3.here hx rfl (hb hby d3_107) rfl rfl k) ?_
  show oG _ _ _ _ _ _ _ (T3.setTop (mkF m 108 #[.val (.ref (w 4)), .val (.ref (w 3)), .val (.ref (w 2)), .val (.ref (w 1)), .val (.ref (w 3))] [(.ref (w 2))]))
  refine oS (fun t k => XS.aloadN X3.here hx rfl (hb hby d3_108) rfl rfl k) ?_
  refine oS (fun t k => Jvm.RoadKit.acmp (g := (mkF m 109 #[.val (.ref (w 4)), .val (.ref (w 3)), .val (.ref (w 2)), .val (.ref (w 1)), .val (.ref (w 3))] [(.ref (w 1)), (.ref (w 2))])) X3 hx rfl rfl rfl (pc0 := 109) (pc' := 117) (same := false) rfl (hb hby d3_109) rfl (decide_eq_false fun q => (own_neI (wF2_ordinal W) (wF1_ordinal W) (by decide)) (Value.ref.inj q)) (by decide) (by decide) k) ?_
  refine oS (fun t k => XS.aloadN X3.here hx rfl (hb hby d3_117) rfl rfl k) ?_
  refine oS (fun t k => XS.aload X3.here hx rfl (hb hby d3_118) rfl rfl k) ?_
  refine oS (fun t k => Jvm.RoadKit.acmp (g := (mkF m 120 #[.val (.ref (w 4)), .val (.ref (w 3)), .val (.ref (w 2)), .val (.ref (w 1)), .val (.ref (w 3))] [(.ref (w 3)), (.ref (w 3))])) X3 hx rfl rfl rfl (pc0 := 120) (pc' := 123) (same := true) rfl (hb hby d3_120) rfl (decide_eq_true rfl) (by decide) (by decide) k) ?_
  show oG _ _ _ _ _ _ _ (T3.setTop (mkF m 123 #[.val (.ref (w 4)), .val (.ref (w 3)), .val (.ref (w 2)), .val (.ref (w 1)), .val (.ref (w 3))] []))
  refine oS (fun t k => XS.aloadN X3.here hx rfl (hb hby d3_123) rfl rfl k) ?_
  refine oS (fun t k => XS.aload X3.here hx rfl (hb hby d3_124) rfl rfl k) ?_
  refine oS (fun t k => Jvm.RoadKit.acmp (g := (mkF m 126 #[.val (.ref (w 4)), .val (.ref (w 3)), .val (.ref (w 2)), .val (.ref (w 1)), .val (.ref (w 3))] [(.ref (w 3)), (.ref (w 2))])) X3 hx rfl rfl rfl (pc0 := 126) (pc' := 133) (same := false) rfl (hb hby d3_126) rfl (decide_eq_false fun q => (own_neI (wF2_ordinal W) (wF3_ordinal W) (by decide)) (Value.ref.inj q)) (by decide) (by decide) k) ?_
  refine oS (fun t k => XS.aconstNull X3.here hx rfl (hb hby d3_133) k) ?_
  refine oS (fun t k => XS.goto X3.here hx rfl (pc0 := 134) (pc' := 138) rfl (hb hby d3_134) (by decide) (by decide) k) ?_
  show oG _ _ _ _ _ _ _ (T3.setTop (mkF m 138 #[.val (.ref (w 4)), .val (.ref (w 3)), .val (.ref (w 2)), .val (.ref (w 1)), .val (.ref (w 3))] [.null]))
  obtain ⟨_, _, ⟨T4, L4, k4, n4⟩, -, X4, ⟨Lc4, hQ4, l4, y4, z4⟩, st4⟩ := Jvm.LawKit.callS X3 hx (y := mY6) hown (mvT hZ (oW hw 34 rfl)) (mvT hZ (oW hw 35 rfl)) (mvT hZ (oW hw 36 rfl)) (mvT hZ (oW hw 37 rfl)) (by decide) (backOf (W := 0) (rm_ofN0 l Z a0 hw []  w h0 n0 O0 W ) hZ (oW hw 37 rfl) (oW hw 36 rfl) (by decide) (by decide)) (g := (mkF m 138 #[.val (.ref (w 4)), .val (.ref (w 3)), .val (.ref (w 2)), .val (.ref (w 1)), .val (.ref (w 3))] [.null])) rfl (by rw [hml]; rfl) (argsL := [.null]) (rest := []) (lenOf pd_2 rfl) rfl (by show 2 * 0 + _ ≤ _; exact Nat.le_of_eq rfl) (hb hby d3_138) (fun _ _ => ⟨rfl, e3, (by decide : 0 + 0 ≤ _), (by decide : 0 + 0 ≤ _)⟩)
  dsimp only [Pt.U, Pt.locs, Pt.cells, Pt.slots] at X4 l4 y4 z4 st4 hQ4
  rw [l4, y4, z4] at X4
  clear l4 y4 z4
  obtain ⟨rfl, Nq4, e4⟩ := hQ4
  have N4 := Fr.app N3 Nq4
  refine oS (fun t k => st4 t k) ?_
  show oG _ _ _ _ _ _ _ (T4.setTop (mkF m 141 #[.val (.ref (w 4)), .val (.ref (w 3)), .val (.ref (w 2)), .val (.ref (w 1)), .val (.ref (w 3))] [(.ref (w 7))]))
  try clear st4 X3 e3
  exact own_ret (v := some (.ref (w 7))) X4 (fun h => by rw [Bd.returns] at h; cases h) Bd.notSynchronized (fun fs hr => retOut X4 hx (t := (.object "java/util/Optional")) Bd.returns rfl (Or.inr (Or.inr (Or.inr (Or.inr ⟨rfl, rfl, rfl⟩)))) (hb hby d3_141) hr) (by rw [e4]; exact ⟨rfl, N4, rfl⟩) (by decide) (by decide)
def Q_ty_120 (Z : State)  (w : Nat → Addr) (h0 : Heap) (n0 : Nat) (v : Option Value) (h : Heap) (L : List Loc) : Prop := v = some (.ref (w 7)) ∧ Fr n0 L ∧ h = h0
set_option maxRecDepth 65536 in
set_option maxHeartbeats 40000000 in
theorem rm_ty_120 (l : Launch) (Z : State) (a0 : Array Value) (hw : ∀ d ∈ tables_1, d.before a0 Z = true) (ws : List Jvm.Cond)  (w : Nat → Addr) (h0 : Heap) (n0 : Nat) (O0 : Old Z n0 h0) (W : own_World Z w) :
    MetFree l mY8 (head1 (Jvm.Cond.code mY8 prog_45_method_6_code 5 (some (.object "java/util/Optional")) :: ws) ({ frames := 1, cells := 0, slots := 0, locals := 12 } : Room)) (fun a U => a = #[(.ref (w 4)), (.ref (w 2)), (.ref (w 1))] ∧ Z.Warmed39 U.vm ∧ U.heap = h0) (fun _ _ _ _ _ => True) (fun _ U o U' => ∃ v L, o = .returned v ∧ Q_ty_120 Z  w h0 n0 v U'.heap L ∧ FrameEnd U o U' L ({ frames := 1, cells := 0, slots := 0, locals := 12 } : Room).cells ({ frames := 1, cells := 0, slots := 0, locals := 12 } : Room).slots) := by
  refine MetFree.of_bodySF (plainFor_of_name pn_4) hisR ?_
  intro p e s m args below meth c s₁ Bd hml0 hP hK
  obtain ⟨rfl, hZ, hh⟩ := hP
  have hx := Bd.exec
  have hby := Bd.bytes
  have hml : c.maxLocals = 5 := hml0
  have hown : s.vm.findClass "com/example/planwright/planwright/model/Expression$Operator" = some m.cls := findClass_of_methodNamed Bd.named
  have hnm := (name_of_methodNamed Bd.named Bd.method).1
  have X0 : Stand p l e ({ frames := 1, cells := 0, slots := 0, locals := 12 } : Room) s m #[(.ref (w 4)), (.ref (w 2)), (.ref (w 1))] below meth c s₁ [] 0 0 := Stand.of_body Bd
  have e0 : s₁.heap = h0 := by rw [← hh, Bd.state]; rfl
  have N0 := Fr.nil n0
  show oG p e below s (Q_ty_120 Z  w h0 n0) ({ frames := 1, cells := 0, slots := 0, locals := 12 } : Room).cells ({ frames := 1, cells := 0, slots := 0, locals := 12 } : Room).slots _
  refine oS (fun t k => castTop (ef_3_rrr m (w 4) (w 2) (w 1)) k) ?_
  show oG _ _ _ _ _ _ _ (s₁.setTop (mkF m 0 #[.val (.ref (w 4)), .val (.ref (w 2)), .val (.ref (w 1)), .unset, .unset] []))
  obtain ⟨T1, X1, e1, st1⟩ := getS2 X0 hx hZ hown (host := "") (Or.inl (oW hw 22 rfl)) Via.refl e0 ((wS1 W).ext O0.2) (g := (mkF m 0 #[.val (.ref (w 4)), .val (.ref (w 2)), .val (.ref (w 1)), .unset, .unset] [])) rfl (hb hby d3_0)
  refine oS (fun t k => st1 t k) ?_
  try clear st1
  refine oS (fun t k => XS.astoreN X1.here hx rfl (hb hby d3_3) rfl rfl (l' := #[.val (.ref (w 4)), .val (.ref (w 2)), .val (.ref (w 1)), .val (.ref (w 1)), .unset]) rfl k) ?_
  obtain ⟨T2, X2, e2, st2⟩ := getS2 X1 hx hZ hown (host := "") (Or.inl (oW hw 23 rfl)) Via.refl e1 ((wS3 W).ext O0.2) (g := (mkF m 4 #[.val (.ref (w 4)), .val (.ref (w 2)), .val (.ref (w 1)), .val (.ref (w 1)), .unset] [])) rfl (hb hby d3_4)
  refine oS (fun t k => st2 t k) ?_
  try clear st2 X1 e1
  try clear T1
  refine oS (fun t k => XS.astore X2.here hx rfl (hb hby d3_7) rfl rfl (l' := #[.val (.ref (w 4)), .val (.ref (w 2)), .val (.ref (w 1)), .val (.ref (w 1)), .val (.ref (w 3))]) rfl k) ?_
  refine oS (fun t k => XS.aloadN X2.here hx rfl (hb hby d3_9) rfl rfl k) ?_
  show oG _ _ _ _ _ _ _ (T2.setTop (mkF m 10 #[.val (.ref (w 4)), .val (.ref (w 2)), .val (.ref (w 1)), .val (.ref (w 1)), .val (.ref (w 3))] [(.ref (w 2))]))
  refine oS (fun t k => XS.aloadN X2.here hx rfl (hb hby d3_10) rfl rfl k) ?_
  refine oS (fun t k => Jvm.RoadKit.acmp (g := (mkF m 11 #[.val (.ref (w 4)), .val (.ref (w 2)), .val (.ref (w 1)), .val (.ref (w 1)), .val (.ref (w 3))] [(.ref (w 1)), (.ref (w 2))])) X2 hx rfl rfl rfl (pc0 := 11) (pc' := 24) (same := false) rfl (hb hby d3_11) rfl (decide_eq_false fun q => (own_neI (wF2_ordinal W) (wF1_ordinal W) (by decide)) (Value.ref.inj q)) (by decide) (by decide) k) ?_
  refine oS (fun t k => XS.aloadN X2.here hx rfl (hb hby d3_24) rfl rfl k) ?_
  obtain ⟨cq3, kq3, q3a, q3b, q3c⟩ := isOf hZ e2 ((wE4 W).ext O0.2)
  obtain ⟨_, _, ⟨T3, L3, k3, n3⟩, -, X3, ⟨Lc3, hQ3, l3, y3, z3⟩, st3⟩ := X2.virtualBackUp hx (x := mY9) (y := mY1) hown (mvT hZ (oW hw 25 rfl)) (mvT hZ (oW hw 26 rfl)) (mvT hZ (oW hw 27 rfl)) (by decide) (mvT hZ (oW hw 29 rfl)) (mvT hZ (oW hw 28 rfl)) (backOf (W := 0) (rm_ord_1 l Z a0 hw []  w h0 n0 O0 W ) hZ (oW hw 31 rfl) (oW hw 30 rfl) (by decide) (by decide)) q3a q3c (g := (mkF m 25 #[.val (.ref (w 4)), .val (.ref (w 2)), .val (.ref (w 1)), .val (.ref (w 1)), .val (.ref (w 3))] [(.ref (w 4))])) rfl (by rw [hml]; rfl) (Steps.refl _) (argsL := []) (rest := []) (lenOf pd_3 rfl) rfl (by show 2 * 0 + _ ≤ _; exact Nat.le_of_eq rfl) (hb hby d3_25) (fun _ _ => ⟨rfl, e2, (by decide : 0 + 0 ≤ _), (by decide : 0 + 0 ≤ _)⟩)
  dsimp only [Pt.U, Pt.locs, Pt.cells, Pt.slots] at X3 l3 y3 z3 st3 hQ3
  rw [l3, y3, z3] at X3
  clear l3 y3 z3
  obtain ⟨rfl, Nq3, e3⟩ := hQ3
  have N3 := Fr.app N0 Nq3
  refine oS (fun t k => st3.trans k) ?_
  show oG _ _ _ _ _ _ _ (T3.setTop (mkF m 28 #[.val (.ref (w 4)), .val (.ref (w 2)), .val (.ref (w 1)), .val (.ref (w 1)), .val (.ref (w 3))] [(.int 1)]))
  try clear st3 X2 e2
  try clear T2
  refine oS (fun t k => XS.tswIn X3.here hx rfl (pc0 := 28) (pc' := 101) rfl (hb hby d3_28) (i := (1 : Int32)) rfl (by decide) (o := 73) rfl (by decide) (by decide) k) ?_
  refine oS (fun t k => XS.aloadN X3.here hx rfl (hb hby d3_101) rfl rfl k) ?_
  refine oS (fun t k => XS.aload X3.here hx rfl (hb hby d3_102) rfl rfl k) ?_
  refine oS (fun t k => Jvm.RoadKit.acmp (g := (mkF m 104 #[.val (.ref (w 4)), .val (.ref (w 2)), .val (.ref (w 1)), .val (.ref (w 1)), .val (.ref (w 3))] [(.ref (w 3)), (.ref (w 2))])) X3 hx rfl rfl rfl (pc0 := 104) (pc' := 117) (same := false) rfl (hb hby d3_104) rfl (decide_eq_false fun q => (own_neI (wF2_ordinal W) (wF3_ordinal W) (by decide)) (Value.ref.inj q)) (by decide) (by decide) k) ?_
  refine oS (fun t k => XS.aloadN X3.here hx rfl (hb hby d3_117) rfl rfl k) ?_
  show oG _ _ _ _ _ _ _ (T3.setTop (mkF m 118 #[.val (.ref (w 4)), .val (.ref (w 2)), .val (.ref (w 1)), .val (.ref (w 1)), .val (.ref (w 3))] [(.ref (w 2))]))
  refine oS (fun t k => XS.aload X3.here hx rfl (hb hby d3_118) rfl rfl k) ?_
  refine oS (fun t k => Jvm.RoadKit.acmp (g := (mkF m 120 #[.val (.ref (w 4)), .val (.ref (w 2)), .val (.ref (w 1)), .val (.ref (w 1)), .val (.ref (w 3))] [(.ref (w 3)), (.ref (w 2))])) X3 hx rfl rfl rfl (pc0 := 120) (pc' := 133) (same := false) rfl (hb hby d3_120) rfl (decide_eq_false fun q => (own_neI (wF2_ordinal W) (wF3_ordinal W) (by decide)) (Value.ref.inj q)) (by decide) (by decide) k) ?_
  refine oS (fun t k => XS.aconstNull X3.here hx rfl (hb hby d3_133) k) ?_
  refine oS (fun t k => XS.goto X3.here hx rfl (pc0 := 134) (pc' := 138) rfl (hb hby d3_134) (by decide) (by decide) k) ?_
  obtain ⟨_, _, ⟨T4, L4, k4, n4⟩, -, X4, ⟨Lc4, hQ4, l4, y4, z4⟩, st4⟩ := Jvm.LawKit.callS X3 hx (y := mY6) hown (mvT hZ (oW hw 34 rfl)) (mvT hZ (oW hw 35 rfl)) (mvT hZ (oW hw 36 rfl)) (mvT hZ (oW hw 37 rfl)) (by decide) (backOf (W := 0) (rm_ofN0 l Z a0 hw []  w h0 n0 O0 W ) hZ (oW hw 37 rfl) (oW hw 36 rfl) (by decide) (by decide)) (g := (mkF m 138 #[.val (.ref (w 4)), .val (.ref (w 2)), .val (.ref (w 1)), .val (.ref (w 1)), .val (.ref (w 3))] [.null])) rfl (by rw [hml]; rfl) (argsL := [.null]) (rest := []) (lenOf pd_2 rfl) rfl (by show 2 * 0 + _ ≤ _; exact Nat.le_of_eq rfl) (hb hby d3_138) (fun _ _ => ⟨rfl, e3, (by decide : 0 + 0 ≤ _), (by decide : 0 + 0 ≤ _)⟩)
  dsimp only [Pt.U, Pt.locs, Pt.cells, Pt.slots] at X4 l4 y4 z4 st4 hQ4
  rw [l4, y4, z4] at X4
  clear l4 y4 z4
  obtain ⟨rfl, Nq4, e4⟩ := hQ4
  have N4 := Fr.app N3 Nq4
  refine oS (fun t k => st4 t k) ?_
  show oG _ _ _ _ _ _ _ (T4.setTop (mkF m 141 #[.val (.ref (w 4)), .val (.ref (w 2)), .val (.ref (w 1)), .val (.ref (w 1)), .val (.ref (w 3))] [(.ref (w 7))]))
  try clear st4 X3 e3
  exact own_ret (v := some (.ref (w 7))) X4 (fun h => by rw [Bd.returns] at h; cases h) Bd.notSynchronized (fun fs hr => retOut X4 hx (t := (.object "java/util/Optional")) Bd.returns rfl (Or.inr (Or.inr (Or.inr (Or.inr ⟨rfl, rfl, rfl⟩)))) (hb hby d3_141) hr) (by rw [e4]; exact ⟨rfl, N4, rfl⟩) (by decide) (by decide)
def Q_ty_121 (Z : State)  (w : Nat → Addr) (h0 : Heap) (n0 : Nat) (v : Option Value) (h : Heap) (L : List Loc) : Prop := v = some (.ref (w 7)) ∧ Fr n0 L ∧ h = h0
set_option maxRecDepth 65536 in
set_option maxHeartbeats 40000000 in
theorem rm_ty_121 (l : Launch) (Z : State) (a0 : Array Value) (hw : ∀ d ∈ tables_1, d.before a0 Z = true) (ws : List Jvm.Cond)  (w : Nat → Addr) (h0 : Heap) (n0 : Nat) (O0 : Old Z n0 h0) (W : own_World Z w) :
    MetFree l mY8 (head1 (Jvm.Cond.code mY8 prog_45_method_6_code 5 (some (.object "java/util/Optional")) :: ws) ({ frames := 1, cells := 0, slots := 0, locals := 12 } : Room)) (fun a U => a = #[(.ref (w 4)), (.ref (w 2)), (.ref (w 3))] ∧ Z.Warmed39 U.vm ∧ U.heap = h0) (fun _ _ _ _ _ => True) (fun _ U o U' => ∃ v L, o = .returned v ∧ Q_ty_121 Z  w h0 n0 v U'.heap L ∧ FrameEnd U o U' L ({ frames := 1, cells := 0, slots := 0, locals := 12 } : Room).cells ({ frames := 1, cells := 0, slots := 0, locals := 12 } : Room).slots) := by
  refine MetFree.of_bodySF (plainFor_of_name pn_4) hisR ?_
  intro p e s m args below meth c s₁ Bd hml0 hP hK
  obtain ⟨rfl, hZ, hh⟩ := hP
  have hx := Bd.exec
  have hby := Bd.bytes
  have hml : c.maxLocals = 5 := hml0
  have hown : s.vm.findClass "com/example/planwright/planwright/model/Expression$Operator" = some m.cls := findClass_of_methodNamed Bd.named
  have hnm := (name_of_methodNamed Bd.named Bd.method).1
  have X0 : Stand p l e ({ frames := 1, cells := 0, slots := 0, locals := 12 } : Room) s m #[(.ref (w 4)), (.ref (w 2)), (.ref (w 3))] below meth c s₁ [] 0 0 := Stand.of_body Bd
  have e0 : s₁.heap = h0 := by rw [← hh, Bd.state]; rfl
  have N0 := Fr.nil n0
  show oG p e below s (Q_ty_121 Z  w h0 n0) ({ frames := 1, cells := 0, slots := 0, locals := 12 } : Room).cells ({ frames := 1, cells := 0, slots := 0, locals := 12 } : Room).slots _
  refine oS (fun t k => castTop (ef_3_rrr m (w 4) (w 2) (w 3)) k) ?_
  show oG _ _ _ _ _ _ _ (s₁.setTop (mkF m 0 #[.val (.ref (w 4)), .val (.ref (w 2)), .val (.ref (w 3)), .unset, .unset] []))
  obtain ⟨T1, X1, e1, st1⟩ := getS2 X0 hx hZ hown (host := "") (Or.inl (oW hw 22 rfl)) Via.refl e0 ((wS1 W).ext O0.2) (g := (mkF m 0 #[.val (.ref (w 4)), .val (.ref (w 2)), .val (.ref (w 3)), .unset, .unset] [])) rfl (hb hby d3_0)
  refine oS (fun t k => st1 t k) ?_
  try clear st1
  refine oS (fun t k => XS.astoreN X1.here hx rfl (hb hby d3_3) rfl rfl (l' := #[.val (.ref (w 4)), .val (.ref (w 2)), .val (.ref (w 3)), .val (.ref (w 1)), .unset]) rfl k) ?_
  obtain ⟨T2, X2, e2, st2⟩ := getS2 X1 hx hZ hown (host := "") (Or.inl (oW hw 23 rfl)) Via.refl e1 ((wS3 W).ext O0.2) (g := (mkF m 4 #[.val (.ref (w 4)), .val (.ref (w 2)), .val (.ref (w 3)), .val (.ref (w 1)), .unset] [])) rfl (hb hby d3_4)
  refine oS (fun t k => st2 t k) ?_
  try clear st2 X1 e1
  try clear T1
  refine oS (fun t k => XS.astore X2.here hx rfl (hb hby d3_7) rfl rfl (l' := #[.val (.ref (w 4)), .val (.ref (w 2)), .val (.ref (w 3)), .val (.ref (w 1)), .val (.ref (w 3))]) rfl k) ?_
  refine oS (fun t k => XS.aloadN X2.here hx rfl (hb hby d3_9) rfl rfl k) ?_
  show oG _ _ _ _ _ _ _ (T2.setTop (mkF m 10 #[.val (.ref (w 4)), .val (.ref (w 2)), .val (.ref (w 3)), .val (.ref (w 1)), .val (.ref (w 3))] [(.ref (w 2))]))
  refine oS (fun t k => XS.aloadN X2.here hx rfl (hb hby d3_10) rfl rfl k) ?_
  refine oS (fun t k => Jvm.RoadKit.acmp (g := (mkF m 11 #[.val (.ref (w 4)), .val (.ref (w 2)), .val (.ref (w 3)), .val (.ref (w 1)), .val (.ref (w 3))] [(.ref (w 1)), (.ref (w 2))])) X2 hx rfl rfl rfl (pc0 := 11) (pc' := 24) (same := false) rfl (hb hby d3_11) rfl (decide_eq_false fun q => (own_neI (wF2_ordinal W) (wF1_ordinal W) (by decide)) (Value.ref.inj q)) (by decide) (by decide) k) ?_
  refine oS (fun t k => XS.aloadN X2.here hx rfl (hb hby d3_24) rfl rfl k) ?_
  obtain ⟨cq3, kq3, q3a, q3b, q3c⟩ := isOf hZ e2 ((wE4 W).ext O0.2)
  obtain ⟨_, _, ⟨T3, L3, k3, n3⟩, -, X3, ⟨Lc3, hQ3, l3, y3, z3⟩, st3⟩ := X2.virtualBackUp hx (x := mY9) (y := mY1) hown (mvT hZ (oW hw 25 rfl)) (mvT hZ (oW hw 26 rfl)) (mvT hZ (oW hw 27 rfl)) (by decide) (mvT hZ (oW hw 29 rfl)) (mvT hZ (oW hw 28 rfl)) (backOf (W := 0) (rm_ord_1 l Z a0 hw []  w h0 n0 O0 W ) hZ (oW hw 31 rfl) (oW hw 30 rfl) (by decide) (by decide)) q3a q3c (g := (mkF m 25 #[.val (.ref (w 4)), .val (.ref (w 2)), .val (.ref (w 3)), .val (.ref (w 1)), .val (.ref (w 3))] [(.ref (w 4))])) rfl (by rw [hml]; rfl) (Steps.refl _) (argsL := []) (rest := []) (lenOf pd_3 rfl) rfl (by show 2 * 0 + _ ≤ _; exact Nat.le_of_eq rfl) (hb hby d3_25) (fun _ _ => ⟨rfl, e2, (by decide : 0 + 0 ≤ _), (by decide : 0 + 0 ≤ _)⟩)
  dsimp only [Pt.U, Pt.locs, Pt.cells, Pt.slots] at X3 l3 y3 z3 st3 hQ3
  rw [l3, y3, z3] at X3
  clear l3 y3 z3
  obtain ⟨rfl, Nq3, e3⟩ := hQ3
  have N3 := Fr.app N0 Nq3
  refine oS (fun t k => st3.trans k) ?_
  show oG _ _ _ _ _ _ _ (T3.setTop (mkF m 28 #[.val (.ref (w 4)), .val (.ref (w 2)), .val (.ref (w 3)), .val (.ref (w 1)), .val (.ref (w 3))] [(.int 1)]))
  try clear st3 X2 e2
  try clear T2
  refine oS (fun t k => XS.tswIn X3.here hx rfl (pc0 := 28) (pc' := 101) rfl (hb hby d3_28) (i := (1 : Int32)) rfl (by decide) (o := 73) rfl (by decide) (by decide) k) ?_
  refine oS (fun t k => XS.aloadN X3.here hx rfl (hb hby d3_101) rfl rfl k) ?_
  refine oS (fun t k => XS.aload X3.here hx rfl (hb hby d3_102) rfl rfl k) ?_
  refine oS (fun t k => Jvm.RoadKit.acmp (g := (mkF m 104 #[.val (.ref (w 4)), .val (.ref (w 2)), .val (.ref (w 3)), .val (.ref (w 1)), .val (.ref (w 3))] [(.ref (w 3)), (.ref (w 2))])) X3 hx rfl rfl rfl (pc0 := 104) (pc' := 117) (same := false) rfl (hb hby d3_104) rfl (decide_eq_false fun q => (own_neI (wF2_ordinal W) (wF3_ordinal W) (by decide)) (Value.ref.inj q)) (by decide) (by decide) k) ?_
  refine oS (fun t k => XS.aloadN X3.here hx rfl (hb hby d3_117) rfl rfl k) ?_
  show oG _ _ _ _ _ _ _ (T3.setTop (mkF m 118 #[.val (.ref (w 4)), .val (.ref (w 2)), .val (.ref (w 3)), .val (.ref (w 1)), .val (.ref (w 3))] [(.ref (w 2))]))
  refine oS (fun t k => XS.aload X3.here hx rfl (hb hby d3_118) rfl rfl k) ?_
  refine oS (fun t k => Jvm.RoadKit.acmp (g := (mkF m 120 #[.val (.ref (w 4)), .val (.ref (w 2)), .val (.ref (w 3)), .val (.ref (w 1)), .val (.ref (w 3))] [(.ref (w 3)), (.ref (w 2))])) X3 hx rfl rfl rfl (pc0 := 120) (pc' := 133) (same := false) rfl (hb hby d3_120) rfl (decide_eq_false fun q => (own_neI (wF2_ordinal W) (wF3_ordinal W) (by decide)) (Value.ref.inj q)) (by decide) (by decide) k) ?_
  refine oS (fun t k => XS.aconstNull X3.here hx rfl (hb hby d3_133) k) ?_
  refine oS (fun t k => XS.goto X3.here hx rfl (pc0 := 134) (pc' := 138) rfl (hb hby d3_134) (by decide) (by decide) k) ?_
  obtain ⟨_, _, ⟨T4, L4, k4, n4⟩, -, X4, ⟨Lc4, hQ4, l4, y4, z4⟩, st4⟩ := Jvm.LawKit.callS X3 hx (y := mY6) hown (mvT hZ (oW hw 34 rfl)) (mvT hZ (oW hw 35 rfl)) (mvT hZ (oW hw 36 rfl)) (mvT hZ (oW hw 37 rfl)) (by decide) (backOf (W := 0) (rm_ofN0 l Z a0 hw []  w h0 n0 O0 W ) hZ (oW hw 37 rfl) (oW hw 36 rfl) (by decide) (by decide)) (g := (mkF m 138 #[.val (.ref (w 4)), .val (.ref (w 2)), .val (.ref (w 3)), .val (.ref (w 1)), .val (.ref (w 3))] [.null])) rfl (by rw [hml]; rfl) (argsL := [.null]) (rest := []) (lenOf pd_2 rfl) rfl (by show 2 * 0 + _ ≤ _; exact Nat.le_of_eq rfl) (hb hby d3_138) (fun _ _ => ⟨rfl, e3, (by decide : 0 + 0 ≤ _), (by decide : 0 + 0 ≤ _)⟩)
  dsimp only [Pt.U, Pt.locs, Pt.cells, Pt.slots] at X4 l4 y4 z4 st4 hQ4
  rw [l4, y4, z4] at X4
  clear l4 y4 z4
  obtain ⟨rfl, Nq4, e4⟩ := hQ4
  have N4 := Fr.app N3 Nq4
  refine oS (fun t k => st4 t k) ?_
  show oG _ _ _ _ _ _ _ (T4.setTop (mkF m 141 #[.val (.ref (w 4)), .val (.ref (w 2)), .val (.ref (w 3)), .val (.ref (w 1)), .val (.ref (w 3))] [(.ref (w 7))]))
  try clear st4 X3 e3
  exact own_ret (v := some (.ref (w 7))) X4 (fun h => by rw [Bd.returns] at h; cases h) Bd.notSynchronized (fun fs hr => retOut X4 hx (t := (.object "java/util/Optional")) Bd.returns rfl (Or.inr (Or.inr (Or.inr (Or.inr ⟨rfl, rfl, rfl⟩)))) (hb hby d3_141) hr) (by rw [e4]; exact ⟨rfl, N4, rfl⟩) (by decide) (by decide)
def Q_ty_122 (Z : State)  (w : Nat → Addr) (h0 : Heap) (n0 : Nat) (v : Option Value) (h : Heap) (L : List Loc) : Prop := v = some (.ref (w 7)) ∧ Fr n0 L ∧ h = h0
set_option maxRecDepth 65536 in
set_option maxHeartbeats 40000000 in
theorem rm_ty_122 (l : Launch) (Z : State) (a0 : Array Value) (hw : ∀ d ∈ tables_1, d.before a0 Z = true) (ws : List Jvm.Cond)  (w : Nat → Addr) (h0 : Heap) (n0 : Nat) (O0 : Old Z n0 h0) (W : own_World Z w) :
    MetFree l mY8 (head1 (Jvm.Cond.code mY8 prog_45_method_6_code 5 (some (.object "java/util/Optional")) :: ws) ({ frames := 1, cells := 0, slots := 0, locals := 12 } : Room)) (fun a U => a = #[(.ref (w 4)), (.ref (w 2)), (.ref (w 2))] ∧ Z.Warmed39 U.vm ∧ U.heap = h0) (fun _ _ _ _ _ => True) (fun _ U o U' => ∃ v L, o = .returned v ∧ Q_ty_122 Z  w h0 n0 v U'.heap L ∧ FrameEnd U o U' L ({ frames := 1, cells := 0, slots := 0, locals := 12 } : Room).cells ({ frames := 1, cells := 0, slots := 0, locals := 12 } : Room).slots) := by
  refine MetFree.of_bodySF (plainFor_of_name pn_4) hisR ?_
  intro p e s m args below meth c s₁ Bd hml0 hP hK
  obtain ⟨rfl, hZ, hh⟩ := hP
  have hx := Bd.exec
  have hby := Bd.bytes
  have hml : c.maxLocals = 5 := hml0
  have hown : s.vm.findClass "com/example/planwright/planwright/model/Expression$Operator" = some m.cls := findClass_of_methodNamed Bd.named
  have hnm := (name_of_methodNamed Bd.named Bd.method).1
  have X0 : Stand p l e ({ frames := 1, cells := 0, slots := 0, locals := 12 } : Room) s m #[(.ref (w 4)), (.ref (w 2)), (.ref (w 2))] below meth c s₁ [] 0 0 := Stand.of_body Bd
  have e0 : s₁.heap = h0 := by rw [← hh, Bd.state]; rfl
  have N0 := Fr.nil n0
  show oG p e below s (Q_ty_122 Z  w h0 n0) ({ frames := 1, cells := 0, slots := 0, locals := 12 } : Room).cells ({ frames := 1, cells := 0, slots := 0, locals := 12 } : Room).slots _
  refine oS (fun t k => castTop (ef_3_rrr m (w 4) (w 2) (w 2)) k) ?_
  show oG _ _ _ _ _ _ _ (s₁.setTop (mkF m 0 #[.val (.ref (w 4)), .val (.ref (w 2)), .val (.ref (w 2)), .unset, .unset] []))
  obtain ⟨T1, X1, e1, st1⟩ := getS2 X0 hx hZ hown (host := "") (Or.inl (oW hw 22 rfl)) Via.refl e0 ((wS1 W).ext O0.2) (g := (mkF m 0 #[.val (.ref (w 4)), .val (.ref (w 2)), .val (.ref (w 2)), .unset, .unset] [])) rfl (hb hby d3_0)
  refine oS (fun t k => st1 t k) ?_
  try clear st1
  refine oS (fun t k => XS.astoreN X1.here hx rfl (hb hby d3_3) rfl rfl (l' := #[.val (.ref (w 4)), .val (.ref (w 2)), .val (.ref (w 2)), .val (.ref (w 1)), .unset]) rfl k) ?_
  obtain ⟨T2, X2, e2, st2⟩ := getS2 X1 hx hZ hown (host := "") (Or.inl (oW hw 23 rfl)) Via.refl e1 ((wS3 W).ext O0.2) (g := (mkF m 4 #[.val (.ref (w 4)), .val (.ref (w 2)), .val (.ref (w 2)), .val (.ref (w 1)), .unset] [])) rfl (hb hby d3_4)
  refine oS (fun t k => st2 t k) ?_
  try clear st2 X1 e1
  try clear T1
  refine oS (fun t k => XS.astore X2.here hx rfl (hb hby d3_7) rfl rfl (l' := #[.val (.ref (w 4)), .val (.ref (w 2)), .val (.ref (w 2)), .val (.ref (w 1)), .val (.ref (w 3))]) rfl k) ?_
  refine oS (fun t k => XS.aloadN X2.here hx rfl (hb hby d3_9) rfl rfl k) ?_
  show oG _ _ _ _ _ _ _ (T2.setTop (mkF m 10 #[.val (.ref (w 4)), .val (.ref (w 2)), .val (.ref (w 2)), .val (.ref (w 1)), .val (.ref (w 3))] [(.ref (w 2))]))
  refine oS (fun t k => XS.aloadN X2.here hx rfl (hb hby d3_10) rfl rfl k) ?_
  refine oS (fun t k => Jvm.RoadKit.acmp (g := (mkF m 11 #[.val (.ref (w 4)), .val (.ref (w 2)), .val (.ref (w 2)), .val (.ref (w 1)), .val (.ref (w 3))] [(.ref (w 1)), (.ref (w 2))])) X2 hx rfl rfl rfl (pc0 := 11) (pc' := 24) (same := false) rfl (hb hby d3_11) rfl (decide_eq_false fun q => (own_neI (wF2_ordinal W) (wF1_ordinal W) (by decide)) (Value.ref.inj q)) (by decide) (by decide) k) ?_
  refine oS (fun t k => XS.aloadN X2.here hx rfl (hb hby d3_24) rfl rfl k) ?_
  obtain ⟨cq3, kq3, q3a, q3b, q3c⟩ := isOf hZ e2 ((wE4 W).ext O0.2)
  obtain ⟨_, _, ⟨T3, L3, k3, n3⟩, -, X3, ⟨Lc3, hQ3, l3, y3, z3⟩, st3⟩ := X2.virtualBackUp hx (x := mY9) (y := mY1) hown (mvT hZ (oW hw 25 rfl)) (mvT hZ (oW hw 26 rfl)) (mvT hZ (oW hw 27 rfl)) (by decide) (mvT hZ (oW hw 29 rfl)) (mvT hZ (oW hw 28 rfl)) (backOf (W := 0) (rm_ord_1 l Z a0 hw []  w h0 n0 O0 W ) hZ (oW hw 31 rfl) (oW hw 30 rfl) (by decide) (by decide)) q3a q3c (g := (mkF m 25 #[.val (.ref (w 4)), .val (.ref (w 2)), .val (.ref (w 2)), .val (.ref (w 1)), .val (.ref (w 3))] [(.ref (w 4))])) rfl (by rw [hml]; rfl) (Steps.refl _) (argsL := []) (rest := []) (lenOf pd_3 rfl) rfl (by show 2 * 0 + _ ≤ _; exact Nat.le_of_eq rfl) (hb hby d3_25) (fun _ _ => ⟨rfl, e2, (by decide : 0 + 0 ≤ _), (by decide : 0 + 0 ≤ _)⟩)
  dsimp only [Pt.U, Pt.locs, Pt.cells, Pt.slots] at X3 l3 y3 z3 st3 hQ3
  rw [l3, y3, z3] at X3
  clear l3 y3 z3
  obtain ⟨rfl, Nq3, e3⟩ := hQ3
  have N3 := Fr.app N0 Nq3
  refine oS (fun t k => st3.trans k) ?_
  show oG _ _ _ _ _ _ _ (T3.setTop (mkF m 28 #[.val (.ref (w 4)), .val (.ref (w 2)), .val (.ref (w 2)), .val (.ref (w 1)), .val (.ref (w 3))] [(.int 1)]))
  try clear st3 X2 e2
  try clear T2
  refine oS (fun t k => XS.tswIn X3.here hx rfl (pc0 := 28) (pc' := 101) rfl (hb hby d3_28) (i := (1 : Int32)) rfl (by decide) (o := 73) rfl (by decide) (by decide) k) ?_
  refine oS (fun t k => XS.aloadN X3.here hx rfl (hb hby d3_101) rfl rfl k) ?_
  refine oS (fun t k => XS.aload X3.here hx rfl (hb hby d3_102) rfl rfl k) ?_
  refine oS (fun t k => Jvm.RoadKit.acmp (g := (mkF m 104 #[.val (.ref (w 4)), .val (.ref (w 2)), .val (.ref (w 2)), .val (.ref (w 1)), .val (.ref (w 3))] [(.ref (w 3)), (.ref (w 2))])) X3 hx rfl rfl rfl (pc0 := 104) (pc' := 117) (same := false) rfl (hb hby d3_104) rfl (decide_eq_false fun q => (own_neI (wF2_ordinal W) (wF3_ordinal W) (by decide)) (Value.ref.inj q)) (by decide) (by decide) k) ?_
  refine oS (fun t k => XS.aloadN X3.here hx rfl (hb hby d3_117) rfl rfl k) ?_
  show oG _ _ _ _ _ _ _ (T3.setTop (mkF m 118 #[.val (.ref (w 4)), .val (.ref (w 2)), .val (.ref (w 2)), .val (.ref (w 1)), .val (.ref (w 3))] [(.ref (w 2))]))
  refine oS (fun t k => XS.aload X3.here hx rfl (hb hby d3_118) rfl rfl k) ?_
  refine oS (fun t k => Jvm.RoadKit.acmp (g := (mkF m 120 #[.val (.ref (w 4)), .val (.ref (w 2)), .val (.ref (w 2)), .val (.ref (w 1)), .val (.ref (w 3))] [(.ref (w 3)), (.ref (w 2))])) X3 hx rfl rfl rfl (pc0 := 120) (pc' := 133) (same := false) rfl (hb hby d3_120) rfl (decide_eq_false fun q => (own_neI (wF2_ordinal W) (wF3_ordinal W) (by decide)) (Value.ref.inj q)) (by decide) (by decide) k) ?_
  refine oS (fun t k => XS.aconstNull X3.here hx rfl (hb hby d3_133) k) ?_
  refine oS (fun t k => XS.goto X3.here hx rfl (pc0 := 134) (pc' := 138) rfl (hb hby d3_134) (by decide) (by decide) k) ?_
  obtain ⟨_, _, ⟨T4, L4, k4, n4⟩, -, X4, ⟨Lc4, hQ4, l4, y4, z4⟩, st4⟩ := Jvm.LawKit.callS X3 hx (y := mY6) hown (mvT hZ (oW hw 34 rfl)) (mvT hZ (oW hw 35 rfl)) (mvT hZ (oW hw 36 rfl)) (mvT hZ (oW hw 37 rfl)) (by decide) (backOf (W := 0) (rm_ofN0 l Z a0 hw []  w h0 n0 O0 W ) hZ (oW hw 37 rfl) (oW hw 36 rfl) (by decide) (by decide)) (g := (mkF m 138 #[.val (.ref (w 4)), .val (.ref (w 2)), .val (.ref (w 2)), .val (.ref (w 1)), .val (.ref (w 3))] [.null])) rfl (by rw [hml]; rfl) (argsL := [.null]) (rest := []) (lenOf pd_2 rfl) rfl (by show 2 * 0 + _ ≤ _; exact Nat.le_of_eq rfl) (hb hby d3_138) (fun _ _ => ⟨rfl, e3, (by decide : 0 + 0 ≤ _), (by decide : 0 + 0 ≤ _)⟩)
  dsimp only [Pt.U, Pt.locs, Pt.cells, Pt.slots] at X4 l4 y4 z4 st4 hQ4
  rw [l4, y4, z4] at X4
  clear l4 y4 z4
  obtain ⟨rfl, Nq4, e4⟩ := hQ4
  have N4 := Fr.app N3 Nq4
  refine oS (fun t k => st4 t k) ?_
  show oG _ _ _ _ _ _ _ (T4.setTop (mkF m 141 #[.val (.ref (w 4)), .val (.ref (w 2)), .val (.ref (w 2)), .val (.ref (w 1)), .val (.ref (w 3))] [(.ref (w 7))]))
  try clear st4 X3 e3
  exact own_ret (v := some (.ref (w 7))) X4 (fun h => by rw [Bd.returns] at h; cases h) Bd.notSynchronized (fun fs hr => retOut X4 hx (t := (.object "java/util/Optional")) Bd.returns rfl (Or.inr (Or.inr (Or.inr (Or.inr ⟨rfl, rfl, rfl⟩)))) (hb hby d3_141) hr) (by rw [e4]; exact ⟨rfl, N4, rfl⟩) (by decide) (by decide)
def Q_ty_200 (Z : State)  (w : Nat → Addr) (h0 : Heap) (n0 : Nat) (v : Option Value) (h : Heap) (L : List Loc) : Prop := ∃ r : Addr, v = some (.ref r) ∧ Fr n0 L ∧ Keep h0 h [] ∧ h0.size ≤ r ∧ Exa Z h r "java/util/Optional" ∧ Fld Z h r "java/util/Optional" "value" "Ljava/lang/Object;" (.ref (w 1))
set_option maxRecDepth 65536 in
set_option maxHeartbeats 40000000 in
theorem rm_ty_200 (l : Launch) (Z : State) (a0 : Array Value) (hw : ∀ d ∈ tables_1, d.before a0 Z = true) (ws : List Jvm.Cond)  (w : Nat → Addr) (h0 : Heap) (n0 : Nat) (O0 : Old Z n0 h0) (W : own_World Z w) :
    MetFree l mY8 (head1 (Jvm.Cond.code mY8 prog_45_method_6_code 5 (some (.object "java/util/Optional")) :: ws) ({ frames := 3, cells := 1, slots := 1, locals := 38 } : Room)) (fun a U => a = #[(.ref (w 6)), (.ref (w 1)), (.ref (w 1))] ∧ Z.Warmed39 U.vm ∧ U.heap = h0) (fun _ _ _ _ _ => True) (fun _ U o U' => ∃ v L, o = .returned v ∧ Q_ty_200 Z  w h0 n0 v U'.heap L ∧ FrameEnd U o U' L ({ frames := 3, cells := 1, slots := 1, locals := 38 } : Room).cells ({ frames := 3, cells := 1, slots := 1, locals := 38 } : Room).slots) := by
  refine MetFree.of_bodySF (plainFor_of_name pn_4) hisR ?_
  intro p e s m args below meth c s₁ Bd hml0 hP hK
  obtain ⟨rfl, hZ, hh⟩ := hP
  have hx := Bd.exec
  have hby := Bd.bytes
  have hml : c.maxLocals = 5 := hml0
  have hown : s.vm.findClass "com/example/planwright/planwright/model/Expression$Operator" = some m.cls := findClass_of_methodNamed Bd.named
  have hnm := (name_of_methodNamed Bd.named Bd.method).1
  have X0 : Stand p l e ({ frames := 3, cells := 1, slots := 1, locals := 38 } : Room) s m #[(.ref (w 6)), (.ref (w 1)), (.ref (w 1))] below meth c s₁ [] 0 0 := Stand.of_body Bd
  have e0 : s₁.heap = h0 := by rw [← hh, Bd.state]; rfl
  have N0 := Fr.nil n0
  show oG p e below s (Q_ty_200 Z  w h0 n0) ({ frames := 3, cells := 1, slots := 1, locals := 38 } : Room).cells ({ frames := 3, cells := 1, slots := 1, locals := 38 } : Room).slots _
  refine oS (fun t k => castTop (ef_3_rrr m (w 6) (w 1) (w 1)) k) ?_
  show oG _ _ _ _ _ _ _ (s₁.setTop (mkF m 0 #[.val (.ref (w 6)), .val (.ref (w 1)), .val (.ref (w 1)), .unset, .unset] []))
  obtain ⟨T1, X1, e1, st1⟩ := getS2 X0 hx hZ hown (host := "") (Or.inl (oW hw 22 rfl)) Via.refl e0 ((wS1 W).ext O0.2) (g := (mkF m 0 #[.val (.ref (w 6)), .val (.ref (w 1)), .val (.ref (w 1)), .unset, .unset] [])) rfl (hb hby d3_0)
  refine oS (fun t k => st1 t k) ?_
  try clear st1
  refine oS (fun t k => XS.astoreN X1.here hx rfl (hb hby d3_3) rfl rfl (l' := #[.val (.ref (w 6)), .val (.ref (w 1)), .val (.ref (w 1)), .val (.ref (w 1)), .unset]) rfl k) ?_
  obtain ⟨T2, X2, e2, st2⟩ := getS2 X1 hx hZ hown (host := "") (Or.inl (oW hw 23 rfl)) Via.refl e1 ((wS3 W).ext O0.2) (g := (mkF m 4 #[.val (.ref (w 6)), .val (.ref (w 1)), .val (.ref (w 1)), .val (.ref (w 1)), .unset] [])) rfl (hb hby d3_4)
  refine oS (fun t k => st2 t k) ?_
  try clear st2 X1 e1
  try clear T1
  refine oS (fun t k => XS.astore X2.here hx rfl (hb hby d3_7) rfl rfl (l' := #[.val (.ref (w 6)), .val (.ref (w 1)), .val (.ref (w 1)), .val (.ref (w 1)), .val (.ref (w 3))]) rfl k) ?_
  refine oS (fun t k => XS.aloadN X2.here hx rfl (hb hby d3_9) rfl rfl k) ?_
  show oG _ _ _ _ _ _ _ (T2.setTop (mkF m 10 #[.val (.ref (w 6)), .val (.ref (w 1)), .val (.ref (w 1)), .val (.ref (w 1)), .val (.ref (w 3))] [(.ref (w 1))]))
  refine oS (fun t k => XS.aloadN X2.here hx rfl (hb hby d3_10) rfl rfl k) ?_
  refine oS (fun t k => Jvm.RoadKit.acmp (g := (mkF m 11 #[.val (.ref (w 6)), .val (.ref (w 1)), .val (.ref (w 1)), .val (.ref (w 1)), .val (.ref (w 3))] [(.ref (w 1)), (.ref (w 1))])) X2 hx rfl rfl rfl (pc0 := 11) (pc' := 14) (same := true) rfl (hb hby d3_11) rfl (decide_eq_true rfl) (by decide) (by decide) k) ?_
  refine oS (fun t k => XS.aloadN X2.here hx rfl (hb hby d3_14) rfl rfl k) ?_
  refine oS (fun t k => XS.aloadN X2.here hx rfl (hb hby d3_15) rfl rfl k) ?_
  refine oS (fun t k => Jvm.RoadKit.acmp (g := (mkF m 16 #[.val (.ref (w 6)), .val (.ref (w 1)), .val (.ref (w 1)), .val (.ref (w 1)), .val (.ref (w 3))] [(.ref (w 1)), (.ref (w 1))])) X2 hx rfl rfl rfl (pc0 := 16) (pc' := 19) (same := true) rfl (hb hby d3_16) rfl (decide_eq_true rfl) (by decide) (by decide) k) ?_
  show oG _ _ _ _ _ _ _ (T2.setTop (mkF m 19 #[.val (.ref (w 6)), .val (.ref (w 1)), .val (.ref (w 1)), .val (.ref (w 1)), .val (.ref (w 3))] []))
  refine oS (fun t k => XS.aloadN X2.here hx rfl (hb hby d3_19) rfl rfl k) ?_
  obtain ⟨_, _, ⟨T3, L3, k3, n3⟩, -, X3, ⟨Lc3, hQ3, l3, y3, z3⟩, st3⟩ := Jvm.LawKit.callS X2 hx (y := mY5) hown (mvT hZ (oW hw 48 rfl)) (mvT hZ (oW hw 49 rfl)) (mvT hZ (oW hw 36 rfl)) (mvT hZ (oW hw 50 rfl)) (by decide) (backOf (W := 0) (rm_of l Z a0 hw [] (w 1) w h0 n0 O0 W ) hZ (oW hw 50 rfl) (oW hw 36 rfl) (by decide) (by decide)) (g := (mkF m 20 #[.val (.ref (w 6)), .val (.ref (w 1)), .val (.ref (w 1)), .val (.ref (w 1)), .val (.ref (w 3))] [(.ref (w 1))])) rfl (by rw [hml]; rfl) (argsL := [(.ref (w 1))]) (rest := []) (lenOf pd_2 rfl) rfl (by show 2 * 0 + _ ≤ _; exact Nat.le_of_eq rfl) (hb hby d3_20) (fun _ _ => ⟨rfl, e2, (by decide : 0 + 1 ≤ _), (by decide : 0 + 1 ≤ _)⟩)
  dsimp only [Pt.U, Pt.locs, Pt.cells, Pt.slots] at X3 l3 y3 z3 st3 hQ3
  rw [l3, y3, z3] at X3
  clear l3 y3 z3
  obtain ⟨r3, rfl, Nq3, K3, sr3, P3_0, P3_1⟩ := hQ3
  have N3 := Fr.app N0 Nq3
  have O3 := O0.keep K3 (fun x q => absurd q List.not_mem_nil)
  have Kp3 : Keep h0 T3.heap [] := (Keep.refl h0 []).trans K3 (fun x q => absurd q List.not_mem_nil)
  have gr3 : n0 ≤ r3 := Nat.le_trans (O0.1 ▸ O0.2.1) sr3
  have szr3 : h0.size ≤ r3 := Nat.le_trans (Nat.le_refl _) sr3
  refine oS (fun t k => st3 t k) ?_
  show oG _ _ _ _ _ _ _ (T3.setTop (mkF m 23 #[.val (.ref (w 6)), .val (.ref (w 1)), .val (.ref (w 1)), .val (.ref (w 1)), .val (.ref (w 3))] [(.ref r3)]))
  try clear st3 X2 e2
  try clear T2
  exact own_ret (v := some (.ref r3)) X3 (fun h => by rw [Bd.returns] at h; cases h) Bd.notSynchronized (fun fs hr => retOut X3 hx (t := (.object "java/util/Optional")) Bd.returns rfl (Or.inr (Or.inr (Or.inr (Or.inr ⟨rfl, rfl, rfl⟩)))) (hb hby d3_23) hr) (by exact ⟨r3, rfl, N3, Kp3, szr3, P3_0, P3_1⟩) (by decide) (by decide)
theorem d3_137 : decode prog_45_method_6_code 137 = .ok (.aconst_null, 1) := by decide +kernel
def Q_ty_201 (Z : State)  (w : Nat → Addr) (h0 : Heap) (n0 : Nat) (v : Option Value) (h : Heap) (L : List Loc) : Prop := v = some (.ref (w 7)) ∧ Fr n0 L ∧ h = h0
set_option maxRecDepth 65536 in
set_option maxHeartbeats 40000000 in
theorem rm_ty_201 (l : Launch) (Z : State) (a0 : Array Value) (hw : ∀ d ∈ tables_1, d.before a0 Z = true) (ws : List Jvm.Cond)  (w : Nat → Addr) (h0 : Heap) (n0 : Nat) (O0 : Old Z n0 h0) (W : own_World Z w) :
    MetFree l mY8 (head1 (Jvm.Cond.code mY8 prog_45_method_6_code 5 (some (.object "java/util/Optional")) :: ws) ({ frames := 1, cells := 0, slots := 0, locals := 12 } : Room)) (fun a U => a = #[(.ref (w 6)), (.ref (w 1)), (.ref (w 3))] ∧ Z.Warmed39 U.vm ∧ U.heap = h0) (fun _ _ _ _ _ => True) (fun _ U o U' => ∃ v L, o = .returned v ∧ Q_ty_201 Z  w h0 n0 v U'.heap L ∧ FrameEnd U o U' L ({ frames := 1, cells := 0, slots := 0, locals := 12 } : Room).cells ({ frames := 1, cells := 0, slots := 0, locals := 12 } : Room).slots) := by
  refine MetFree.of_bodySF (plainFor_of_name pn_4) hisR ?_
  intro p e s m args below meth c s₁ Bd hml0 hP hK
  obtain ⟨rfl, hZ, hh⟩ := hP
  have hx := Bd.exec
  have hby := Bd.bytes
  have hml : c.maxLocals = 5 := hml0
  have hown : s.vm.findClass "com/example/planwright/planwright/model/Expression$Operator" = some m.cls := findClass_of_methodNamed Bd.named
  have hnm := (name_of_methodNamed Bd.named Bd.method).1
  have X0 : Stand p l e ({ frames := 1, cells := 0, slots := 0, locals := 12 } : Room) s m #[(.ref (w 6)), (.ref (w 1)), (.ref (w 3))] below meth c s₁ [] 0 0 := Stand.of_body Bd
  have e0 : s₁.heap = h0 := by rw [← hh, Bd.state]; rfl
  have N0 := Fr.nil n0
  show oG p e below s (Q_ty_201 Z  w h0 n0) ({ frames := 1, cells := 0, slots := 0, locals := 12 } : Room).cells ({ frames := 1, cells := 0, slots := 0, locals := 12 } : Room).slots _
  refine oS (fun t k => castTop (ef_3_rrr m (w 6) (w 1) (w 3)) k) ?_
  show oG _ _ _ _ _ _ _ (s₁.setTop (mkF m 0 #[.val (.ref (w 6)), .val (.ref (w 1)), .val (.ref (w 3)), .unset, .unset] []))
  obtain ⟨T1, X1, e1, st1⟩ := getS2 X0 hx hZ hown (host := "") (Or.inl (oW hw 22 rfl)) Via.refl e0 ((wS1 W).ext O0.2) (g := (mkF m 0 #[.val (.ref (w 6)), .val (.ref (w 1)), .val (.ref (w 3)), .unset, .unset] [])) rfl (hb hby d3_0)
  refine oS (fun t k => st1 t k) ?_
  try clear st1
  refine oS (fun t k => XS.astoreN X1.here hx rfl (hb hby d3_3) rfl rfl (l' := #[.val (.ref (w 6)), .val (.ref (w 1)), .val (.ref (w 3)), .val (.ref (w 1)), .unset]) rfl k) ?_
  obtain ⟨T2, X2, e2, st2⟩ := getS2 X1 hx hZ hown (host := "") (Or.inl (oW hw 23 rfl)) Via.refl e1 ((wS3 W).ext O0.2) (g := (mkF m 4 #[.val (.ref (w 6)), .val (.ref (w 1)), .val (.ref (w 3)), .val (.ref (w 1)), .unset] [])) rfl (hb hby d3_4)
  refine oS (fun t k => st2 t k) ?_
  try clear st2 X1 e1
  try clear T1
  refine oS (fun t k => XS.astore X2.here hx rfl (hb hby d3_7) rfl rfl (l' := #[.val (.ref (w 6)), .val (.ref (w 1)), .val (.ref (w 3)), .val (.ref (w 1)), .val (.ref (w 3))]) rfl k) ?_
  refine oS (fun t k => XS.aloadN X2.here hx rfl (hb hby d3_9) rfl rfl k) ?_
  show oG _ _ _ _ _ _ _ (T2.setTop (mkF m 10 #[.val (.ref (w 6)), .val (.ref (w 1)), .val (.ref (w 3)), .val (.ref (w 1)), .val (.ref (w 3))] [(.ref (w 1))]))
  refine oS (fun t k => XS.aloadN X2.here hx rfl (hb hby d3_10) rfl rfl k) ?_
  refine oS (fun t k => Jvm.RoadKit.acmp (g := (mkF m 11 #[.val (.ref (w 6)), .val (.ref (w 1)), .val (.ref (w 3)), .val (.ref (w 1)), .val (.ref (w 3))] [(.ref (w 1)), (.ref (w 1))])) X2 hx rfl rfl rfl (pc0 := 11) (pc' := 14) (same := true) rfl (hb hby d3_11) rfl (decide_eq_true rfl) (by decide) (by decide) k) ?_
  refine oS (fun t k => XS.aloadN X2.here hx rfl (hb hby d3_14) rfl rfl k) ?_
  refine oS (fun t k => XS.aloadN X2.here hx rfl (hb hby d3_15) rfl rfl k) ?_
  refine oS (fun t k => Jvm.RoadKit.acmp (g := (mkF m 16 #[.val (.ref (w 6)), .val (.ref (w 1)), .val (.ref (w 3)), .val (.ref (w 1)), .val (.ref (w 3))] [(.ref (w 1)), (.ref (w 3))])) X2 hx rfl rfl rfl (pc0 := 16) (pc' := 24) (same := false) rfl (hb hby d3_16) rfl (decide_eq_false fun q => (own_neI (wF3_ordinal W) (wF1_ordinal W) (by decide)) (Value.ref.inj q)) (by decide) (by decide) k) ?_
  show oG _ _ _ _ _ _ _ (T2.setTop (mkF m 24 #[.val (.ref (w 6)), .val (.ref (w 1)), .val (.ref (w 3)), .val (.ref (w 1)), .val (.ref (w 3))] []))
  refine oS (fun t k => XS.aloadN X2.here hx rfl (hb hby d3_24) rfl rfl k) ?_
  obtain ⟨cq3, kq3, q3a, q3b, q3c⟩ := isOf hZ e2 ((wE6 W).ext O0.2)
  obtain ⟨_, _, ⟨T3, L3, k3, n3⟩, -, X3, ⟨Lc3, hQ3, l3, y3, z3⟩, st3⟩ := X2.virtualBackUp hx (x := mY9) (y := mY1) hown (mvT hZ (oW hw 25 rfl)) (mvT hZ (oW hw 26 rfl)) (mvT hZ (oW hw 27 rfl)) (by decide) (mvT hZ (oW hw 29 rfl)) (mvT hZ (oW hw 28 rfl)) (backOf (W := 0) (rm_ord_2 l Z a0 hw []  w h0 n0 O0 W ) hZ (oW hw 31 rfl) (oW hw 30 rfl) (by decide) (by decide)) q3a q3c (g := (mkF m 25 #[.val (.ref (w 6)), .val (.ref (w 1)), .val (.ref (w 3)), .val (.ref (w 1)), .val (.ref (w 3))] [(.ref (w 6))])) rfl (by rw [hml]; rfl) (Steps.refl _) (argsL := []) (rest := []) (lenOf pd_3 rfl) rfl (by show 2 * 0 + _ ≤ _; exact Nat.le_of_eq rfl) (hb hby d3_25) (fun _ _ => ⟨rfl, e2, (by decide : 0 + 0 ≤ _), (by decide : 0 + 0 ≤ _)⟩)
  dsimp only [Pt.U, Pt.locs, Pt.cells, Pt.slots] at X3 l3 y3 z3 st3 hQ3
  rw [l3, y3, z3] at X3
  clear l3 y3 z3
  obtain ⟨rfl, Nq3, e3⟩ := hQ3
  have N3 := Fr.app N0 Nq3
  refine oS (fun t k => st3.trans k) ?_
  show oG _ _ _ _ _ _ _ (T3.setTop (mkF m 28 #[.val (.ref (w 6)), .val (.ref (w 1)), .val (.ref (w 3)), .val (.ref (w 1)), .val (.ref (w 3))] [(.int 2)]))
  try clear st3 X2 e2
  try clear T2
  refine oS (fun t k => XS.tswIn X3.here hx rfl (pc0 := 28) (pc' := 137) rfl (hb hby d3_28) (i := (2 : Int32)) rfl (by decide) (o := 109) rfl (by decide) (by decide) k) ?_
  refine oS (fun t k => XS.aconstNull X3.here hx rfl (hb hby d3_137) k) ?_
  obtain ⟨_, _, ⟨T4, L4, k4, n4⟩, -, X4, ⟨Lc4, hQ4, l4, y4, z4⟩, st4⟩ := Jvm.LawKit.callS X3 hx (y := mY6) hown (mvT hZ (oW hw 34 rfl)) (mvT hZ (oW hw 35 rfl)) (mvT hZ (oW hw 36 rfl)) (mvT hZ (oW hw 37 rfl)) (by decide) (backOf (W := 0) (rm_ofN0 l Z a0 hw []  w h0 n0 O0 W ) hZ (oW hw 37 rfl) (oW hw 36 rfl) (by decide) (by decide)) (g := (mkF m 138 #[.val (.ref (w 6)), .val (.ref (w 1)), .val (.ref (w 3)), .val (.ref (w 1)), .val (.ref (w 3))] [.null])) rfl (by rw [hml]; rfl) (argsL := [.null]) (rest := []) (lenOf pd_2 rfl) rfl (by show 2 * 0 + _ ≤ _; exact Nat.le_of_eq rfl) (hb hby d3_138) (fun _ _ => ⟨rfl, e3, (by decide : 0 + 0 ≤ _), (by decide : 0 + 0 ≤ _)⟩)
  dsimp only [Pt.U, Pt.locs, Pt.cells, Pt.slots] at X4 l4 y4 z4 st4 hQ4
  rw [l4, y4, z4] at X4
  clear l4 y4 z4
  obtain ⟨rfl, Nq4, e4⟩ := hQ4
  have N4 := Fr.app N3 Nq4
  refine oS (fun t k => st4 t k) ?_
  show oG _ _ _ _ _ _ _ (T4.setTop (mkF m 141 #[.val (.ref (w 6)), .val (.ref (w 1)), .val (.ref (w 3)), .val (.ref (w 1)), .val (.ref (w 3))] [(.ref (w 7))]))
  try clear st4 X3 e3
  exact own_ret (v := some (.ref (w 7))) X4 (fun h => by rw [Bd.returns] at h; cases h) Bd.notSynchronized (fun fs hr => retOut X4 hx (t := (.object "java/util/Optional")) Bd.returns rfl (Or.inr (Or.inr (Or.inr (Or.inr ⟨rfl, rfl, rfl⟩)))) (hb hby d3_141) hr) (by rw [e4]; exact ⟨rfl, N4, rfl⟩) (by decide) (by decide)
def Q_ty_202 (Z : State)  (w : Nat → Addr) (h0 : Heap) (n0 : Nat) (v : Option Value) (h : Heap) (L : List Loc) : Prop := v = some (.ref (w 7)) ∧ Fr n0 L ∧ h = h0
set_option maxRecDepth 65536 in
set_option maxHeartbeats 40000000 in
theorem rm_ty_202 (l : Launch) (Z : State) (a0 : Array Value) (hw : ∀ d ∈ tables_1, d.before a0 Z = true) (ws : List Jvm.Cond)  (w : Nat → Addr) (h0 : Heap) (n0 : Nat) (O0 : Old Z n0 h0) (W : own_World Z w) :
    MetFree l mY8 (head1 (Jvm.Cond.code mY8 prog_45_method_6_code 5 (some (.object "java/util/Optional")) :: ws) ({ frames := 1, cells := 0, slots := 0, locals := 12 } : Room)) (fun a U => a = #[(.ref (w 6)), (.ref (w 1)), (.ref (w 2))] ∧ Z.Warmed39 U.vm ∧ U.heap = h0) (fun _ _ _ _ _ => True) (fun _ U o U' => ∃ v L, o = .returned v ∧ Q_ty_202 Z  w h0 n0 v U'.heap L ∧ FrameEnd U o U' L ({ frames := 1, cells := 0, slots := 0, locals := 12 } : Room).cells ({ frames := 1, cells := 0, slots := 0, locals := 12 } : Room).slots) := by
  refine MetFree.of_bodySF (plainFor_of_name pn_4) hisR ?_
  intro p e s m args below meth c s₁ Bd hml0 hP hK
  obtain ⟨rfl, hZ, hh⟩ := hP
  have hx := Bd.exec
  have hby := Bd.bytes
  have hml : c.maxLocals = 5 := hml0
  have hown : s.vm.findClass "com/example/planwright/planwright/model/Expression$Operator" = some m.cls := findClass_of_methodNamed Bd.named
  have hnm := (name_of_methodNamed Bd.named Bd.method).1
  have X0 : Stand p l e ({ frames := 1, cells := 0, slots := 0, locals := 12 } : Room) s m #[(.ref (w 6)), (.ref (w 1)), (.ref (w 2))] below meth c s₁ [] 0 0 := Stand.of_body Bd
  have e0 : s₁.heap = h0 := by rw [← hh, Bd.state]; rfl
  have N0 := Fr.nil n0
  show oG p e below s (Q_ty_202 Z  w h0 n0) ({ frames := 1, cells := 0, slots := 0, locals := 12 } : Room).cells ({ frames := 1, cells := 0, slots := 0, locals := 12 } : Room).slots _
  refine oS (fun t k => castTop (ef_3_rrr m (w 6) (w 1) (w 2)) k) ?_
  show oG _ _ _ _ _ _ _ (s₁.setTop (mkF m 0 #[.val (.ref (w 6)), .val (.ref (w 1)), .val (.ref (w 2)), .unset, .unset] []))
  obtain ⟨T1, X1, e1, st1⟩ := getS2 X0 hx hZ hown (host := "") (Or.inl (oW hw 22 rfl)) Via.refl e0 ((wS1 W).ext O0.2) (g := (mkF m 0 #[.val (.ref (w 6)), .val (.ref (w 1)), .val (.ref (w 2)), .unset, .unset] [])) rfl (hb hby d3_0)
  refine oS (fun t k => st1 t k) ?_
  try clear st1
  refine oS (fun t k => XS.astoreN X1.here hx rfl (hb hby d3_3) rfl rfl (l' := #[.val (.ref (w 6)), .val (.ref (w 1)), .val (.ref (w 2)), .val (.ref (w 1)), .unset]) rfl k) ?_
  obtain ⟨T2, X2, e2, st2⟩ := getS2 X1 hx hZ hown (host := "") (Or.inl (oW hw 23 rfl)) Via.refl e1 ((wS3 W).ext O0.2) (g := (mkF m 4 #[.val (.ref (w 6)), .val (.ref (w 1)), .val (.ref (w 2)), .val (.ref (w 1)), .unset] [])) rfl (hb hby d3_4)
  refine oS (fun t k => st2 t k) ?_
  try clear st2 X1 e1
  try clear T1
  refine oS (fun t k => XS.astore X2.here hx rfl (hb hby d3_7) rfl rfl (l' := #[.val (.ref (w 6)), .val (.ref (w 1)), .val (.ref (w 2)), .val (.ref (w 1)), .val (.ref (w 3))]) rfl k) ?_
  refine oS (fun t k => XS.aloadN X2.here hx rfl (hb hby d3_9) rfl rfl k) ?_
  show oG _ _ _ _ _ _ _ (T2.setTop (mkF m 10 #[.val (.ref (w 6)), .val (.ref (w 1)), .val (.ref (w 2)), .val (.ref (w 1)), .val (.ref (w 3))] [(.ref (w 1))]))
  refine oS (fun t k => XS.aloadN X2.here hx rfl (hb hby d3_10) rfl rfl k) ?_
  refine oS (fun t k => Jvm.RoadKit.acmp (g := (mkF m 11 #[.val (.ref (w 6)), .val (.ref (w 1)), .val (.ref (w 2)), .val (.ref (w 1)), .val (.ref (w 3))] [(.ref (w 1)), (.ref (w 1))])) X2 hx rfl rfl rfl (pc0 := 11) (pc' := 14) (same := true) rfl (hb hby d3_11) rfl (decide_eq_true rfl) (by decide) (by decide) k) ?_
  refine oS (fun t k => XS.aloadN X2.here hx rfl (hb hby d3_14) rfl rfl k) ?_
  refine oS (fun t k => XS.aloadN X2.here hx rfl (hb hby d3_15) rfl rfl k) ?_
  refine oS (fun t k => Jvm.RoadKit.acmp (g := (mkF m 16 #[.val (.ref (w 6)), .val (.ref (w 1)), .val (.ref (w 2)), .val (.ref (w 1)), .val (.ref (w 3))] [(.ref (w 1)), (.ref (w 2))])) X2 hx rfl rfl rfl (pc0 := 16) (pc' := 24) (same := false) rfl (hb hby d3_16) rfl (decide_eq_false fun q => (own_neI (wF2_ordinal W) (wF1_ordinal W) (by decide)) (Value.ref.inj q)) (by decide) (by decide) k) ?_
  show oG _ _ _ _ _ _ _ (T2.setTop (mkF m 24 #[.val (.ref (w 6)), .val (.ref (w 1)), .val (.ref (w 2)), .val (.ref (w 1)), .val (.ref (w 3))] []))
  refine oS (fun t k => XS.aloadN X2.here hx rfl (hb hby d3_24) rfl rfl k) ?_
  obtain ⟨cq3, kq3, q3a, q3b, q3c⟩ := isOf hZ e2 ((wE6 W).ext O0.2)
  obtain ⟨_, _, ⟨T3, L3, k3, n3⟩, -, X3, ⟨Lc3, hQ3, l3, y3, z3⟩, st3⟩ := X2.virtualBackUp hx (x := mY9) (y := mY1) hown (mvT hZ (oW hw 25 rfl)) (mvT hZ (oW hw 26 rfl)) (mvT hZ (oW hw 27 rfl)) (by decide) (mvT hZ (oW hw 29 rfl)) (mvT hZ (oW hw 28 rfl)) (backOf (W := 0) (rm_ord_2 l Z a0 hw []  w h0 n0 O0 W ) hZ (oW hw 31 rfl) (oW hw 30 rfl) (by decide) (by decide)) q3a q3c (g := (mkF m 25 #[.val (.ref (w 6)), .val (.ref (w 1)), .val (.ref (w 2)), .val (.ref (w 1)), .val (.ref (w 3))] [(.ref (w 6))])) rfl (by rw [hml]; rfl) (Steps.refl _) (argsL := []) (rest := []) (lenOf pd_3 rfl) rfl (by show 2 * 0 + _ ≤ _; exact Nat.le_of_eq rfl) (hb hby d3_25) (fun _ _ => ⟨rfl, e2, (by decide : 0 + 0 ≤ _), (by decide : 0 + 0 ≤ _)⟩)
  dsimp only [Pt.U, Pt.locs, Pt.cells, Pt.slots] at X3 l3 y3 z3 st3 hQ3
  rw [l3, y3, z3] at X3
  clear l3 y3 z3
  obtain ⟨rfl, Nq3, e3⟩ := hQ3
  have N3 := Fr.app N0 Nq3
  refine oS (fun t k => st3.trans k) ?_
  show oG _ _ _ _ _ _ _ (T3.setTop (mkF m 28 #[.val (.ref (w 6)), .val (.ref (w 1)), .val (.ref (w 2)), .val (.ref (w 1)), .val (.ref (w 3))] [(.int 2)]))
  try clear st3 X2 e2
  try clear T2
  refine oS (fun t k => XS.tswIn X3.here hx rfl (pc0 := 28) (pc' := 137) rfl (hb hby d3_28) (i := (2 : Int32)) rfl (by decide) (o := 109) rfl (by decide) (by decide) k) ?_
  refine oS (fun t k => XS.aconstNull X3.here hx rfl (hb hby d3_137) k) ?_
  obtain ⟨_, _, ⟨T4, L4, k4, n4⟩, -, X4, ⟨Lc4, hQ4, l4, y4, z4⟩, st4⟩ := Jvm.LawKit.callS X3 hx (y := mY6) hown (mvT hZ (oW hw 34 rfl)) (mvT hZ (oW hw 35 rfl)) (mvT hZ (oW hw 36 rfl)) (mvT hZ (oW hw 37 rfl)) (by decide) (backOf (W := 0) (rm_ofN0 l Z a0 hw []  w h0 n0 O0 W ) hZ (oW hw 37 rfl) (oW hw 36 rfl) (by decide) (by decide)) (g := (mkF m 138 #[.val (.ref (w 6)), .val (.ref (w 1)), .val (.ref (w 2)), .val (.ref (w 1)), .val (.ref (w 3))] [.null])) rfl (by rw [hml]; rfl) (argsL := [.null]) (rest := []) (lenOf pd_2 rfl) rfl (by show 2 * 0 + _ ≤ _; exact Nat.le_of_eq rfl) (hb hby d3_138) (fun _ _ => ⟨rfl, e3, (by decide : 0 + 0 ≤ _), (by decide : 0 + 0 ≤ _)⟩)
  dsimp only [Pt.U, Pt.locs, Pt.cells, Pt.slots] at X4 l4 y4 z4 st4 hQ4
  rw [l4, y4, z4] at X4
  clear l4 y4 z4
  obtain ⟨rfl, Nq4, e4⟩ := hQ4
  have N4 := Fr.app N3 Nq4
  refine oS (fun t k => st4 t k) ?_
  show oG _ _ _ _ _ _ _ (T4.setTop (mkF m 141 #[.val (.ref (w 6)), .val (.ref (w 1)), .val (.ref (w 2)), .val (.ref (w 1)), .val (.ref (w 3))] [(.ref (w 7))]))
  try clear st4 X3 e3
  exact own_ret (v := some (.ref (w 7))) X4 (fun h => by rw [Bd.returns] at h; cases h) Bd.notSynchronized (fun fs hr => retOut X4 hx (t := (.object "java/util/Optional")) Bd.returns rfl (Or.inr (Or.inr (Or.inr (Or.inr ⟨rfl, rfl, rfl⟩)))) (hb hby d3_141) hr) (by rw [e4]; exact ⟨rfl, N4, rfl⟩) (by decide) (by decide)
def Q_ty_210 (Z : State)  (w : Nat → Addr) (h0 : Heap) (n0 : Nat) (v : Option Value) (h : Heap) (L : List Loc) : Prop := v = some (.ref (w 7)) ∧ Fr n0 L ∧ h = h0
set_option maxRecDepth 65536 in
set_option maxHeartbeats 40000000 in
theorem rm_ty_210 (l : Launch) (Z : State) (a0 : Array Value) (hw : ∀ d ∈ tables_1, d.before a0 Z = true) (ws : List Jvm.Cond)  (w : Nat → Addr) (h0 : Heap) (n0 : Nat) (O0 : Old Z n0 h0) (W : own_World Z w) :
    MetFree l mY8 (head1 (Jvm.Cond.code mY8 prog_45_method_6_code 5 (some (.object "java/util/Optional")) :: ws) ({ frames := 1, cells := 0, slots := 0, locals := 12 } : Room)) (fun a U => a = #[(.ref (w 6)), (.ref (w 3)), (.ref (w 1))] ∧ Z.Warmed39 U.vm ∧ U.heap = h0) (fun _ _ _ _ _ => True) (fun _ U o U' => ∃ v L, o = .returned v ∧ Q_ty_210 Z  w h0 n0 v U'.heap L ∧ FrameEnd U o U' L ({ frames := 1, cells := 0, slots := 0, locals := 12 } : Room).cells ({ frames := 1, cells := 0, slots := 0, locals := 12 } : Room).slots) := by
  refine MetFree.of_bodySF (plainFor_of_name pn_4) hisR ?_
  intro p e s m args below meth c s₁ Bd hml0 hP hK
  obtain ⟨rfl, hZ, hh⟩ := hP
  have hx := Bd.exec
  have hby := Bd.bytes
  have hml : c.maxLocals = 5 := hml0
  have hown : s.vm.findClass "com/example/planwright/planwright/model/Expression$Operator" = some m.cls := findClass_of_methodNamed Bd.named
  have hnm := (name_of_methodNamed Bd.named Bd.method).1
  have X0 : Stand p l e ({ frames := 1, cells := 0, slots := 0, locals := 12 } : Room) s m #[(.ref (w 6)), (.ref (w 3)), (.ref (w 1))] below meth c s₁ [] 0 0 := Stand.of_body Bd
  have e0 : s₁.heap = h0 := by rw [← hh, Bd.state]; rfl
  have N0 := Fr.nil n0
  show oG p e below s (Q_ty_210 Z  w h0 n0) ({ frames := 1, cells := 0, slots := 0, locals := 12 } : Room).cells ({ frames := 1, cells := 0, slots := 0, locals := 12 } : Room).slots _
  refine oS (fun t k => castTop (ef_3_rrr m (w 6) (w 3) (w 1)) k) ?_
  show oG _ _ _ _ _ _ _ (s₁.setTop (mkF m 0 #[.val (.ref (w 6)), .val (.ref (w 3)), .val (.ref (w 1)), .unset, .unset] []))
  obtain ⟨T1, X1, e1, st1⟩ := getS2 X0 hx hZ hown (host := "") (Or.inl (oW hw 22 rfl)) Via.refl e0 ((wS1 W).ext O0.2) (g := (mkF m 0 #[.val (.ref (w 6)), .val (.ref (w 3)), .val (.ref (w 1)), .unset, .unset] [])) rfl (hb hby d3_0)
  refine oS (fun t k => st1 t k) ?_
  try clear st1
  refine oS (fun t k => XS.astoreN X1.here hx rfl (hb hby d3_3) rfl rfl (l' := #[.val (.ref (w 6)), .val (.ref (w 3)), .val (.ref (w 1)), .val (.ref (w 1)), .unset]) rfl k) ?_
  obtain ⟨T2, X2, e2, st2⟩ := getS2 X1 hx hZ hown (host := "") (Or.inl (oW hw 23 rfl)) Via.refl e1 ((wS3 W).ext O0.2) (g := (mkF m 4 #[.val (.ref (w 6)), .val (.ref (w 3)), .val (.ref (w 1)), .val (.ref (w 1)), .unset] [])) rfl (hb hby d3_4)
  refine oS (fun t k => st2 t k) ?_
  try clear st2 X1 e1
  try clear T1
  refine oS (fun t k => XS.astore X2.here hx rfl (hb hby d3_7) rfl rfl (l' := #[.val (.ref (w 6)), .val (.ref (w 3)), .val (.ref (w 1)), .val (.ref (w 1)), .val (.ref (w 3))]) rfl k) ?_
  refine oS (fun t k => XS.aloadN X2.here hx rfl (hb hby d3_9) rfl rfl k) ?_
  show oG _ _ _ _ _ _ _ (T2.setTop (mkF m 10 #[.val (.ref (w 6)), .val (.ref (w 3)), .val (.ref (w 1)), .val (.ref (w 1)), .val (.ref (w 3))] [(.ref (w 3))]))
  refine oS (fun t k => XS.aloadN X2.here hx rfl (hb hby d3_10) rfl rfl k) ?_
  refine oS (fun t k => Jvm.RoadKit.acmp (g := (mkF m 11 #[.val (.ref (w 6)), .val (.ref (w 3)), .val (.ref (w 1)), .val (.ref (w 1)), .val (.ref (w 3))] [(.ref (w 1)), (.ref (w 3))])) X2 hx rfl rfl rfl (pc0 := 11) (pc' := 24) (same := false) rfl (hb hby d3_11) rfl (decide_eq_false fun q => (own_neI (wF3_ordinal W) (wF1_ordinal W) (by decide)) (Value.ref.inj q)) (by decide) (by decide) k) ?_
  refine oS (fun t k => XS.aloadN X2.here hx rfl (hb hby d3_24) rfl rfl k) ?_
  obtain ⟨cq3, kq3, q3a, q3b, q3c⟩ := isOf hZ e2 ((wE6 W).ext O0.2)
  obtain ⟨_, _, ⟨T3, L3, k3, n3⟩, -, X3, ⟨Lc3, hQ3, l3, y3, z3⟩, st3⟩ := X2.virtualBackUp hx (x := mY9) (y := mY1) hown (mvT hZ (oW hw 25 rfl)) (mvT hZ (oW hw 26 rfl)) (mvT hZ (oW hw 27 rfl)) (by decide) (mvT hZ (oW hw 29 rfl)) (mvT hZ (oW hw 28 rfl)) (backOf (W := 0) (rm_ord_2 l Z a0 hw []  w h0 n0 O0 W ) hZ (oW hw 31 rfl) (oW hw 30 rfl) (by decide) (by decide)) q3a q3c (g := (mkF m 25 #[.val (.ref (w 6)), .val (.ref (w 3)), .val (.ref (w 1)), .val (.ref (w 1)), .val (.ref (w 3))] [(.ref (w 6))])) rfl (by rw [hml]; rfl) (Steps.refl _) (argsL := []) (rest := []) (lenOf pd_3 rfl) rfl (by show 2 * 0 + _ ≤ _; exact Nat.le_of_eq rfl) (hb hby d3_25) (fun _ _ => ⟨rfl, e2, (by decide : 0 + 0 ≤ _), (by decide : 0 + 0 ≤ _)⟩)
  dsimp only [Pt.U, Pt.locs, Pt.cells, Pt.slots] at X3 l3 y3 z3 st3 hQ3
  rw [l3, y3, z3] at X3
  clear l3 y3 z3
  obtain ⟨rfl, Nq3, e3⟩ := hQ3
  have N3 := Fr.app N0 Nq3
  refine oS (fun t k => st3.trans k) ?_
  show oG _ _ _ _ _ _ _ (T3.setTop (mkF m 28 #[.val (.ref (w 6)), .val (.ref (w 3)), .val (.ref (w 1)), .val (.ref (w 1)), .val (.ref (w 3))] [(.int 2)]))
  try clear st3 X2 e2
  try clear T2
  refine oS (fun t k => XS.tswIn X3.here hx rfl (pc0 := 28) (pc' := 137) rfl (hb hby d3_28) (i := (2 : Int32)) rfl (by decide) (o := 109) rfl (by decide) (by decide) k) ?_
  refine oS (fun t k => XS.aconstNull X3.here hx rfl (hb hby d3_137) k) ?_
  obtain ⟨_, _, ⟨T4, L4, k4, n4⟩, -, X4, ⟨Lc4, hQ4, l4, y4, z4⟩, st4⟩ := Jvm.LawKit.callS X3 hx (y := mY6) hown (mvT hZ (oW hw 34 rfl)) (mvT hZ (oW hw 35 rfl)) (mvT hZ (oW hw 36 rfl)) (mvT hZ (oW hw 37 rfl)) (by decide) (backOf (W := 0) (rm_ofN0 l Z a0 hw []  w h0 n0 O0 W ) hZ (oW hw 37 rfl) (oW hw 36 rfl) (by decide) (by decide)) (g := (mkF m 138 #[.val (.ref (w 6)), .val (.ref (w 3)), .val (.ref (w 1)), .val (.ref (w 1)), .val (.ref (w 3))] [.null])) rfl (by rw [hml]; rfl) (argsL := [.null]) (rest := []) (lenOf pd_2 rfl) rfl (by show 2 * 0 + _ ≤ _; exact Nat.le_of_eq rfl) (hb hby d3_138) (fun _ _ => ⟨rfl, e3, (by decide : 0 + 0 ≤ _), (by decide : 0 + 0 ≤ _)⟩)
  dsimp only [Pt.U, Pt.locs, Pt.cells, Pt.slots] at X4 l4 y4 z4 st4 hQ4
  rw [l4, y4, z4] at X4
  clear l4 y4 z4
  obtain ⟨rfl, Nq4, e4⟩ := hQ4
  have N4 := Fr.app N3 Nq4
  refine oS (fun t k => st4 t k) ?_
  show oG _ _ _ _ _ _ _ (T4.setTop (mkF m 141 #[.val (.ref (w 6)), .val (.ref (w 3)), .val (.ref (w 1)), .val (.ref (w 1)), .val (.ref (w 3))] [(.ref (w 7))]))
  try clear st4 X3 e3
  exact own_ret (v := some (.ref (w 7))) X4 (fun h => by rw [Bd.returns] at h; cases h) Bd.notSynchronized (fun fs hr => retOut X4 hx (t := (.object "java/util/Optional")) Bd.returns rfl (Or.inr (Or.inr (Or.inr (Or.inr ⟨rfl, rfl, rfl⟩)))) (hb hby d3_141) hr) (by rw [e4]; exact ⟨rfl, N4, rfl⟩) (by decide) (by decide)
def Q_ty_211 (Z : State)  (w : Nat → Addr) (h0 : Heap) (n0 : Nat) (v : Option Value) (h : Heap) (L : List Loc) : Prop := v = some (.ref (w 7)) ∧ Fr n0 L ∧ h = h0
set_option maxRecDepth 65536 in
set_option maxHeartbeats 40000000 in
theorem rm_ty_211 (l : Launch) (Z : State) (a0 : Array Value) (hw : ∀ d ∈ tables_1, d.before a0 Z = true) (ws : List Jvm.Cond)  (w : Nat → Addr) (h0 : Heap) (n0 : Nat) (O0 : Old Z n0 h0) (W : own_World Z w) :
    MetFree l mY8 (head1 (Jvm.Cond.code mY8 prog_45_method_6_code 5 (some (.object "java/util/Optional")) :: ws) ({ frames := 1, cells := 0, slots := 0, locals := 12 } : Room)) (fun a U => a = #[(.ref (w 6)), (.ref (w 3)), (.ref (w 3))] ∧ Z.Warmed39 U.vm ∧ U.heap = h0) (fun _ _ _ _ _ => True) (fun _ U o U' => ∃ v L, o = .returned v ∧ Q_ty_211 Z  w h0 n0 v U'.heap L ∧ FrameEnd U o U' L ({ frames := 1, cells := 0, slots := 0, locals := 12 } : Room).cells ({ frames := 1, cells := 0, slots := 0, locals := 12 } : Room).slots) := by
  refine MetFree.of_bodySF (plainFor_of_name pn_4) hisR ?_
  intro p e s m args below meth c s₁ Bd hml0 hP hK
  obtain ⟨rfl, hZ, hh⟩ := hP
  have hx := Bd.exec
  have hby := Bd.bytes
  have hml : c.maxLocals = 5 := hml0
  have hown : s.vm.findClass "com/example/planwright/planwright/model/Expression$Operator" = some m.cls := findClass_of_methodNamed Bd.named
  have hnm := (name_of_methodNamed Bd.named Bd.method).1
  have X0 : Stand p l e ({ frames := 1, cells := 0, slots := 0, locals := 12 } : Room) s m #[(.ref (w 6)), (.ref (w 3)), (.ref (w 3))] below meth c s₁ [] 0 0 := Stand.of_body Bd
  have e0 : s₁.heap = h0 := by rw [← hh, Bd.state]; rfl
  have N0 := Fr.nil n0
  show oG p e below s (Q_ty_211 Z  w h0 n0) ({ frames := 1, cells := 0, slots := 0, locals := 12 } : Room).cells ({ frames := 1, cells := 0, slots := 0, locals := 12 } : Room).slots _
  refine oS (fun t k => castTop (ef_3_rrr m (w 6) (w 3) (w 3)) k) ?_
  show oG _ _ _ _ _ _ _ (s₁.setTop (mkF m 0 #[.val (.ref (w 6)), .val (.ref (w 3)), .val (.ref (w 3)), .unset, .unset] []))
  obtain ⟨T1, X1, e1, st1⟩ := getS2 X0 hx hZ hown (host := "") (Or.inl (oW hw 22 rfl)) Via.refl e0 ((wS1 W).ext O0.2) (g := (mkF m 0 #[.val (.ref (w 6)), .val (.ref (w 3)), .val (.ref (w 3)), .unset, .unset] [])) rfl (hb hby d3_0)
  refine oS (fun t k => st1 t k) ?_
  try clear st1
  refine oS (fun t k => XS.astoreN X1.here hx rfl (hb hby d3_3) rfl rfl (l' := #[.val (.ref (w 6)), .val (.ref (w 3)), .val (.ref (w 3)), .val (.ref (w 1)), .unset]) rfl k) ?_
  obtain ⟨T2, X2, e2, st2⟩ := getS2 X1 hx hZ hown (host := "") (Or.inl (oW hw 23 rfl)) Via.refl e1 ((wS3 W).ext O0.2) (g := (mkF m 4 #[.val (.ref (w 6)), .val (.ref (w 3)), .val (.ref (w 3)), .val (.ref (w 1)), .unset] [])) rfl (hb hby d3_4)
  refine oS (fun t k => st2 t k) ?_
  try clear st2 X1 e1
  try clear T1
  refine oS (fun t k => XS.astore X2.here hx rfl (hb hby d3_7) rfl rfl (l' := #[.val (.ref (w 6)), .val (.ref (w 3)), .val (.ref (w 3)), .val (.ref (w 1)), .val (.ref (w 3))]) rfl k) ?_
  refine oS (fun t k => XS.aloadN X2.here hx rfl (hb hby d3_9) rfl rfl k) ?_
  show oG _ _ _ _ _ _ _ (T2.setTop (mkF m 10 #[.val (.ref (w 6)), .val (.ref (w 3)), .val (.ref (w 3)), .val (.ref (w 1)), .val (.ref (w 3))] [(.ref (w 3))]))
  refine oS (fun t k => XS.aloadN X2.here hx rfl (hb hby d3_10) rfl rfl k) ?_
  refine oS (fun t k => Jvm.RoadKit.acmp (g := (mkF m 11 #[.val (.ref (w 6)), .val (.ref (w 3)), .val (.ref (w 3)), .val (.ref (w 1)), .val (.ref (w 3))] [(.ref (w 1)), (.ref (w 3))])) X2 hx rfl rfl rfl (pc0 := 11) (pc' := 24) (same := false) rfl (hb hby d3_11) rfl (decide_eq_false fun q => (own_neI (wF3_ordinal W) (wF1_ordinal W) (by decide)) (Value.ref.inj q)) (by decide) (by decide) k) ?_
  refine oS (fun t k => XS.aloadN X2.here hx rfl (hb hby d3_24) rfl rfl k) ?_
  obtain ⟨cq3, kq3, q3a, q3b, q3c⟩ := isOf hZ e2 ((wE6 W).ext O0.2)
  obtain ⟨_, _, ⟨T3, L3, k3, n3⟩, -, X3, ⟨Lc3, hQ3, l3, y3, z3⟩, st3⟩ := X2.virtualBackUp hx (x := mY9) (y := mY1) hown (mvT hZ (oW hw 25 rfl)) (mvT hZ (oW hw 26 rfl)) (mvT hZ (oW hw 27 rfl)) (by decide) (mvT hZ (oW hw 29 rfl)) (mvT hZ (oW hw 28 rfl)) (backOf (W := 0) (rm_ord_2 l Z a0 hw []  w h0 n0 O0 W ) hZ (oW hw 31 rfl) (oW hw 30 rfl) (by decide) (by decide)) q3a q3c (g := (mkF m 25 #[.val (.ref (w 6)), .val (.ref (w 3)), .val (.ref (w 3)), .val (.ref (w 1)), .val (.ref (w 3))] [(.ref (w 6))])) rfl (by rw [hml]; rfl) (Steps.refl _) (argsL := []) (rest := []) (lenOf pd_3 rfl) rfl (by show 2 * 0 + _ ≤ _; exact Nat.le_of_eq rfl) (hb hby d3_25) (fun _ _ => ⟨rfl, e2, (by decide : 0 + 0 ≤ _), (by decide : 0 + 0 ≤ _)⟩)
  dsimp only [Pt.U, Pt.locs, Pt.cells, Pt.slots] at X3 l3 y3 z3 st3 hQ3
  rw [l3, y3, z3] at X3
  clear l3 y3 z3
  obtain ⟨rfl, Nq3, e3⟩ := hQ3
  have N3 := Fr.app N0 Nq3
  refine oS (fun t k => st3.trans k) ?_
  show oG _ _ _ _ _ _ _ (T3.setTop (mkF m 28 #[.val (.ref (w 6)), .val (.ref (w 3)), .val (.ref (w 3)), .val (.ref (w 1)), .val (.ref (w 3))] [(.int 2)]))
  try clear st3 X2 e2
  try clear T2
  refine oS (fun t k => XS.tswIn X3.here hx rfl (pc0 := 28) (pc' := 137) rfl (hb hby d3_28) (i := (2 : Int32)) rfl (by decide) (o := 109) rfl (by decide) (by decide) k) ?_
  refine oS (fun t k => XS.aconstNull X3.here hx rfl (hb hby d3_137) k) ?_
  obtain ⟨_, _, ⟨T4, L4, k4, n4⟩, -, X4, ⟨Lc4, hQ4, l4, y4, z4⟩, st4⟩ := Jvm.LawKit.callS X3 hx (y := mY6) hown (mvT hZ (oW hw 34 rfl)) (mvT hZ (oW hw 35 rfl)) (mvT hZ (oW hw 36 rfl)) (mvT hZ (oW hw 37 rfl)) (by decide) (backOf (W := 0) (rm_ofN0 l Z a0 hw []  w h0 n0 O0 W ) hZ (oW hw 37 rfl) (oW hw 36 rfl) (by decide) (by decide)) (g := (mkF m 138 #[.val (.ref (w 6)), .val (.ref (w 3)), .val (.ref (w 3)), .val (.ref (w 1)), .val (.ref (w 3))] [.null])) rfl (by rw [hml]; rfl) (argsL := [.null]) (rest := []) (lenOf pd_2 rfl) rfl (by show 2 * 0 + _ ≤ _; exact Nat.le_of_eq rfl) (hb hby d3_138) (fun _ _ => ⟨rfl, e3, (by decide : 0 + 0 ≤ _), (by decide : 0 + 0 ≤ _)⟩)
  dsimp only [Pt.U, Pt.locs, Pt.cells, Pt.slots] at X4 l4 y4 z4 st4 hQ4
  rw [l4, y4, z4] at X4
  clear l4 y4 z4
  obtain ⟨rfl, Nq4, e4⟩ := hQ4
  have N4 := Fr.app N3 Nq4
  refine oS (fun t k => st4 t k) ?_
  show oG _ _ _ _ _ _ _ (T4.setTop (mkF m 141 #[.val (.ref (w 6)), .val (.ref (w 3)), .val (.ref (w 3)), .val (.ref (w 1)), .val (.ref (w 3))] [(.ref (w 7))]))
  try clear st4 X3 e3
  exact own_ret (v := some (.ref (w 7))) X4 (fun h => by rw [Bd.returns] at h; cases h) Bd.notSynchronized (fun fs hr => retOut X4 hx (t := (.object "java/util/Optional")) Bd.returns rfl (Or.inr (Or.inr (Or.inr (Or.inr ⟨rfl, rfl, rfl⟩)))) (hb hby d3_141) hr) (by rw [e4]; exact ⟨rfl, N4, rfl⟩) (by decide) (by decide)
def Q_ty_212 (Z : State)  (w : Nat → Addr) (h0 : Heap) (n0 : Nat) (v : Option Value) (h : Heap) (L : List Loc) : Prop := v = some (.ref (w 7)) ∧ Fr n0 L ∧ h = h0
set_option maxRecDepth 65536 in
set_option maxHeartbeats 40000000 in
theorem rm_ty_212 (l : Launch) (Z : State) (a0 : Array Value) (hw : ∀ d ∈ tables_1, d.before a0 Z = true) (ws : List Jvm.Cond)  (w : Nat → Addr) (h0 : Heap) (n0 : Nat) (O0 : Old Z n0 h0) (W : own_World Z w) :
    MetFree l mY8 (head1 (Jvm.Cond.code mY8 prog_45_method_6_code 5 (some (.object "java/util/Optional")) :: ws) ({ frames := 1, cells := 0, slots := 0, locals := 12 } : Room)) (fun a U => a = #[(.ref (w 6)), (.ref (w 3)), (.ref (w 2))] ∧ Z.Warmed39 U.vm ∧ U.heap = h0) (fun _ _ _ _ _ => True) (fun _ U o U' => ∃ v L, o = .returned v ∧ Q_ty_212 Z  w h0 n0 v U'.heap L ∧ FrameEnd U o U' L ({ frames := 1, cells := 0, slots := 0, locals := 12 } : Room).cells ({ frames := 1, cells := 0, slots := 0, locals := 12 } : Room).slots) := by
  refine MetFree.of_bodySF (plainFor_of_name pn_4) hisR ?_
  intro p e s m args below meth c s₁ Bd hml0 hP hK
  obtain ⟨rfl, hZ, hh⟩ := hP
  have hx := Bd.exec
  have hby := Bd.bytes
  have hml : c.maxLocals = 5 := hml0
  have hown : s.vm.findClass "com/example/planwright/planwright/model/Expression$Operator" = some m.cls := findClass_of_methodNamed Bd.named
  have hnm := (name_of_methodNamed Bd.named Bd.method).1
  have X0 : Stand p l e ({ frames := 1, cells := 0, slots := 0, locals := 12 } : Room) s m #[(.ref (w 6)), (.ref (w 3)), (.ref (w 2))] below meth c s₁ [] 0 0 := Stand.of_body Bd
  have e0 : s₁.heap = h0 := by rw [← hh, Bd.state]; rfl
  have N0 := Fr.nil n0
  show oG p e below s (Q_ty_212 Z  w h0 n0) ({ frames := 1, cells := 0, slots := 0, locals := 12 } : Room).cells ({ frames := 1, cells := 0, slots := 0, locals := 12 } : Room).slots _
  refine oS (fun t k => castTop (ef_3_rrr m (w 6) (w 3) (w 2)) k) ?_
  show oG _ _ _ _ _ _ _ (s₁.setTop (mkF m 0 #[.val (.ref (w 6)), .val (.ref (w 3)), .val (.ref (w 2)), .unset, .unset] []))
  obtain ⟨T1, X1, e1, st1⟩ := getS2 X0 hx hZ hown (host := "") (Or.inl (oW hw 22 rfl)) Via.refl e0 ((wS1 W).ext O0.2) (g := (mkF m 0 #[.val (.ref (w 6)), .val (.ref (w 3)), .val (.ref (w 2)), .unset, .unset] [])) rfl (hb hby d3_0)
  refine oS (fun t k => st1 t k) ?_
  try clear st1
  refine oS (fun t k => XS.astoreN X1.here hx rfl (hb hby d3_3) rfl rfl (l' := #[.val (.ref (w 6)), .val (.ref (w 3)), .val (.ref (w 2)), .val (.ref (w 1)), .unset]) rfl k) ?_
  obtain ⟨T2, X2, e2, st2⟩ := getS2 X1 hx hZ hown (host := "") (Or.inl (oW hw 23 rfl)) Via.refl e1 ((wS3 W).ext O0.2) (g := (mkF m 4 #[.val (.ref (w 6)), .val (.ref (w 3)), .val (.ref (w 2)), .val (.ref (w 1)), .unset] [])) rfl (hb hby d3_4)
  refine oS (fun t k => st2 t k) ?_
  try clear st2 X1 e1
  try clear T1
  refine oS (fun t k => XS.astore X2.here hx rfl (hb hby d3_7) rfl rfl (l' := #[.val (.ref (w 6)), .val (.ref (w 3)), .val (.ref (w 2)), .val (.ref (w 1)), .val (.ref (w 3))]) rfl k) ?_
  refine oS (fun t k => XS.aloadN X2.here hx rfl (hb hby d3_9) rfl rfl k) ?_
  show oG _ _ _ _ _ _ _ (T2.setTop (mkF m 10 #[.val (.ref (w 6)), .val (.ref (w 3)), .val (.ref (w 2)), .val (.ref (w 1)), .val (.ref (w 3))] [(.ref (w 3))]))
  refine oS (fun t k => XS.aloadN X2.here hx rfl (hb hby d3_10) rfl rfl k) ?_
  refine oS (fun t k => Jvm.RoadKit.acmp (g := (mkF m 11 #[.val (.ref (w 6)), .val (.ref (w 3)), .val (.ref (w 2)), .val (.ref (w 1)), .val (.ref (w 3))] [(.ref (w 1)), (.ref (w 3))])) X2 hx rfl rfl rfl (pc0 := 11) (pc' := 24) (same := false) rfl (hb hby d3_11) rfl (decide_eq_false fun q => (own_neI (wF3_ordinal W) (wF1_ordinal W) (by decide)) (Value.ref.inj q)) (by decide) (by decide) k) ?_
  refine oS (fun t k => XS.aloadN X2.here hx rfl (hb hby d3_24) rfl rfl k) ?_
  obtain ⟨cq3, kq3, q3a, q3b, q3c⟩ := isOf hZ e2 ((wE6 W).ext O0.2)
  obtain ⟨_, _, ⟨T3, L3, k3, n3⟩, -, X3, ⟨Lc3, hQ3, l3, y3, z3⟩, st3⟩ := X2.virtualBackUp hx (x := mY9) (y := mY1) hown (mvT hZ (oW hw 25 rfl)) (mvT hZ (oW hw 26 rfl)) (mvT hZ (oW hw 27 rfl)) (by decide) (mvT hZ (oW hw 29 rfl)) (mvT hZ (oW hw 28 rfl)) (backOf (W := 0) (rm_ord_2 l Z a0 hw []  w h0 n0 O0 W ) hZ (oW hw 31 rfl) (oW hw 30 rfl) (by decide) (by decide)) q3a q3c (g := (mkF m 25 #[.val (.ref (w 6)), .val (.ref (w 3)), .val (.ref (w 2)), .val (.ref (w 1)), .val (.ref (w 3))] [(.ref (w 6))])) rfl (by rw [hml]; rfl) (Steps.refl _) (argsL := []) (rest := []) (lenOf pd_3 rfl) rfl (by show 2 * 0 + _ ≤ _; exact Nat.le_of_eq rfl) (hb hby d3_25) (fun _ _ => ⟨rfl, e2, (by decide : 0 + 0 ≤ _), (by decide : 0 + 0 ≤ _)⟩)
  dsimp only [Pt.U, Pt.locs, Pt.cells, Pt.slots] at X3 l3 y3 z3 st3 hQ3
  rw [l3, y3, z3] at X3
  clear l3 y3 z3
  obtain ⟨rfl, Nq3, e3⟩ := hQ3
  have N3 := Fr.app N0 Nq3
  refine oS (fun t k => st3.trans k) ?_
  show oG _ _ _ _ _ _ _ (T3.setTop (mkF m 28 #[.val (.ref (w 6)), .val (.ref (w 3)), .val (.ref (w 2)), .val (.ref (w 1)), .val (.ref (w 3))] [(.int 2)]))
  try clear st3 X2 e2
  try clear T2
  refine oS (fun t k => XS.tswIn X3.here hx rfl (pc0 := 28) (pc' := 137) rfl (hb hby d3_28) (i := (2 : Int32)) rfl (by decide) (o := 109) rfl (by decide) (by decide) k) ?_
  refine oS (fun t k => XS.aconstNull X3.here hx rfl (hb hby d3_137) k) ?_
  obtain ⟨_, _, ⟨T4, L4, k4, n4⟩, -, X4, ⟨Lc4, hQ4, l4, y4, z4⟩, st4⟩ := Jvm.LawKit.callS X3 hx (y := mY6) hown (mvT hZ (oW hw 34 rfl)) (mvT hZ (oW hw 35 rfl)) (mvT hZ (oW hw 36 rfl)) (mvT hZ (oW hw 37 rfl)) (by decide) (backOf (W := 0) (rm_ofN0 l Z a0 hw []  w h0 n0 O0 W ) hZ (oW hw 37 rfl) (oW hw 36 rfl) (by decide) (by decide)) (g := (mkF m 138 #[.val (.ref (w 6)), .val (.ref (w 3)), .val (.ref (w 2)), .val (.ref (w 1)), .val (.ref (w 3))] [.null])) rfl (by rw [hml]; rfl) (argsL := [.null]) (rest := []) (lenOf pd_2 rfl) rfl (by show 2 * 0 + _ ≤ _; exact Nat.le_of_eq rfl) (hb hby d3_138) (fun _ _ => ⟨rfl, e3, (by decide : 0 + 0 ≤ _), (by decide : 0 + 0 ≤ _)⟩)
  dsimp only [Pt.U, Pt.locs, Pt.cells, Pt.slots] at X4 l4 y4 z4 st4 hQ4
  rw [l4, y4, z4] at X4
  clear l4 y4 z4
  obtain ⟨rfl, Nq4, e4⟩ := hQ4
  have N4 := Fr.app N3 Nq4
  refine oS (fun t k => st4 t k) ?_
  show oG _ _ _ _ _ _ _ (T4.setTop (mkF m 141 #[.val (.ref (w 6)), .val (.ref (w 3)), .val (.ref (w 2)), .val (.ref (w 1)), .val (.ref (w 3))] [(.ref (w 7))]))
  try clear st4 X3 e3
  exact own_ret (v := some (.ref (w 7))) X4 (fun h => by rw [Bd.returns] at h; cases h) Bd.notSynchronized (fun fs hr => retOut X4 hx (t := (.object "java/util/Optional")) Bd.returns rfl (Or.inr (Or.inr (Or.inr (Or.inr ⟨rfl, rfl, rfl⟩)))) (hb hby d3_141) hr) (by rw [e4]; exact ⟨rfl, N4, rfl⟩) (by decide) (by decide)
def Q_ty_220 (Z : State)  (w : Nat → Addr) (h0 : Heap) (n0 : Nat) (v : Option Value) (h : Heap) (L : List Loc) : Prop := v = some (.ref (w 7)) ∧ Fr n0 L ∧ h = h0
set_option maxRecDepth 65536 in
set_option maxHeartbeats 40000000 in
theorem rm_ty_220 (l : Launch) (Z : State) (a0 : Array Value) (hw : ∀ d ∈ tables_1, d.before a0 Z = true) (ws : List Jvm.Cond)  (w : Nat → Addr) (h0 : Heap) (n0 : Nat) (O0 : Old Z n0 h0) (W : own_World Z w) :
    MetFree l mY8 (head1 (Jvm.Cond.code mY8 prog_45_method_6_code 5 (some (.object "java/util/Optional")) :: ws) ({ frames := 1, cells := 0, slots := 0, locals := 12 } : Room)) (fun a U => a = #[(.ref (w 6)), (.ref (w 2)), (.ref (w 1))] ∧ Z.Warmed39 U.vm ∧ U.heap = h0) (fun _ _ _ _ _ => True) (fun _ U o U' => ∃ v L, o = .returned v ∧ Q_ty_220 Z  w h0 n0 v U'.heap L ∧ FrameEnd U o U' L ({ frames := 1, cells := 0, slots := 0, locals := 12 } : Room).cells ({ frames := 1, cells := 0, slots := 0, locals := 12 } : Room).slots) := by
  refine MetFree.of_bodySF (plainFor_of_name pn_4) hisR ?_
  intro p e s m args below meth c s₁ Bd hml0 hP hK
  obtain ⟨rfl, hZ, hh⟩ := hP
  have hx := Bd.exec
  have hby := Bd.bytes
  have hml : c.maxLocals = 5 := hml0
  have hown : s.vm.findClass "com/example/planwright/planwright/model/Expression$Operator" = some m.cls := findClass_of_methodNamed Bd.named
  have hnm := (name_of_methodNamed Bd.named Bd.method).1
  have X0 : Stand p l e ({ frames := 1, cells := 0, slots := 0, locals := 12 } : Room) s m #[(.ref (w 6)), (.ref (w 2)), (.ref (w 1))] below meth c s₁ [] 0 0 := Stand.of_body Bd
  have e0 : s₁.heap = h0 := by rw [← hh, Bd.state]; rfl
  have N0 := Fr.nil n0
  show oG p e below s (Q_ty_220 Z  w h0 n0) ({ frames := 1, cells := 0, slots := 0, locals := 12 } : Room).cells ({ frames := 1, cells := 0, slots := 0, locals := 12 } : Room).slots _
  refine oS (fun t k => castTop (ef_3_rrr m (w 6) (w 2) (w 1)) k) ?_
  show oG _ _ _ _ _ _ _ (s₁.setTop (mkF m 0 #[.val (.ref (w 6)), .val (.ref (w 2)), .val (.ref (w 1)), .unset, .unset] []))
  obtain ⟨T1, X1, e1, st1⟩ := getS2 X0 hx hZ hown (host := "") (Or.inl (oW hw 22 rfl)) Via.refl e0 ((wS1 W).ext O0.2) (g := (mkF m 0 #[.val (.ref (w 6)), .val (.ref (w 2)), .val (.ref (w 1)), .unset, .unset] [])) rfl (hb hby d3_0)
  refine oS (fun t k => st1 t k) ?_
  try clear st1
  refine oS (fun t k => XS.astoreN X1.here hx rfl (hb hby d3_3) rfl rfl (l' := #[.val (.ref (w 6)), .val (.ref (w 2)), .val (.ref (w 1)), .val (.ref (w 1)), .unset]) rfl k) ?_
  obtain ⟨T2, X2, e2, st2⟩ := getS2 X1 hx hZ hown (host := "") (Or.inl (oW hw 23 rfl)) Via.refl e1 ((wS3 W).ext O0.2) (g := (mkF m 4 #[.val (.ref (w 6)), .val (.ref (w 2)), .val (.ref (w 1)), .val (.ref (w 1)), .unset] [])) rfl (hb hby d3_4)
  refine oS (fun t k => st2 t k) ?_
  try clear st2 X1 e1
  try clear T1
  refine oS (fun t k => XS.astore X2.here hx rfl (hb hby d3_7) rfl rfl (l' := #[.val (.ref (w 6)), .val (.ref (w 2)), .val (.ref (w 1)), .val (.ref (w 1)), .val (.ref (w 3))]) rfl k) ?_
  refine oS (fun t k => XS.aloadN X2.here hx rfl (hb hby d3_9) rfl rfl k) ?_
  show oG _ _ _ _ _ _ _ (T2.setTop (mkF m 10 #[.val (.ref (w 6)), .val (.ref (w 2)), .val (.ref (w 1)), .val (.ref (w 1)), .val (.ref (w 3))] [(.ref (w 2))]))
  refine oS (fun t k => XS.aloadN X2.here hx rfl (hb hby d3_10) rfl rfl k) ?_
  refine oS (fun t k => Jvm.RoadKit.acmp (g := (mkF m 11 #[.val (.ref (w 6)), .val (.ref (w 2)), .val (.ref (w 1)), .val (.ref (w 1)), .val (.ref (w 3))] [(.ref (w 1)), (.ref (w 2))])) X2 hx rfl rfl rfl (pc0 := 11) (pc' := 24) (same := false) rfl (hb hby d3_11) rfl (decide_eq_false fun q => (own_neI (wF2_ordinal W) (wF1_ordinal W) (by decide)) (Value.ref.inj q)) (by decide) (by decide) k) ?_
  refine oS (fun t k => XS.aloadN X2.here hx rfl (hb hby d3_24) rfl rfl k) ?_
  obtain ⟨cq3, kq3, q3a, q3b, q3c⟩ := isOf hZ e2 ((wE6 W).ext O0.2)
  obtain ⟨_, _, ⟨T3, L3, k3, n3⟩, -, X3, ⟨Lc3, hQ3, l3, y3, z3⟩, st3⟩ := X2.virtualBackUp hx (x := mY9) (y := mY1) hown (mvT hZ (oW hw 25 rfl)) (mvT hZ (oW hw 26 rfl)) (mvT hZ (oW hw 27 rfl)) (by decide) (mvT hZ (oW hw 29 rfl)) (mvT hZ (oW hw 28 rfl)) (backOf (W := 0) (rm_ord_2 l Z a0 hw []  w h0 n0 O0 W ) hZ (oW hw 31 rfl) (oW hw 30 rfl) (by decide) (by decide)) q3a q3c (g := (mkF m 25 #[.val (.ref (w 6)), .val (.ref (w 2)), .val (.ref (w 1)), .val (.ref (w 1)), .val (.ref (w 3))] [(.ref (w 6))])) rfl (by rw [hml]; rfl) (Steps.refl _) (argsL := []) (rest := []) (lenOf pd_3 rfl) rfl (by show 2 * 0 + _ ≤ _; exact Nat.le_of_eq rfl) (hb hby d3_25) (fun _ _ => ⟨rfl, e2, (by decide : 0 + 0 ≤ _), (by decide : 0 + 0 ≤ _)⟩)
  dsimp only [Pt.U, Pt.locs, Pt.cells, Pt.slots] at X3 l3 y3 z3 st3 hQ3
  rw [l3, y3, z3] at X3
  clear l3 y3 z3
  obtain ⟨rfl, Nq3, e3⟩ := hQ3
  have N3 := Fr.app N0 Nq3
  refine oS (fun t k => st3.trans k) ?_
  show oG _ _ _ _ _ _ _ (T3.setTop (mkF m 28 #[.val (.ref (w 6)), .val (.ref (w 2)), .val (.ref (w 1)), .val (.ref (w 1)), .val (.ref (w 3))] [(.int 2)]))
  try clear st3 X2 e2
  try clear T2
  refine oS (fun t k => XS.tswIn X3.here hx rfl (pc0 := 28) (pc' := 137) rfl (hb hby d3_28) (i := (2 : Int32)) rfl (by decide) (o := 109) rfl (by decide) (by decide) k) ?_
  refine oS (fun t k => XS.aconstNull X3.here hx rfl (hb hby d3_137) k) ?_
  obtain ⟨_, _, ⟨T4, L4, k4, n4⟩, -, X4, ⟨Lc4, hQ4, l4, y4, z4⟩, st4⟩ := Jvm.LawKit.callS X3 hx (y := mY6) hown (mvT hZ (oW hw 34 rfl)) (mvT hZ (oW hw 35 rfl)) (mvT hZ (oW hw 36 rfl)) (mvT hZ (oW hw 37 rfl)) (by decide) (backOf (W := 0) (rm_ofN0 l Z a0 hw []  w h0 n0 O0 W ) hZ (oW hw 37 rfl) (oW hw 36 rfl) (by decide) (by decide)) (g := (mkF m 138 #[.val (.ref (w 6)), .val (.ref (w 2)), .val (.ref (w 1)), .val (.ref (w 1)), .val (.ref (w 3))] [.null])) rfl (by rw [hml]; rfl) (argsL := [.null]) (rest := []) (lenOf pd_2 rfl) rfl (by show 2 * 0 + _ ≤ _; exact Nat.le_of_eq rfl) (hb hby d3_138) (fun _ _ => ⟨rfl, e3, (by decide : 0 + 0 ≤ _), (by decide : 0 + 0 ≤ _)⟩)
  dsimp only [Pt.U, Pt.locs, Pt.cells, Pt.slots] at X4 l4 y4 z4 st4 hQ4
  rw [l4, y4, z4] at X4
  clear l4 y4 z4
  obtain ⟨rfl, Nq4, e4⟩ := hQ4
  have N4 := Fr.app N3 Nq4
  refine oS (fun t k => st4 t k) ?_
  show oG _ _ _ _ _ _ _ (T4.setTop (mkF m 141 #[.val (.ref (w 6)), .val (.ref (w 2)), .val (.ref (w 1)), .val (.ref (w 1)), .val (.ref (w 3))] [(.ref (w 7))]))
  try clear st4 X3 e3
  exact own_ret (v := some (.ref (w 7))) X4 (fun h => by rw [Bd.returns] at h; cases h) Bd.notSynchronized (fun fs hr => retOut X4 hx (t := (.object "java/util/Optional")) Bd.returns rfl (Or.inr (Or.inr (Or.inr (Or.inr ⟨rfl, rfl, rfl⟩)))) (hb hby d3_141) hr) (by rw [e4]; exact ⟨rfl, N4, rfl⟩) (by decide) (by decide)
def Q_ty_221 (Z : State)  (w : Nat → Addr) (h0 : Heap) (n0 : Nat) (v : Option Value) (h : Heap) (L : List Loc) : Prop := v = some (.ref (w 7)) ∧ Fr n0 L ∧ h = h0
set_option maxRecDepth 65536 in
set_option maxHeartbeats 40000000 in
theorem rm_ty_221 (l : Launch) (Z : State) (a0 : Array Value) (hw : ∀ d ∈ tables_1, d.before a0 Z = true) (ws : List Jvm.Cond)  (w : Nat → Addr) (h0 : Heap) (n0 : Nat) (O0 : Old Z n0 h0) (W : own_World Z w) :
    MetFree l mY8 (head1 (Jvm.Cond.code mY8 prog_45_method_6_code 5 (some (.object "java/util/Optional")) :: ws) ({ frames := 1, cells := 0, slots := 0, locals := 12 } : Room)) (fun a U => a = #[(.ref (w 6)), (.ref (w 2)), (.ref (w 3))] ∧ Z.Warmed39 U.vm ∧ U.heap = h0) (fun _ _ _ _ _ => True) (fun _ U o U' => ∃ v L, o = .returned v ∧ Q_ty_221 Z  w h0 n0 v U'.heap L ∧ FrameEnd U o U' L ({ frames := 1, cells := 0, slots := 0, locals := 12 } : Room).cells ({ frames := 1, cells := 0, slots := 0, locals := 12 } : Room).slots) := by
  refine MetFree.of_bodySF (plainFor_of_name pn_4) hisR ?_
  intro p e s m args below meth c s₁ Bd hml0 hP hK
  obtain ⟨rfl, hZ, hh⟩ := hP
  have hx := Bd.exec
  have hby := Bd.bytes
  have hml : c.maxLocals = 5 := hml0
  have hown : s.vm.findClass "com/example/planwright/planwright/model/Expression$Operator" = some m.cls := findClass_of_methodNamed Bd.named
  have hnm := (name_of_methodNamed Bd.named Bd.method).1
  have X0 : Stand p l e ({ frames := 1, cells := 0, slots := 0, locals := 12 } : Room) s m #[(.ref (w 6)), (.ref (w 2)), (.ref (w 3))] below meth c s₁ [] 0 0 := Stand.of_body Bd
  have e0 : s₁.heap = h0 := by rw [← hh, Bd.state]; rfl
  have N0 := Fr.nil n0
  show oG p e below s (Q_ty_221 Z  w h0 n0) ({ frames := 1, cells := 0, slots := 0, locals := 12 } : Room).cells ({ frames := 1, cells := 0, slots := 0, locals := 12 } : Room).slots _
  refine oS (fun t k => castTop (ef_3_rrr m (w 6) (w 2) (w 3)) k) ?_
  show oG _ _ _ _ _ _ _ (s₁.setTop (mkF m 0 #[.val (.ref (w 6)), .val (.ref (w 2)), .val (.ref (w 3)), .unset, .unset] []))
  obtain ⟨T1, X1, e1, st1⟩ := getS2 X0 hx hZ hown (host := "") (Or.inl (oW hw 22 rfl)) Via.refl e0 ((wS1 W).ext O0.2) (g := (mkF m 0 #[.val (.ref (w 6)), .val (.ref (w 2)), .val (.ref (w 3)), .unset, .unset] [])) rfl (hb hby d3_0)
  refine oS (fun t k => st1 t k) ?_
  try clear st1
  refine oS (fun t k => XS.astoreN X1.here hx rfl (hb hby d3_3) rfl rfl (l' := #[.val (.ref (w 6)), .val (.ref (w 2)), .val (.ref (w 3)), .val (.ref (w 1)), .unset]) rfl k) ?_
  obtain ⟨T2, X2, e2, st2⟩ := getS2 X1 hx hZ hown (host := "") (Or.inl (oW hw 23 rfl)) Via.refl e1 ((wS3 W).ext O0.2) (g := (mkF m 4 #[.val (.ref (w 6)), .val (.ref (w 2)), .val (.ref (w 3)), .val (.ref (w 1)), .unset] [])) rfl (hb hby d3_4)
  refine oS (fun t k => st2 t k) ?_
  try clear st2 X1 e1
  try clear T1
  refine oS (fun t k => XS.astore X2.here hx rfl (hb hby d3_7) rfl rfl (l' := #[.val (.ref (w 6)), .val (.ref (w 2)), .val (.ref (w 3)), .val (.ref (w 1)), .val (.ref (w 3))]) rfl k) ?_
  refine oS (fun t k => XS.aloadN X2.here hx rfl (hb hby d3_9) rfl rfl k) ?_
  show oG _ _ _ _ _ _ _ (T2.setTop (mkF m 10 #[.val (.ref (w 6)), .val (.ref (w 2)), .val (.ref (w 3)), .val (.ref (w 1)), .val (.ref (w 3))] [(.ref (w 2))]))
  refine oS (fun t k => XS.aloadN X2.here hx rfl (hb hby d3_10) rfl rfl k) ?_
  refine oS (fun t k => Jvm.RoadKit.acmp (g := (mkF m 11 #[.val (.ref (w 6)), .val (.ref (w 2)), .val (.ref (w 3)), .val (.ref (w 1)), .val (.ref (w 3))] [(.ref (w 1)), (.ref (w 2))])) X2 hx rfl rfl rfl (pc0 := 11) (pc' := 24) (same := false) rfl (hb hby d3_11) rfl (decide_eq_false fun q => (own_neI (wF2_ordinal W) (wF1_ordinal W) (by decide)) (Value.ref.inj q)) (by decide) (by decide) k) ?_
  refine oS (fun t k => XS.aloadN X2.here hx rfl (hb hby d3_24) rfl rfl k) ?_
  obtain ⟨cq3, kq3, q3a, q3b, q3c⟩ := isOf hZ e2 ((wE6 W).ext O0.2)
  obtain ⟨_, _, ⟨T3, L3, k3, n3⟩, -, X3, ⟨Lc3, hQ3, l3, y3, z3⟩, st3⟩ := X2.virtualBackUp hx (x := mY9) (y := mY1) hown (mvT hZ (oW hw 25 rfl)) (mvT hZ (oW hw 26 rfl)) (mvT hZ (oW hw 27 rfl)) (by decide) (mvT hZ (oW hw 29 rfl)) (mvT hZ (oW hw 28 rfl)) (backOf (W := 0) (rm_ord_2 l Z a0 hw []  w h0 n0 O0 W ) hZ (oW hw 31 rfl) (oW hw 30 rfl) (by decide) (by decide)) q3a q3c (g := (mkF m 25 #[.val (.ref (w 6)), .val (.ref (w 2)), .val (.ref (w 3)), .val (.ref (w 1)), .val (.ref (w 3))] [(.ref (w 6))])) rfl (by rw [hml]; rfl) (Steps.refl _) (argsL := []) (rest := []) (lenOf pd_3 rfl) rfl (by show 2 * 0 + _ ≤ _; exact Nat.le_of_eq rfl) (hb hby d3_25) (fun _ _ => ⟨rfl, e2, (by decide : 0 + 0 ≤ _), (by decide : 0 + 0 ≤ _)⟩)
  dsimp only [Pt.U, Pt.locs, Pt.cells, Pt.slots] at X3 l3 y3 z3 st3 hQ3
  rw [l3, y3, z3] at X3
  clear l3 y3 z3
  obtain ⟨rfl, Nq3, e3⟩ := hQ3
  have N3 := Fr.app N0 Nq3
  refine oS (fun t k => st3.trans k) ?_
  show oG _ _ _ _ _ _ _ (T3.setTop (mkF m 28 #[.val (.ref (w 6)), .val (.ref (w 2)), .val (.ref (w 3)), .val (.ref (w 1)), .val (.ref (w 3))] [(.int 2)]))
  try clear st3 X2 e2
  try clear T2
  refine oS (fun t k => XS.tswIn X3.here hx rfl (pc0 := 28) (pc' := 137) rfl (hb hby d3_28) (i := (2 : Int32)) rfl (by decide) (o := 109) rfl (by decide) (by decide) k) ?_
  refine oS (fun t k => XS.aconstNull X3.here hx rfl (hb hby d3_137) k) ?_
  obtain ⟨_, _, ⟨T4, L4, k4, n4⟩, -, X4, ⟨Lc4, hQ4, l4, y4, z4⟩, st4⟩ := Jvm.LawKit.callS X3 hx (y := mY6) hown (mvT hZ (oW hw 34 rfl)) (mvT hZ (oW hw 35 rfl)) (mvT hZ (oW hw 36 rfl)) (mvT hZ (oW hw 37 rfl)) (by decide) (backOf (W := 0) (rm_ofN0 l Z a0 hw []  w h0 n0 O0 W ) hZ (oW hw 37 rfl) (oW hw 36 rfl) (by decide) (by decide)) (g := (mkF m 138 #[.val (.ref (w 6)), .val (.ref (w 2)), .val (.ref (w 3)), .val (.ref (w 1)), .val (.ref (w 3))] [.null])) rfl (by rw [hml]; rfl) (argsL := [.null]) (rest := []) (lenOf pd_2 rfl) rfl (by show 2 * 0 + _ ≤ _; exact Nat.le_of_eq rfl) (hb hby d3_138) (fun _ _ => ⟨rfl, e3, (by decide : 0 + 0 ≤ _), (by decide : 0 + 0 ≤ _)⟩)
  dsimp only [Pt.U, Pt.locs, Pt.cells, Pt.slots] at X4 l4 y4 z4 st4 hQ4
  rw [l4, y4, z4] at X4
  clear l4 y4 z4
  obtain ⟨rfl, Nq4, e4⟩ := hQ4
  have N4 := Fr.app N3 Nq4
  refine oS (fun t k => st4 t k) ?_
  show oG _ _ _ _ _ _ _ (T4.setTop (mkF m 141 #[.val (.ref (w 6)), .val (.ref (w 2)), .val (.ref (w 3)), .val (.ref (w 1)), .val (.ref (w 3))] [(.ref (w 7))]))
  try clear st4 X3 e3
  exact own_ret (v := some (.ref (w 7))) X4 (fun h => by rw [Bd.returns] at h; cases h) Bd.notSynchronized (fun fs hr => retOut X4 hx (t := (.object "java/util/Optional")) Bd.returns rfl (Or.inr (Or.inr (Or.inr (Or.inr ⟨rfl, rfl, rfl⟩)))) (hb hby d3_141) hr) (by rw [e4]; exact ⟨rfl, N4, rfl⟩) (by decide) (by decide)
def Q_ty_222 (Z : State)  (w : Nat → Addr) (h0 : Heap) (n0 : Nat) (v : Option Value) (h : Heap) (L : List Loc) : Prop := v = some (.ref (w 7)) ∧ Fr n0 L ∧ h = h0
set_option maxRecDepth 65536 in
set_option maxHeartbeats 40000000 in
theorem rm_ty_222 (l : Launch) (Z : State) (a0 : Array Value) (hw : ∀ d ∈ tables_1, d.before a0 Z = true) (ws : List Jvm.Cond)  (w : Nat → Addr) (h0 : Heap) (n0 : Nat) (O0 : Old Z n0 h0) (W : own_World Z w) :
    MetFree l mY8 (head1 (Jvm.Cond.code mY8 prog_45_method_6_code 5 (some (.object "java/util/Optional")) :: ws) ({ frames := 1, cells := 0, slots := 0, locals := 12 } : Room)) (fun a U => a = #[(.ref (w 6)), (.ref (w 2)), (.ref (w 2))] ∧ Z.Warmed39 U.vm ∧ U.heap = h0) (fun _ _ _ _ _ => True) (fun _ U o U' => ∃ v L, o = .returned v ∧ Q_ty_222 Z  w h0 n0 v U'.heap L ∧ FrameEnd U o U' L ({ frames := 1, cells := 0, slots := 0, locals := 12 } : Room).cells ({ frames := 1, cells := 0, slots := 0, locals := 12 } : Room).slots) := by
  refine MetFree.of_bodySF (plainFor_of_name pn_4) hisR ?_
  intro p e s m args below meth c s₁ Bd hml0 hP hK
  obtain ⟨rfl, hZ, hh⟩ := hP
  have hx := Bd.exec
  have hby := Bd.bytes
  have hml : c.maxLocals = 5 := hml0
  have hown : s.vm.findClass "com/example/planwright/planwright/model/Expression$Operator" = some m.cls := findClass_of_methodNamed Bd.named
  have hnm := (name_of_methodNamed Bd.named Bd.method).1
  have X0 : Stand p l e ({ frames := 1, cells := 0, slots := 0, locals := 12 } : Room) s m #[(.ref (w 6)), (.ref (w 2)), (.ref (w 2))] below meth c s₁ [] 0 0 := Stand.of_body Bd
  have e0 : s₁.heap = h0 := by rw [← hh, Bd.state]; rfl
  have N0 := Fr.nil n0
  show oG p e below s (Q_ty_222 Z  w h0 n0) ({ frames := 1, cells := 0, slots := 0, locals := 12 } : Room).cells ({ frames := 1, cells := 0, slots := 0, locals := 12 } : Room).slots _
  refine oS (fun t k => castTop (ef_3_rrr m (w 6) (w 2) (w 2)) k) ?_
  show oG _ _ _ _ _ _ _ (s₁.setTop (mkF m 0 #[.val (.ref (w 6)), .val (.ref (w 2)), .val (.ref (w 2)), .unset, .unset] []))
  obtain ⟨T1, X1, e1, st1⟩ := getS2 X0 hx hZ hown (host := "") (Or.inl (oW hw 22 rfl)) Via.refl e0 ((wS1 W).ext O0.2) (g := (mkF m 0 #[.val (.ref (w 6)), .val (.ref (w 2)), .val (.ref (w 2)), .unset, .unset] [])) rfl (hb hby d3_0)
  refine oS (fun t k => st1 t k) ?_
  try clear st1
  refine oS (fun t k => XS.astoreN X1.here hx rfl (hb hby d3_3) rfl rfl (l' := #[.val (.ref (w 6)), .val (.ref (w 2)), .val (.ref (w 2)), .val (.ref (w 1)), .unset]) rfl k) ?_
  obtain ⟨T2, X2, e2, st2⟩ := getS2 X1 hx hZ hown (host := "") (Or.inl (oW hw 23 rfl)) Via.refl e1 ((wS3 W).ext O0.2) (g := (mkF m 4 #[.val (.ref (w 6)), .val (.ref (w 2)), .val (.ref (w 2)), .val (.ref (w 1)), .unset] [])) rfl (hb hby d3_4)
  refine oS (fun t k => st2 t k) ?_
  try clear st2 X1 e1
  try clear T1
  refine oS (fun t k => XS.astore X2.here hx rfl (hb hby d3_7) rfl rfl (l' := #[.val (.ref (w 6)), .val (.ref (w 2)), .val (.ref (w 2)), .val (.ref (w 1)), .val (.ref (w 3))]) rfl k) ?_
  refine oS (fun t k => XS.aloadN X2.here hx rfl (hb hby d3_9) rfl rfl k) ?_
  show oG _ _ _ _ _ _ _ (T2.setTop (mkF m 10 #[.val (.ref (w 6)), .val (.ref (w 2)), .val (.ref (w 2)), .val (.ref (w 1)), .val (.ref (w 3))] [(.ref (w 2))]))
  refine oS (fun t k => XS.aloadN X2.here hx rfl (hb hby d3_10) rfl rfl k) ?_
  refine oS (fun t k => Jvm.RoadKit.acmp (g := (mkF m 11 #[.val (.ref (w 6)), .val (.ref (w 2)), .val (.ref (w 2)), .val (.ref (w 1)), .val (.ref (w 3))] [(.ref (w 1)), (.ref (w 2))])) X2 hx rfl rfl rfl (pc0 := 11) (pc' := 24) (same := false) rfl (hb hby d3_11) rfl (decide_eq_false fun q => (own_neI (wF2_ordinal W) (wF1_ordinal W) (by decide)) (Value.ref.inj q)) (by decide) (by decide) k) ?_
  refine oS (fun t k => XS.aloadN X2.here hx rfl (hb hby d3_24) rfl rfl k) ?_
  obtain ⟨cq3, kq3, q3a, q3b, q3c⟩ := isOf hZ e2 ((wE6 W).ext O0.2)
  obtain ⟨_, _, ⟨T3, L3, k3, n3⟩, -, X3, ⟨Lc3, hQ3, l3, y3, z3⟩, st3⟩ := X2.virtualBackUp hx (x := mY9) (y := mY1) hown (mvT hZ (oW hw 25 rfl)) (mvT hZ (oW hw 26 rfl)) (mvT hZ (oW hw 27 rfl)) (by decide) (mvT hZ (oW hw 29 rfl)) (mvT hZ (oW hw 28 rfl)) (backOf (W := 0) (rm_ord_2 l Z a0 hw []  w h0 n0 O0 W ) hZ (oW hw 31 rfl) (oW hw 30 rfl) (by decide) (by decide)) q3a q3c (g := (mkF m 25 #[.val (.ref (w 6)), .val (.ref (w 2)), .val (.ref (w 2)), .val (.ref (w 1)), .val (.ref (w 3))] [(.ref (w 6))])) rfl (by rw [hml]; rfl) (Steps.refl _) (argsL := []) (rest := []) (lenOf pd_3 rfl) rfl (by show 2 * 0 + _ ≤ _; exact Nat.le_of_eq rfl) (hb hby d3_25) (fun _ _ => ⟨rfl, e2, (by decide : 0 + 0 ≤ _), (by decide : 0 + 0 ≤ _)⟩)
  dsimp only [Pt.U, Pt.locs, Pt.cells, Pt.slots] at X3 l3 y3 z3 st3 hQ3
  rw [l3, y3, z3] at X3
  clear l3 y3 z3
  obtain ⟨rfl, Nq3, e3⟩ := hQ3
  have N3 := Fr.app N0 Nq3
  refine oS (fun t k => st3.trans k) ?_
  show oG _ _ _ _ _ _ _ (T3.setTop (mkF m 28 #[.val (.ref (w 6)), .val (.ref (w 2)), .val (.ref (w 2)), .val (.ref (w 1)), .val (.ref (w 3))] [(.int 2)]))
  try clear st3 X2 e2
  try clear T2
  refine oS (fun t k => XS.tswIn X3.here hx rfl (pc0 := 28) (pc' := 137) rfl (hb hby d3_28) (i := (2 : Int32)) rfl (by decide) (o := 109) rfl (by decide) (by decide) k) ?_
  refine oS (fun t k => XS.aconstNull X3.here hx rfl (hb hby d3_137) k) ?_
  obtain ⟨_, _, ⟨T4, L4, k4, n4⟩, -, X4, ⟨Lc4, hQ4, l4, y4, z4⟩, st4⟩ := Jvm.LawKit.callS X3 hx (y := mY6) hown (mvT hZ (oW hw 34 rfl)) (mvT hZ (oW hw 35 rfl)) (mvT hZ (oW hw 36 rfl)) (mvT hZ (oW hw 37 rfl)) (by decide) (backOf (W := 0) (rm_ofN0 l Z a0 hw []  w h0 n0 O0 W ) hZ (oW hw 37 rfl) (oW hw 36 rfl) (by decide) (by decide)) (g := (mkF m 138 #[.val (.ref (w 6)), .val (.ref (w 2)), .val (.ref (w 2)), .val (.ref (w 1)), .val (.ref (w 3))] [.null])) rfl (by rw [hml]; rfl) (argsL := [.null]) (rest := []) (lenOf pd_2 rfl) rfl (by show 2 * 0 + _ ≤ _; exact Nat.le_of_eq rfl) (hb hby d3_138) (fun _ _ => ⟨rfl, e3, (by decide : 0 + 0 ≤ _), (by decide : 0 + 0 ≤ _)⟩)
  dsimp only [Pt.U, Pt.locs, Pt.cells, Pt.slots] at X4 l4 y4 z4 st4 hQ4
  rw [l4, y4, z4] at X4
  clear l4 y4 z4
  obtain ⟨rfl, Nq4, e4⟩ := hQ4
  have N4 := Fr.app N3 Nq4
  refine oS (fun t k => st4 t k) ?_
  show oG _ _ _ _ _ _ _ (T4.setTop (mkF m 141 #[.val (.ref (w 6)), .val (.ref (w 2)), .val (.ref (w 2)), .val (.ref (w 1)), .val (.ref (w 3))] [(.ref (w 7))]))
  try clear st4 X3 e3
  exact own_ret (v := some (.ref (w 7))) X4 (fun h => by rw [Bd.returns] at h; cases h) Bd.notSynchronized (fun fs hr => retOut X4 hx (t := (.object "java/util/Optional")) Bd.returns rfl (Or.inr (Or.inr (Or.inr (Or.inr ⟨rfl, rfl, rfl⟩)))) (hb hby d3_141) hr) (by rw [e4]; exact ⟨rfl, N4, rfl⟩) (by decide) (by decide)
def Q_ty_300 (Z : State)  (w : Nat → Addr) (h0 : Heap) (n0 : Nat) (v : Option Value) (h : Heap) (L : List Loc) : Prop := ∃ r : Addr, v = some (.ref r) ∧ Fr n0 L ∧ Keep h0 h [] ∧ h0.size ≤ r ∧ Exa Z h r "java/util/Optional" ∧ Fld Z h r "java/util/Optional" "value" "Ljava/lang/Object;" (.ref (w 1))
set_option maxRecDepth 65536 in
set_option maxHeartbeats 40000000 in
theorem rm_ty_300 (l : Launch) (Z : State) (a0 : Array Value) (hw : ∀ d ∈ tables_1, d.before a0 Z = true) (ws : List Jvm.Cond)  (w : Nat → Addr) (h0 : Heap) (n0 : Nat) (O0 : Old Z n0 h0) (W : own_World Z w) :
    MetFree l mY8 (head1 (Jvm.Cond.code mY8 prog_45_method_6_code 5 (some (.object "java/util/Optional")) :: ws) ({ frames := 3, cells := 1, slots := 1, locals := 38 } : Room)) (fun a U => a = #[(.ref (w 5)), (.ref (w 1)), (.ref (w 1))] ∧ Z.Warmed39 U.vm ∧ U.heap = h0) (fun _ _ _ _ _ => True) (fun _ U o U' => ∃ v L, o = .returned v ∧ Q_ty_300 Z  w h0 n0 v U'.heap L ∧ FrameEnd U o U' L ({ frames := 3, cells := 1, slots := 1, locals := 38 } : Room).cells ({ frames := 3, cells := 1, slots := 1, locals := 38 } : Room).slots) := by
  refine MetFree.of_bodySF (plainFor_of_name pn_4) hisR ?_
  intro p e s m args below meth c s₁ Bd hml0 hP hK
  obtain ⟨rfl, hZ, hh⟩ := hP
  have hx := Bd.exec
  have hby := Bd.bytes
  have hml : c.maxLocals = 5 := hml0
  have hown : s.vm.findClass "com/example/planwright/planwright/model/Expression$Operator" = some m.cls := findClass_of_methodNamed Bd.named
  have hnm := (name_of_methodNamed Bd.named Bd.method).1
  have X0 : Stand p l e ({ frames := 3, cells := 1, slots := 1, locals := 38 } : Room) s m #[(.ref (w 5)), (.ref (w 1)), (.ref (w 1))] below meth c s₁ [] 0 0 := Stand.of_body Bd
  have e0 : s₁.heap = h0 := by rw [← hh, Bd.state]; rfl
  have N0 := Fr.nil n0
  show oG p e below s (Q_ty_300 Z  w h0 n0) ({ frames := 3, cells := 1, slots := 1, locals := 38 } : Room).cells ({ frames := 3, cells := 1, slots := 1, locals := 38 } : Room).slots _
  refine oS (fun t k => castTop (ef_3_rrr m (w 5) (w 1) (w 1)) k) ?_
  show oG _ _ _ _ _ _ _ (s₁.setTop (mkF m 0 #[.val (.ref (w 5)), .val (.ref (w 1)), .val (.ref (w 1)), .unset, .unset] []))
  obtain ⟨T1, X1, e1, st1⟩ := getS2 X0 hx hZ hown (host := "") (Or.inl (oW hw 22 rfl)) Via.refl e0 ((wS1 W).ext O0.2) (g := (mkF m 0 #[.val (.ref (w 5)), .val (.ref (w 1)), .val (.ref (w 1)), .unset, .unset] [])) rfl (hb hby d3_0)
  refine oS (fun t k => st1 t k) ?_
  try clear st1
  refine oS (fun t k => XS.astoreN X1.here hx rfl (hb hby d3_3) rfl rfl (l' := #[.val (.ref (w 5)), .val (.ref (w 1)), .val (.ref (w 1)), .val (.ref (w 1)), .unset]) rfl k) ?_
  obtain ⟨T2, X2, e2, st2⟩ := getS2 X1 hx hZ hown (host := "") (Or.inl (oW hw 23 rfl)) Via.refl e1 ((wS3 W).ext O0.2) (g := (mkF m 4 #[.val (.ref (w 5)), .val (.ref (w 1)), .val (.ref (w 1)), .val (.ref (w 1)), .unset] [])) rfl (hb hby d3_4)
  refine oS (fun t k => st2 t k) ?_
  try clear st2 X1 e1
  try clear T1
  refine oS (fun t k => XS.astore X2.here hx rfl (hb hby d3_7) rfl rfl (l' := #[.val (.ref (w 5)), .val (.ref (w 1)), .val (.ref (w 1)), .val (.ref (w 1)), .val (.ref (w 3))]) rfl k) ?_
  refine oS (fun t k => XS.aloadN X2.here hx rfl (hb hby d3_9) rfl rfl k) ?_
  show oG _ _ _ _ _ _ _ (T2.setTop (mkF m 10 #[.val (.ref (w 5)), .val (.ref (w 1)), .val (.ref (w 1)), .val (.ref (w 1)), .val (.ref (w 3))] [(.ref (w 1))]))
  refine oS (fun t k => XS.aloadN X2.here hx rfl (hb hby d3_10) rfl rfl k) ?_
  refine oS (fun t k => Jvm.RoadKit.acmp (g := (mkF m 11 #[.val (.ref (w 5)), .val (.ref (w 1)), .val (.ref (w 1)), .val (.ref (w 1)), .val (.ref (w 3))] [(.ref (w 1)), (.ref (w 1))])) X2 hx rfl rfl rfl (pc0 := 11) (pc' := 14) (same := true) rfl (hb hby d3_11) rfl (decide_eq_true rfl) (by decide) (by decide) k) ?_
  refine oS (fun t k => XS.aloadN X2.here hx rfl (hb hby d3_14) rfl rfl k) ?_
  refine oS (fun t k => XS.aloadN X2.here hx rfl (hb hby d3_15) rfl rfl k) ?_
  refine oS (fun t k => Jvm.RoadKit.acmp (g := (mkF m 16 #[.val (.ref (w 5)), .val (.ref (w 1)), .val (.ref (w 1)), .val (.ref (w 1)), .val (.ref (w 3))] [(.ref (w 1)), (.ref (w 1))])) X2 hx rfl rfl rfl (pc0 := 16) (pc' := 19) (same := true) rfl (hb hby d3_16) rfl (decide_eq_true rfl) (by decide) (by decide) k) ?_
  show oG _ _ _ _ _ _ _ (T2.setTop (mkF m 19 #[.val (.ref (w 5)), .val (.ref (w 1)), .val (.ref (w 1)), .val (.ref (w 1)), .val (.ref (w 3))] []))
  refine oS (fun t k => XS.aloadN X2.here hx rfl (hb hby d3_19) rfl rfl k) ?_
  obtain ⟨_, _, ⟨T3, L3, k3, n3⟩, -, X3, ⟨Lc3, hQ3, l3, y3, z3⟩, st3⟩ := Jvm.LawKit.callS X2 hx (y := mY5) hown (mvT hZ (oW hw 48 rfl)) (mvT hZ (oW hw 49 rfl)) (mvT hZ (oW hw 36 rfl)) (mvT hZ (oW hw 50 rfl)) (by decide) (backOf (W := 0) (rm_of l Z a0 hw [] (w 1) w h0 n0 O0 W ) hZ (oW hw 50 rfl) (oW hw 36 rfl) (by decide) (by decide)) (g := (mkF m 20 #[.val (.ref (w 5)), .val (.ref (w 1)), .val (.ref (w 1)), .val (.ref (w 1)), .val (.ref (w 3))] [(.ref (w 1))])) rfl (by rw [hml]; rfl) (argsL := [(.ref (w 1))]) (rest := []) (lenOf pd_2 rfl) rfl (by show 2 * 0 + _ ≤ _; exact Nat.le_of_eq rfl) (hb hby d3_20) (fun _ _ => ⟨rfl, e2, (by decide : 0 + 1 ≤ _), (by decide : 0 + 1 ≤ _)⟩)
  dsimp only [Pt.U, Pt.locs, Pt.cells, Pt.slots] at X3 l3 y3 z3 st3 hQ3
  rw [l3, y3, z3] at X3
  clear l3 y3 z3
  obtain ⟨r3, rfl, Nq3, K3, sr3, P3_0, P3_1⟩ := hQ3
  have N3 := Fr.app N0 Nq3
  have O3 := O0.keep K3 (fun x q => absurd q List.not_mem_nil)
  have Kp3 : Keep h0 T3.heap [] := (Keep.refl h0 []).trans K3 (fun x q => absurd q List.not_mem_nil)
  have gr3 : n0 ≤ r3 := Nat.le_trans (O0.1 ▸ O0.2.1) sr3
  have szr3 : h0.size ≤ r3 := Nat.le_trans (Nat.le_refl _) sr3
  refine oS (fun t k => st3 t k) ?_
  show oG _ _ _ _ _ _ _ (T3.setTop (mkF m 23 #[.val (.ref (w 5)), .val (.ref (w 1)), .val (.ref (w 1)), .val (.ref (w 1)), .val (.ref (w 3))] [(.ref r3)]))
  try clear st3 X2 e2
  try clear T2
  exact own_ret (v := some (.ref r3)) X3 (fun h => by rw [Bd.returns] at h; cases h) Bd.notSynchronized (fun fs hr => retOut X3 hx (t := (.object "java/util/Optional")) Bd.returns rfl (Or.inr (Or.inr (Or.inr (Or.inr ⟨rfl, rfl, rfl⟩)))) (hb hby d3_23) hr) (by exact ⟨r3, rfl, N3, Kp3, szr3, P3_0, P3_1⟩) (by decide) (by decide)
def Q_ty_301 (Z : State)  (w : Nat → Addr) (h0 : Heap) (n0 : Nat) (v : Option Value) (h : Heap) (L : List Loc) : Prop := v = some (.ref (w 7)) ∧ Fr n0 L ∧ h = h0
set_option maxRecDepth 65536 in
set_option maxHeartbeats 40000000 in
theorem rm_ty_301 (l : Launch) (Z : State) (a0 : Array Value) (hw : ∀ d ∈ tables_1, d.before a0 Z = true) (ws : List Jvm.Cond)  (w : Nat → Addr) (h0 : Heap) (n0 : Nat) (O0 : Old Z n0 h0) (W : own_World Z w) :
    MetFree l mY8 (head1 (Jvm.Cond.code mY8 prog_45_method_6_code 5 (some (.object "java/util/Optional")) :: ws) ({ frames := 1, cells := 0, slots := 0, locals := 12 } : Room)) (fun a U => a = #[(.ref (w 5)), (.ref (w 1)), (.ref (w 3))] ∧ Z.Warmed39 U.vm ∧ U.heap = h0) (fun _ _ _ _ _ => True) (fun _ U o U' => ∃ v L, o = .returned v ∧ Q_ty_301 Z  w h0 n0 v U'.heap L ∧ FrameEnd U o U' L ({ frames := 1, cells := 0, slots := 0, locals := 12 } : Room).cells ({ frames := 1, cells := 0, slots := 0, locals := 12 } : Room).slots) := by
  refine MetFree.of_bodySF (plainFor_of_name pn_4) hisR ?_
  intro p e s m args below meth c s₁ Bd hml0 hP hK
  obtain ⟨rfl, hZ, hh⟩ := hP
  have hx := Bd.exec
  have hby := Bd.bytes
  have hml : c.maxLocals = 5 := hml0
  have hown : s.vm.findClass "com/example/planwright/planwright/model/Expression$Operator" = some m.cls := findClass_of_methodNamed Bd.named
  have hnm := (name_of_methodNamed Bd.named Bd.method).1
  have X0 : Stand p l e ({ frames := 1, cells := 0, slots := 0, locals := 12 } : Room) s m #[(.ref (w 5)), (.ref (w 1)), (.ref (w 3))] below meth c s₁ [] 0 0 := Stand.of_body Bd
  have e0 : s₁.heap = h0 := by rw [← hh, Bd.state]; rfl
  have N0 := Fr.nil n0
  show oG p e below s (Q_ty_301 Z  w h0 n0) ({ frames := 1, cells := 0, slots := 0, locals := 12 } : Room).cells ({ frames := 1, cells := 0, slots := 0, locals := 12 } : Room).slots _
  refine oS (fun t k => castTop (ef_3_rrr m (w 5) (w 1) (w 3)) k) ?_
  show oG _ _ _ _ _ _ _ (s₁.setTop (mkF m 0 #[.val (.ref (w 5)), .val (.ref (w 1)), .val (.ref (w 3)), .unset, .unset] []))
  obtain ⟨T1, X1, e1, st1⟩ := getS2 X0 hx hZ hown (host := "") (Or.inl (oW hw 22 rfl)) Via.refl e0 ((wS1 W).ext O0.2) (g := (mkF m 0 #[.val (.ref (w 5)), .val (.ref (w 1)), .val (.ref (w 3)), .unset, .unset] [])) rfl (hb hby d3_0)
  refine oS (fun t k => st1 t k) ?_
  try clear st1
  refine oS (fun t k => XS.astoreN X1.here hx rfl (hb hby d3_3) rfl rfl (l' := #[.val (.ref (w 5)), .val (.ref (w 1)), .val (.ref (w 3)), .val (.ref (w 1)), .unset]) rfl k) ?_
  obtain ⟨T2, X2, e2, st2⟩ := getS2 X1 hx hZ hown (host := "") (Or.inl (oW hw 23 rfl)) Via.refl e1 ((wS3 W).ext O0.2) (g := (mkF m 4 #[.val (.ref (w 5)), .val (.ref (w 1)), .val (.ref (w 3)), .val (.ref (w 1)), .unset] [])) rfl (hb hby d3_4)
  refine oS (fun t k => st2 t k) ?_
  try clear st2 X1 e1
  try clear T1
  refine oS (fun t k => XS.astore X2.here hx rfl (hb hby d3_7) rfl rfl (l' := #[.val (.ref (w 5)), .val (.ref (w 1)), .val (.ref (w 3)), .val (.ref (w 1)), .val (.ref (w 3))]) rfl k) ?_
  refine oS (fun t k => XS.aloadN X2.here hx rfl (hb hby d3_9) rfl rfl k) ?_
  show oG _ _ _ _ _ _ _ (T2.setTop (mkF m 10 #[.val (.ref (w 5)), .val (.ref (w 1)), .val (.ref (w 3)), .val (.ref (w 1)), .val (.ref (w 3))] [(.ref (w 1))]))
  refine oS (fun t k => XS.aloadN X2.here hx rfl (hb hby d3_10) rfl rfl k) ?_
  refine oS (fun t k => Jvm.RoadKit.acmp (g := (mkF m 11 #[.val (.ref (w 5)), .val (.ref (w 1)), .val (.ref (w 3)), .val (.ref (w 1)), .val (.ref (w 3))] [(.ref (w 1)), (.ref (w 1))])) X2 hx rfl rfl rfl (pc0 := 11) (pc' := 14) (same := true) rfl (hb hby d3_11) rfl (decide_eq_true rfl) (by decide) (by decide) k) ?_
  refine oS (fun t k => XS.aloadN X2.here hx rfl (hb hby d3_14) rfl rfl k) ?_
  refine oS (fun t k => XS.aloadN X2.here hx rfl (hb hby d3_15) rfl rfl k) ?_
  refine oS (fun t k => Jvm.RoadKit.acmp (g := (mkF m 16 #[.val (.ref (w 5)), .val (.ref (w 1)), .val (.ref (w 3)), .val (.ref (w 1)), .val (.ref (w 3))] [(.ref (w 1)), (.ref (w 3))])) X2 hx rfl rfl rfl (pc0 := 16) (pc' := 24) (same := false) rfl (hb hby d3_16) rfl (decide_eq_false fun q => (own_neI (wF3_ordinal W) (wF1_ordinal W) (by decide)) (Value.ref.inj q)) (by decide) (by decide) k) ?_
  show oG _ _ _ _ _ _ _ (T2.setTop (mkF m 24 #[.val (.ref (w 5)), .val (.ref (w 1)), .val (.ref (w 3)), .val (.ref (w 1)), .val (.ref (w 3))] []))
  refine oS (fun t k => XS.aloadN X2.here hx rfl (hb hby d3_24) rfl rfl k) ?_
  obtain ⟨cq3, kq3, q3a, q3b, q3c⟩ := isOf hZ e2 ((wE5 W).ext O0.2)
  obtain ⟨_, _, ⟨T3, L3, k3, n3⟩, -, X3, ⟨Lc3, hQ3, l3, y3, z3⟩, st3⟩ := X2.virtualBackUp hx (x := mY9) (y := mY1) hown (mvT hZ (oW hw 25 rfl)) (mvT hZ (oW hw 26 rfl)) (mvT hZ (oW hw 27 rfl)) (by decide) (mvT hZ (oW hw 29 rfl)) (mvT hZ (oW hw 28 rfl)) (backOf (W := 0) (rm_ord_3 l Z a0 hw []  w h0 n0 O0 W ) hZ (oW hw 31 rfl) (oW hw 30 rfl) (by decide) (by decide)) q3a q3c (g := (mkF m 25 #[.val (.ref (w 5)), .val (.ref (w 1)), .val (.ref (w 3)), .val (.ref (w 1)), .val (.ref (w 3))] [(.ref (w 5))])) rfl (by rw [hml]; rfl) (Steps.refl _) (argsL := []) (rest := []) (lenOf pd_3 rfl) rfl (by show 2 * 0 + _ ≤ _; exact Nat.le_of_eq rfl) (hb hby d3_25) (fun _ _ => ⟨rfl, e2, (by decide : 0 + 0 ≤ _), (by decide : 0 + 0 ≤ _)⟩)
  dsimp only [Pt.U, Pt.locs, Pt.cells, Pt.slots] at X3 l3 y3 z3 st3 hQ3
  rw [l3, y3, z3] at X3
  clear l3 y3 z3
  obtain ⟨rfl, Nq3, e3⟩ := hQ3
  have N3 := Fr.app N0 Nq3
  refine oS (fun t k => st3.trans k) ?_
  show oG _ _ _ _ _ _ _ (T3.setTop (mkF m 28 #[.val (.ref (w 5)), .val (.ref (w 1)), .val (.ref (w 3)), .val (.ref (w 1)), .val (.ref (w 3))] [(.int 3)]))
  try clear st3 X2 e2
  try clear T2
  refine oS (fun t k => XS.tswIn X3.here hx rfl (pc0 := 28) (pc' := 137) rfl (hb hby d3_28) (i := (3 : Int32)) rfl (by decide) (o := 109) rfl (by decide) (by decide) k) ?_
  refine oS (fun t k => XS.aconstNull X3.here hx rfl (hb hby d3_137) k) ?_
  obtain ⟨_, _, ⟨T4, L4, k4, n4⟩, -, X4, ⟨Lc4, hQ4, l4, y4, z4⟩, st4⟩ := Jvm.LawKit.callS X3 hx (y := mY6) hown (mvT hZ (oW hw 34 rfl)) (mvT hZ (oW hw 35 rfl)) (mvT hZ (oW hw 36 rfl)) (mvT hZ (oW hw 37 rfl)) (by decide) (backOf (W := 0) (rm_ofN0 l Z a0 hw []  w h0 n0 O0 W ) hZ (oW hw 37 rfl) (oW hw 36 rfl) (by decide) (by decide)) (g := (mkF m 138 #[.val (.ref (w 5)), .val (.ref (w 1)), .val (.ref (w 3)), .val (.ref (w 1)), .val (.ref (w 3))] [.null])) rfl (by rw [hml]; rfl) (argsL := [.null]) (rest := []) (lenOf pd_2 rfl) rfl (by show 2 * 0 + _ ≤ _; exact Nat.le_of_eq rfl) (hb hby d3_138) (fun _ _ => ⟨rfl, e3, (by decide : 0 + 0 ≤ _), (by decide : 0 + 0 ≤ _)⟩)
  dsimp only [Pt.U, Pt.locs, Pt.cells, Pt.slots] at X4 l4 y4 z4 st4 hQ4
  rw [l4, y4, z4] at X4
  clear l4 y4 z4
  obtain ⟨rfl, Nq4, e4⟩ := hQ4
  have N4 := Fr.app N3 Nq4
  refine oS (fun t k => st4 t k) ?_
  show oG _ _ _ _ _ _ _ (T4.setTop (mkF m 141 #[.val (.ref (w 5)), .val (.ref (w 1)), .val (.ref (w 3)), .val (.ref (w 1)), .val (.ref (w 3))] [(.ref (w 7))]))
  try clear st4 X3 e3
  exact own_ret (v := some (.ref (w 7))) X4 (fun h => by rw [Bd.returns] at h; cases h) Bd.notSynchronized (fun fs hr => retOut X4 hx (t := (.object "java/util/Optional")) Bd.returns rfl (Or.inr (Or.inr (Or.inr (Or.inr ⟨rfl, rfl, rfl⟩)))) (hb hby d3_141) hr) (by rw [e4]; exact ⟨rfl, N4, rfl⟩) (by decide) (by decide)
def Q_ty_302 (Z : State)  (w : Nat → Addr) (h0 : Heap) (n0 : Nat) (v : Option Value) (h : Heap) (L : List Loc) : Prop := v = some (.ref (w 7)) ∧ Fr n0 L ∧ h = h0
set_option maxRecDepth 65536 in
set_option maxHeartbeats 40000000 in
theorem rm_ty_302 (l : Launch) (Z : State) (a0 : Array Value) (hw : ∀ d ∈ tables_1, d.before a0 Z = true) (ws : List Jvm.Cond)  (w : Nat → Addr) (h0 : Heap) (n0 : Nat) (O0 : Old Z n0 h0) (W : own_World Z w) :
    MetFree l mY8 (head1 (Jvm.Cond.code mY8 prog_45_method_6_code 5 (some (.object "java/util/Optional")) :: ws) ({ frames := 1, cells := 0, slots := 0, locals := 12 } : Room)) (fun a U => a = #[(.ref (w 5)), (.ref (w 1)), (.ref (w 2))] ∧ Z.Warmed39 U.vm ∧ U.heap = h0) (fun _ _ _ _ _ => True) (fun _ U o U' => ∃ v L, o = .returned v ∧ Q_ty_302 Z  w h0 n0 v U'.heap L ∧ FrameEnd U o U' L ({ frames := 1, cells := 0, slots := 0, locals := 12 } : Room).cells ({ frames := 1, cells := 0, slots := 0, locals := 12 } : Room).slots) := by
  refine MetFree.of_bodySF (plainFor_of_name pn_4) hisR ?_
  intro p e s m args below meth c s₁ Bd hml0 hP hK
  obtain ⟨rfl, hZ, hh⟩ := hP
  have hx := Bd.exec
  have hby := Bd.bytes
  have hml : c.maxLocals = 5 := hml0
  have hown : s.vm.findClass "com/example/planwright/planwright/model/Expression$Operator" = some m.cls := findClass_of_methodNamed Bd.named
  have hnm := (name_of_methodNamed Bd.named Bd.method).1
  have X0 : Stand p l e ({ frames := 1, cells := 0, slots := 0, locals := 12 } : Room) s m #[(.ref (w 5)), (.ref (w 1)), (.ref (w 2))] below meth c s₁ [] 0 0 := Stand.of_body Bd
  have e0 : s₁.heap = h0 := by rw [← hh, Bd.state]; rfl
  have N0 := Fr.nil n0
  show oG p e below s (Q_ty_302 Z  w h0 n0) ({ frames := 1, cells := 0, slots := 0, locals := 12 } : Room).cells ({ frames := 1, cells := 0, slots := 0, locals := 12 } : Room).slots _
  refine oS (fun t k => castTop (ef_3_rrr m (w 5) (w 1) (w 2)) k) ?_
  show oG _ _ _ _ _ _ _ (s₁.setTop (mkF m 0 #[.val (.ref (w 5)), .val (.ref (w 1)), .val (.ref (w 2)), .unset, .unset] []))
  obtain ⟨T1, X1, e1, st1⟩ := getS2 X0 hx hZ hown (host := "") (Or.inl (oW hw 22 rfl)) Via.refl e0 ((wS1 W).ext O0.2) (g := (mkF m 0 #[.val (.ref (w 5)), .val (.ref (w 1)), .val (.ref (w 2)), .unset, .unset] [])) rfl (hb hby d3_0)
  refine oS (fun t k => st1 t k) ?_
  try clear st1
  refine oS (fun t k => XS.astoreN X1.here hx rfl (hb hby d3_3) rfl rfl (l' := #[.val (.ref (w 5)), .val (.ref (w 1)), .val (.ref (w 2)), .val (.ref (w 1)), .unset]) rfl k) ?_
  obtain ⟨T2, X2, e2, st2⟩ := getS2 X1 hx hZ hown (host := "") (Or.inl (oW hw 23 rfl)) Via.refl e1 ((wS3 W).ext O0.2) (g := (mkF m 4 #[.val (.ref (w 5)), .val (.ref (w 1)), .val (.ref (w 2)), .val (.ref (w 1)), .unset] [])) rfl (hb hby d3_4)
  refine oS (fun t k => st2 t k) ?_
  try clear st2 X1 e1
  try clear T1
  refine oS (fun t k => XS.astore X2.here hx rfl (hb hby d3_7) rfl rfl (l' := #[.val (.ref (w 5)), .val (.ref (w 1)), .val (.ref (w 2)), .val (.ref (w 1)), .val (.ref (w 3))]) rfl k) ?_
  refine oS (fun t k => XS.aloadN X2.here hx rfl (hb hby d3_9) rfl rfl k) ?_
  show oG _ _ _ _ _ _ _ (T2.setTop (mkF m 10 #[.val (.ref (w 5)), .val (.ref (w 1)), .val (.ref (w 2)), .val (.ref (w 1)), .val (.ref (w 3))] [(.ref (w 1))]))
  refine oS (fun t k => XS.aloadN X2.here hx rfl (hb hby d3_10) rfl rfl k) ?_
  refine oS (fun t k => Jvm.RoadKit.acmp (g := (mkF m 11 #[.val (.ref (w 5)), .val (.ref (w 1)), .val (.ref (w 2)), .val (.ref (w 1)), .val (.ref (w 3))] [(.ref (w 1)), (.ref (w 1))])) X2 hx rfl rfl rfl (pc0 := 11) (pc' := 14) (same := true) rfl (hb hby d3_11) rfl (decide_eq_true rfl) (by decide) (by decide) k) ?_
  refine oS (fun t k => XS.aloadN X2.here hx rfl (hb hby d3_14) rfl rfl k) ?_
  refine oS (fun t k => XS.aloadN X2.here hx rfl (hb hby d3_15) rfl rfl k) ?_
  refine oS (fun t k => Jvm.RoadKit.acmp (g := (mkF m 16 #[.val (.ref (w 5)), .val (.ref (w 1)), .val (.ref (w 2)), .val (.ref (w 1)), .val (.ref (w 3))] [(.ref (w 1)), (.ref (w 2))])) X2 hx rfl rfl rfl (pc0 := 16) (pc' := 24) (same := false) rfl (hb hby d3_16) rfl (decide_eq_false fun q => (own_neI (wF2_ordinal W) (wF1_ordinal W) (by decide)) (Value.ref.inj q)) (by decide) (by decide) k) ?_
  show oG _ _ _ _ _ _ _ (T2.setTop (mkF m 24 #[.val (.ref (w 5)), .val (.ref (w 1)), .val (.ref (w 2)), .val (.ref (w 1)), .val (.ref (w 3))] []))
  refine oS (fun t k => XS.aloadN X2.here hx rfl (hb hby d3_24) rfl rfl k) ?_
  obtain ⟨cq3, kq3, q3a, q3b, q3c⟩ := isOf hZ e2 ((wE5 W).ext O0.2)
  obtain ⟨_, _, ⟨T3, L3, k3, n3⟩, -, X3, ⟨Lc3, hQ3, l3, y3, z3⟩, st3⟩ := X2.virtualBackUp hx (x := mY9) (y := mY1) hown (mvT hZ (oW hw 25 rfl)) (mvT hZ (oW hw 26 rfl)) (mvT hZ (oW hw 27 rfl)) (by decide) (mvT hZ (oW hw 29 rfl)) (mvT hZ (oW hw 28 rfl)) (backOf (W := 0) (rm_ord_3 l Z a0 hw []  w h0 n0 O0 W ) hZ (oW hw 31 rfl) (oW hw 30 rfl) (by decide) (by decide)) q3a q3c (g := (mkF m 25 #[.val (.ref (w 5)), .val (.ref (w 1)), .val (.ref (w 2)), .val (.ref (w 1)), .val (.ref (w 3))] [(.ref (w 5))])) rfl (by rw [hml]; rfl) (Steps.refl _) (argsL := []) (rest := []) (lenOf pd_3 rfl) rfl (by show 2 * 0 + _ ≤ _; exact Nat.le_of_eq rfl) (hb hby d3_25) (fun _ _ => ⟨rfl, e2, (by decide : 0 + 0 ≤ _), (by decide : 0 + 0 ≤ _)⟩)
  dsimp only [Pt.U, Pt.locs, Pt.cells, Pt.slots] at X3 l3 y3 z3 st3 hQ3
  rw [l3, y3, z3] at X3
  clear l3 y3 z3
  obtain ⟨rfl, Nq3, e3⟩ := hQ3
  have N3 := Fr.app N0 Nq3
  refine oS (fun t k => st3.trans k) ?_
  show oG _ _ _ _ _ _ _ (T3.setTop (mkF m 28 #[.val (.ref (w 5)), .val (.ref (w 1)), .val (.ref (w 2)), .val (.ref (w 1)), .val (.ref (w 3))] [(.int 3)]))
  try clear st3 X2 e2
  try clear T2
  refine oS (fun t k => XS.tswIn X3.here hx rfl (pc0 := 28) (pc' := 137) rfl (hb hby d3_28) (i := (3 : Int32)) rfl (by decide) (o := 109) rfl (by decide) (by decide) k) ?_
  refine oS (fun t k => XS.aconstNull X3.here hx rfl (hb hby d3_137) k) ?_
  obtain ⟨_, _, ⟨T4, L4, k4, n4⟩, -, X4, ⟨Lc4, hQ4, l4, y4, z4⟩, st4⟩ := Jvm.LawKit.callS X3 hx (y := mY6) hown (mvT hZ (oW hw 34 rfl)) (mvT hZ (oW hw 35 rfl)) (mvT hZ (oW hw 36 rfl)) (mvT hZ (oW hw 37 rfl)) (by decide) (backOf (W := 0) (rm_ofN0 l Z a0 hw []  w h0 n0 O0 W ) hZ (oW hw 37 rfl) (oW hw 36 rfl) (by decide) (by decide)) (g := (mkF m 138 #[.val (.ref (w 5)), .val (.ref (w 1)), .val (.ref (w 2)), .val (.ref (w 1)), .val (.ref (w 3))] [.null])) rfl (by rw [hml]; rfl) (argsL := [.null]) (rest := []) (lenOf pd_2 rfl) rfl (by show 2 * 0 + _ ≤ _; exact Nat.le_of_eq rfl) (hb hby d3_138) (fun _ _ => ⟨rfl, e3, (by decide : 0 + 0 ≤ _), (by decide : 0 + 0 ≤ _)⟩)
  dsimp only [Pt.U, Pt.locs, Pt.cells, Pt.slots] at X4 l4 y4 z4 st4 hQ4
  rw [l4, y4, z4] at X4
  clear l4 y4 z4
  obtain ⟨rfl, Nq4, e4⟩ := hQ4
  have N4 := Fr.app N3 Nq4
  refine oS (fun t k => st4 t k) ?_
  show oG _ _ _ _ _ _ _ (T4.setTop (mkF m 141 #[.val (.ref (w 5)), .val (.ref (w 1)), .val (.ref (w 2)), .val (.ref (w 1)), .val (.ref (w 3))] [(.ref (w 7))]))
  try clear st4 X3 e3
  exact own_ret (v := some (.ref (w 7))) X4 (fun h => by rw [Bd.returns] at h; cases h) Bd.notSynchronized (fun fs hr => retOut X4 hx (t := (.object "java/util/Optional")) Bd.returns rfl (Or.inr (Or.inr (Or.inr (Or.inr ⟨rfl, rfl, rfl⟩)))) (hb hby d3_141) hr) (by rw [e4]; exact ⟨rfl, N4, rfl⟩) (by decide) (by decide)
def Q_ty_310 (Z : State)  (w : Nat → Addr) (h0 : Heap) (n0 : Nat) (v : Option Value) (h : Heap) (L : List Loc) : Prop := v = some (.ref (w 7)) ∧ Fr n0 L ∧ h = h0
set_option maxRecDepth 65536 in
set_option maxHeartbeats 40000000 in
theorem rm_ty_310 (l : Launch) (Z : State) (a0 : Array Value) (hw : ∀ d ∈ tables_1, d.before a0 Z = true) (ws : List Jvm.Cond)  (w : Nat → Addr) (h0 : Heap) (n0 : Nat) (O0 : Old Z n0 h0) (W : own_World Z w) :
    MetFree l mY8 (head1 (Jvm.Cond.code mY8 prog_45_method_6_code 5 (some (.object "java/util/Optional")) :: ws) ({ frames := 1, cells := 0, slots := 0, locals := 12 } : Room)) (fun a U => a = #[(.ref (w 5)), (.ref (w 3)), (.ref (w 1))] ∧ Z.Warmed39 U.vm ∧ U.heap = h0) (fun _ _ _ _ _ => True) (fun _ U o U' => ∃ v L, o = .returned v ∧ Q_ty_310 Z  w h0 n0 v U'.heap L ∧ FrameEnd U o U' L ({ frames := 1, cells := 0, slots := 0, locals := 12 } : Room).cells ({ frames := 1, cells := 0, slots := 0, locals := 12 } : Room).slots) := by
  refine MetFree.of_bodySF (plainFor_of_name pn_4) hisR ?_
  intro p e s m args below meth c s₁ Bd hml0 hP hK
  obtain ⟨rfl, hZ, hh⟩ := hP
  have hx := Bd.exec
  have hby := Bd.bytes
  have hml : c.maxLocals = 5 := hml0
  have hown : s.vm.findClass "com/example/planwright/planwright/model/Expression$Operator" = some m.cls := findClass_of_methodNamed Bd.named
  have hnm := (name_of_methodNamed Bd.named Bd.method).1
  have X0 : Stand p l e ({ frames := 1, cells := 0, slots := 0, locals := 12 } : Room) s m #[(.ref (w 5)), (.ref (w 3)), (.ref (w 1))] below meth c s₁ [] 0 0 := Stand.of_body Bd
  have e0 : s₁.heap = h0 := by rw [← hh, Bd.state]; rfl
  have N0 := Fr.nil n0
  show oG p e below s (Q_ty_310 Z  w h0 n0) ({ frames := 1, cells := 0, slots := 0, locals := 12 } : Room).cells ({ frames := 1, cells := 0, slots := 0, locals := 12 } : Room).slots _
  refine oS (fun t k => castTop (ef_3_rrr m (w 5) (w 3) (w 1)) k) ?_
  show oG _ _ _ _ _ _ _ (s₁.setTop (mkF m 0 #[.val (.ref (w 5)), .val (.ref (w 3)), .val (.ref (w 1)), .unset, .unset] []))
  obtain ⟨T1, X1, e1, st1⟩ := getS2 X0 hx hZ hown (host := "") (Or.inl (oW hw 22 rfl)) Via.refl e0 ((wS1 W).ext O0.2) (g := (mkF m 0 #[.val (.ref (w 5)), .val (.ref (w 3)), .val (.ref (w 1)), .unset, .unset] [])) rfl (hb hby d3_0)
  refine oS (fun t k => st1 t k) ?_
  try clear st1
  refine oS (fun t k => XS.astoreN X1.here hx rfl (hb hby d3_3) rfl rfl (l' := #[.val (.ref (w 5)), .val (.ref (w 3)), .val (.ref (w 1)), .val (.ref (w 1)), .unset]) rfl k) ?_
  obtain ⟨T2, X2, e2, st2⟩ := getS2 X1 hx hZ hown (host := "") (Or.inl (oW hw 23 rfl)) Via.refl e1 ((wS3 W).ext O0.2) (g := (mkF m 4 #[.val (.ref (w 5)), .val (.ref (w 3)), .val (.ref (w 1)), .val (.ref (w 1)), .unset] [])) rfl (hb hby d3_4)
  refine oS (fun t k => st2 t k) ?_
  try clear st2 X1 e1
  try clear T1
  refine oS (fun t k => XS.astore X2.here hx rfl (hb hby d3_7) rfl rfl (l' := #[.val (.ref (w 5)), .val (.ref (w 3)), .val (.ref (w 1)), .val (.ref (w 1)), .val (.ref (w 3))]) rfl k) ?_
  refine oS (fun t k => XS.aloadN X2.here hx rfl (hb hby d3_9) rfl rfl k) ?_
  show oG _ _ _ _ _ _ _ (T2.setTop (mkF m 10 #[.val (.ref (w 5)), .val (.ref (w 3)), .val (.ref (w 1)), .val (.ref (w 1)), .val (.ref (w 3))] [(.ref (w 3))]))
  refine oS (fun t k => XS.aloadN X2.here hx rfl (hb hby d3_10) rfl rfl k) ?_
  refine oS (fun t k => Jvm.RoadKit.acmp (g := (mkF m 11 #[.val (.ref (w 5)), .val (.ref (w 3)), .val (.ref (w 1)), .val (.ref (w 1)), .val (.ref (w 3))] [(.ref (w 1)), (.ref (w 3))])) X2 hx rfl rfl rfl (pc0 := 11) (pc' := 24) (same := false) rfl (hb hby d3_11) rfl (decide_eq_false fun q => (own_neI (wF3_ordinal W) (wF1_ordinal W) (by decide)) (Value.ref.inj q)) (by decide) (by decide) k) ?_
  refine oS (fun t k => XS.aloadN X2.here hx rfl (hb hby d3_24) rfl rfl k) ?_
  obtain ⟨cq3, kq3, q3a, q3b, q3c⟩ := isOf hZ e2 ((wE5 W).ext O0.2)
  obtain ⟨_, _, ⟨T3, L3, k3, n3⟩, -, X3, ⟨Lc3, hQ3, l3, y3, z3⟩, st3⟩ := X2.virtualBackUp hx (x := mY9) (y := mY1) hown (mvT hZ (oW hw 25 rfl)) (mvT hZ (oW hw 26 rfl)) (mvT hZ (oW hw 27 rfl)) (by decide) (mvT hZ (oW hw 29 rfl)) (mvT hZ (oW hw 28 rfl)) (backOf (W := 0) (rm_ord_3 l Z a0 hw []  w h0 n0 O0 W ) hZ (oW hw 31 rfl) (oW hw 30 rfl) (by decide) (by decide)) q3a q3c (g := (mkF m 25 #[.val (.ref (w 5)), .val (.ref (w 3)), .val (.ref (w 1)), .val (.ref (w 1)), .val (.ref (w 3))] [(.ref (w 5))])) rfl (by rw [hml]; rfl) (Steps.refl _) (argsL := []) (rest := []) (lenOf pd_3 rfl) rfl (by show 2 * 0 + _ ≤ _; exact Nat.le_of_eq rfl) (hb hby d3_25) (fun _ _ => ⟨rfl, e2, (by decide : 0 + 0 ≤ _), (by decide : 0 + 0 ≤ _)⟩)
  dsimp only [Pt.U, Pt.locs, Pt.cells, Pt.slots] at X3 l3 y3 z3 st3 hQ3
  rw [l3, y3, z3] at X3
  clear l3 y3 z3
  obtain ⟨rfl, Nq3, e3⟩ := hQ3
  have N3 := Fr.app N0 Nq3
  refine oS (fun t k => st3.trans k) ?_
  show oG _ _ _ _ _ _ _ (T3.setTop (mkF m 28 #[.val (.ref (w 5)), .val (.ref (w 3)), .val (.ref (w 1)), .val (.ref (w 1)), .val (.ref (w 3))] [(.int 3)]))
  try clear st3 X2 e2
  try clear T2
  refine oS (fun t k => XS.tswIn X3.here hx rfl (pc0 := 28) (pc' := 137) rfl (hb hby d3_28) (i := (3 : Int32)) rfl (by decide) (o := 109) rfl (by decide) (by decide) k) ?_
  refine oS (fun t k => XS.aconstNull X3.here hx rfl (hb hby d3_137) k) ?_
  obtain ⟨_, _, ⟨T4, L4, k4, n4⟩, -, X4, ⟨Lc4, hQ4, l4, y4, z4⟩, st4⟩ := Jvm.LawKit.callS X3 hx (y := mY6) hown (mvT hZ (oW hw 34 rfl)) (mvT hZ (oW hw 35 rfl)) (mvT hZ (oW hw 36 rfl)) (mvT hZ (oW hw 37 rfl)) (by decide) (backOf (W := 0) (rm_ofN0 l Z a0 hw []  w h0 n0 O0 W ) hZ (oW hw 37 rfl) (oW hw 36 rfl) (by decide) (by decide)) (g := (mkF m 138 #[.val (.ref (w 5)), .val (.ref (w 3)), .val (.ref (w 1)), .val (.ref (w 1)), .val (.ref (w 3))] [.null])) rfl (by rw [hml]; rfl) (argsL := [.null]) (rest := []) (lenOf pd_2 rfl) rfl (by show 2 * 0 + _ ≤ _; exact Nat.le_of_eq rfl) (hb hby d3_138) (fun _ _ => ⟨rfl, e3, (by decide : 0 + 0 ≤ _), (by decide : 0 + 0 ≤ _)⟩)
  dsimp only [Pt.U, Pt.locs, Pt.cells, Pt.slots] at X4 l4 y4 z4 st4 hQ4
  rw [l4, y4, z4] at X4
  clear l4 y4 z4
  obtain ⟨rfl, Nq4, e4⟩ := hQ4
  have N4 := Fr.app N3 Nq4
  refine oS (fun t k => st4 t k) ?_
  show oG _ _ _ _ _ _ _ (T4.setTop (mkF m 141 #[.val (.ref (w 5)), .val (.ref (w 3)), .val (.ref (w 1)), .val (.ref (w 1)), .val (.ref (w 3))] [(.ref (w 7))]))
  try clear st4 X3 e3
  exact own_ret (v := some (.ref (w 7))) X4 (fun h => by rw [Bd.returns] at h; cases h) Bd.notSynchronized (fun fs hr => retOut X4 hx (t := (.object "java/util/Optional")) Bd.returns rfl (Or.inr (Or.inr (Or.inr (Or.inr ⟨rfl, rfl, rfl⟩)))) (hb hby d3_141) hr) (by rw [e4]; exact ⟨rfl, N4, rfl⟩) (by decide) (by decide)
def Q_ty_311 (Z : State)  (w : Nat → Addr) (h0 : Heap) (n0 : Nat) (v : Option Value) (h : Heap) (L : List Loc) : Prop := v = some (.ref (w 7)) ∧ Fr n0 L ∧ h = h0
set_option maxRecDepth 65536 in
set_option maxHeartbeats 40000000 in
theorem rm_ty_311 (l : Launch) (Z : State) (a0 : Array Value) (hw : ∀ d ∈ tables_1, d.before a0 Z = true) (ws : List Jvm.Cond)  (w : Nat → Addr) (h0 : Heap) (n0 : Nat) (O0 : Old Z n0 h0) (W : own_World Z w) :
    MetFree l mY8 (head1 (Jvm.Cond.code mY8 prog_45_method_6_code 5 (some (.object "java/util/Optional")) :: ws) ({ frames := 1, cells := 0, slots := 0, locals := 12 } : Room)) (fun a U => a = #[(.ref (w 5)), (.ref (w 3)), (.ref (w 3))] ∧ Z.Warmed39 U.vm ∧ U.heap = h0) (fun _ _ _ _ _ => True) (fun _ U o U' => ∃ v L, o = .returned v ∧ Q_ty_311 Z  w h0 n0 v U'.heap L ∧ FrameEnd U o U' L ({ frames := 1, cells := 0, slots := 0, locals := 12 } : Room).cells ({ frames := 1, cells := 0, slots := 0, locals := 12 } : Room).slots) := by
  refine MetFree.of_bodySF (plainFor_of_name pn_4) hisR ?_
  intro p e s m args below meth c s₁ Bd hml0 hP hK
  obtain ⟨rfl, hZ, hh⟩ := hP
  have hx := Bd.exec
  have hby := Bd.bytes
  have hml : c.maxLocals = 5 := hml0
  have hown : s.vm.findClass "com/example/planwright/planwright/model/Expression$Operator" = some m.cls := findClass_of_methodNamed Bd.named
  have hnm := (name_of_methodNamed Bd.named Bd.method).1
  have X0 : Stand p l e ({ frames := 1, cells := 0, slots := 0, locals := 12 } : Room) s m #[(.ref (w 5)), (.ref (w 3)), (.ref (w 3))] below meth c s₁ [] 0 0 := Stand.of_body Bd
  have e0 : s₁.heap = h0 := by rw [← hh, Bd.state]; rfl
  have N0 := Fr.nil n0
  show oG p e below s (Q_ty_311 Z  w h0 n0) ({ frames := 1, cells := 0, slots := 0, locals := 12 } : Room).cells ({ frames := 1, cells := 0, slots := 0, locals := 12 } : Room).slots _
  refine oS (fun t k => castTop (ef_3_rrr m (w 5) (w 3) (w 3)) k) ?_
  show oG _ _ _ _ _ _ _ (s₁.setTop (mkF m 0 #[.val (.ref (w 5)), .val (.ref (w 3)), .val (.ref (w 3)), .unset, .unset] []))
  obtain ⟨T1, X1, e1, st1⟩ := getS2 X0 hx hZ hown (host := "") (Or.inl (oW hw 22 rfl)) Via.refl e0 ((wS1 W).ext O0.2) (g := (mkF m 0 #[.val (.ref (w 5)), .val (.ref (w 3)), .val (.ref (w 3)), .unset, .unset] [])) rfl (hb hby d3_0)
  refine oS (fun t k => st1 t k) ?_
  try clear st1
  refine oS (fun t k => XS.astoreN X1.here hx rfl (hb hby d3_3) rfl rfl (l' := #[.val (.ref (w 5)), .val (.ref (w 3)), .val (.ref (w 3)), .val (.ref (w 1)), .unset]) rfl k) ?_
  obtain ⟨T2, X2, e2, st2⟩ := getS2 X1 hx hZ hown (host := "") (Or.inl (oW hw 23 rfl)) Via.refl e1 ((wS3 W).ext O0.2) (g := (mkF m 4 #[.val (.ref (w 5)), .val (.ref (w 3)), .val (.ref (w 3)), .val (.ref (w 1)), .unset] [])) rfl (hb hby d3_4)
  refine oS (fun t k => st2 t k) ?_
  try clear st2 X1 e1
  try clear T1
  refine oS (fun t k => XS.astore X2.here hx rfl (hb hby d3_7) rfl rfl (l' := #[.val (.ref (w 5)), .val (.ref (w 3)), .val (.ref (w 3)), .val (.ref (w 1)), .val (.ref (w 3))]) rfl k) ?_
  refine oS (fun t k => XS.aloadN X2.here hx rfl (hb hby d3_9) rfl rfl k) ?_
  show oG _ _ _ _ _ _ _ (T2.setTop (mkF m 10 #[.val (.ref (w 5)), .val (.ref (w 3)), .val (.ref (w 3)), .val (.ref (w 1)), .val (.ref (w 3))] [(.ref (w 3))]))
  refine oS (fun t k => XS.aloadN X2.here hx rfl (hb hby d3_10) rfl rfl k) ?_
  refine oS (fun t k => Jvm.RoadKit.acmp (g := (mkF m 11 #[.val (.ref (w 5)), .val (.ref (w 3)), .val (.ref (w 3)), .val (.ref (w 1)), .val (.ref (w 3))] [(.ref (w 1)), (.ref (w 3))])) X2 hx rfl rfl rfl (pc0 := 11) (pc' := 24) (same := false) rfl (hb hby d3_11) rfl (decide_eq_false fun q => (own_neI (wF3_ordinal W) (wF1_ordinal W) (by decide)) (Value.ref.inj q)) (by decide) (by decide) k) ?_
  refine oS (fun t k => XS.aloadN X2.here hx rfl (hb hby d3_24) rfl rfl k) ?_
  obtain ⟨cq3, kq3, q3a, q3b, q3c⟩ := isOf hZ e2 ((wE5 W).ext O0.2)
  obtain ⟨_, _, ⟨T3, L3, k3, n3⟩, -, X3, ⟨Lc3, hQ3, l3, y3, z3⟩, st3⟩ := X2.virtualBackUp hx (x := mY9) (y := mY1) hown (mvT hZ (oW hw 25 rfl)) (mvT hZ (oW hw 26 rfl)) (mvT hZ (oW hw 27 rfl)) (by decide) (mvT hZ (oW hw 29 rfl)) (mvT hZ (oW hw 28 rfl)) (backOf (W := 0) (rm_ord_3 l Z a0 hw []  w h0 n0 O0 W ) hZ (oW hw 31 rfl) (oW hw 30 rfl) (by decide) (by decide)) q3a q3c (g := (mkF m 25 #[.val (.ref (w 5)), .val (.ref (w 3)), .val (.ref (w 3)), .val (.ref (w 1)), .val (.ref (w 3))] [(.ref (w 5))])) rfl (by rw [hml]; rfl) (Steps.refl _) (argsL := []) (rest := []) (lenOf pd_3 rfl) rfl (by show 2 * 0 + _ ≤ _; exact Nat.le_of_eq rfl) (hb hby d3_25) (fun _ _ => ⟨rfl, e2, (by decide : 0 + 0 ≤ _), (by decide : 0 + 0 ≤ _)⟩)
  dsimp only [Pt.U, Pt.locs, Pt.cells, Pt.slots] at X3 l3 y3 z3 st3 hQ3
  rw [l3, y3, z3] at X3
  clear l3 y3 z3
  obtain ⟨rfl, Nq3, e3⟩ := hQ3
  have N3 := Fr.app N0 Nq3
  refine oS (fun t k => st3.trans k) ?_
  show oG _ _ _ _ _ _ _ (T3.setTop (mkF m 28 #[.val (.ref (w 5)), .val (.ref (w 3)), .val (.ref (w 3)), .val (.ref (w 1)), .val (.ref (w 3))] [(.int 3)]))
  try clear st3 X2 e2
  try clear T2
  refine oS (fun t k => XS.tswIn X3.here hx rfl (pc0 := 28) (pc' := 137) rfl (hb hby d3_28) (i := (3 : Int32)) rfl (by decide) (o := 109) rfl (by decide) (by decide) k) ?_
  refine oS (fun t k => XS.aconstNull X3.here hx rfl (hb hby d3_137) k) ?_
  obtain ⟨_, _, ⟨T4, L4, k4, n4⟩, -, X4, ⟨Lc4, hQ4, l4, y4, z4⟩, st4⟩ := Jvm.LawKit.callS X3 hx (y := mY6) hown (mvT hZ (oW hw 34 rfl)) (mvT hZ (oW hw 35 rfl)) (mvT hZ (oW hw 36 rfl)) (mvT hZ (oW hw 37 rfl)) (by decide) (backOf (W := 0) (rm_ofN0 l Z a0 hw []  w h0 n0 O0 W ) hZ (oW hw 37 rfl) (oW hw 36 rfl) (by decide) (by decide)) (g := (mkF m 138 #[.val (.ref (w 5)), .val (.ref (w 3)), .val (.ref (w 3)), .val (.ref (w 1)), .val (.ref (w 3))] [.null])) rfl (by rw [hml]; rfl) (argsL := [.null]) (rest := []) (lenOf pd_2 rfl) rfl (by show 2 * 0 + _ ≤ _; exact Nat.le_of_eq rfl) (hb hby d3_138) (fun _ _ => ⟨rfl, e3, (by decide : 0 + 0 ≤ _), (by decide : 0 + 0 ≤ _)⟩)
  dsimp only [Pt.U, Pt.locs, Pt.cells, Pt.slots] at X4 l4 y4 z4 st4 hQ4
  rw [l4, y4, z4] at X4
  clear l4 y4 z4
  obtain ⟨rfl, Nq4, e4⟩ := hQ4
  have N4 := Fr.app N3 Nq4
  refine oS (fun t k => st4 t k) ?_
  show oG _ _ _ _ _ _ _ (T4.setTop (mkF m 141 #[.val (.ref (w 5)), .val (.ref (w 3)), .val (.ref (w 3)), .val (.ref (w 1)), .val (.ref (w 3))] [(.ref (w 7))]))
  try clear st4 X3 e3
  exact own_ret (v := some (.ref (w 7))) X4 (fun h => by rw [Bd.returns] at h; cases h) Bd.notSynchronized (fun fs hr => retOut X4 hx (t := (.object "java/util/Optional")) Bd.returns rfl (Or.inr (Or.inr (Or.inr (Or.inr ⟨rfl, rfl, rfl⟩)))) (hb hby d3_141) hr) (by rw [e4]; exact ⟨rfl, N4, rfl⟩) (by decide) (by decide)
def Q_ty_312 (Z : State)  (w : Nat → Addr) (h0 : Heap) (n0 : Nat) (v : Option Value) (h : Heap) (L : List Loc) : Prop := v = some (.ref (w 7)) ∧ Fr n0 L ∧ h = h0
set_option maxRecDepth 65536 in
set_option maxHeartbeats 40000000 in
theorem rm_ty_312 (l : Launch) (Z : State) (a0 : Array Value) (hw : ∀ d ∈ tables_1, d.before a0 Z = true) (ws : List Jvm.Cond)  (w : Nat → Addr) (h0 : Heap) (n0 : Nat) (O0 : Old Z n0 h0) (W : own_World Z w) :
    MetFree l mY8 (head1 (Jvm.Cond.code mY8 prog_45_method_6_code 5 (some (.object "java/util/Optional")) :: ws) ({ frames := 1, cells := 0, slots := 0, locals := 12 } : Room)) (fun a U => a = #[(.ref (w 5)), (.ref (w 3)), (.ref (w 2))] ∧ Z.Warmed39 U.vm ∧ U.heap = h0) (fun _ _ _ _ _ => True) (fun _ U o U' => ∃ v L, o = .returned v ∧ Q_ty_312 Z  w h0 n0 v U'.heap L ∧ FrameEnd U o U' L ({ frames := 1, cells := 0, slots := 0, locals := 12 } : Room).cells ({ frames := 1, cells := 0, slots := 0, locals := 12 } : Room).slots) := by
  refine MetFree.of_bodySF (plainFor_of_name pn_4) hisR ?_
  intro p e s m args below meth c s₁ Bd hml0 hP hK
  obtain ⟨rfl, hZ, hh⟩ := hP
  have hx := Bd.exec
  have hby := Bd.bytes
  have hml : c.maxLocals = 5 := hml0
  have hown : s.vm.findClass "com/example/planwright/planwright/model/Expression$Operator" = some m.cls := findClass_of_methodNamed Bd.named
  have hnm := (name_of_methodNamed Bd.named Bd.method).1
  have X0 : Stand p l e ({ frames := 1, cells := 0, slots := 0, locals := 12 } : Room) s m #[(.ref (w 5)), (.ref (w 3)), (.ref (w 2))] below meth c s₁ [] 0 0 := Stand.of_body Bd
  have e0 : s₁.heap = h0 := by rw [← hh, Bd.state]; rfl
  have N0 := Fr.nil n0
  show oG p e below s (Q_ty_312 Z  w h0 n0) ({ frames := 1, cells := 0, slots := 0, locals := 12 } : Room).cells ({ frames := 1, cells := 0, slots := 0, locals := 12 } : Room).slots _
  refine oS (fun t k => castTop (ef_3_rrr m (w 5) (w 3) (w 2)) k) ?_
  show oG _ _ _ _ _ _ _ (s₁.setTop (mkF m 0 #[.val (.ref (w 5)), .val (.ref (w 3)), .val (.ref (w 2)), .unset, .unset] []))
  obtain ⟨T1, X1, e1, st1⟩ := getS2 X0 hx hZ hown (host := "") (Or.inl (oW hw 22 rfl)) Via.refl e0 ((wS1 W).ext O0.2) (g := (mkF m 0 #[.val (.ref (w 5)), .val (.ref (w 3)), .val (.ref (w 2)), .unset, .unset] [])) rfl (hb hby d3_0)
  refine oS (fun t k => st1 t k) ?_
  try clear st1
  refine oS (fun t k => XS.astoreN X1.here hx rfl (hb hby d3_3) rfl rfl (l' := #[.val (.ref (w 5)), .val (.ref (w 3)), .val (.ref (w 2)), .val (.ref (w 1)), .unset]) rfl k) ?_
  obtain ⟨T2, X2, e2, st2⟩ := getS2 X1 hx hZ hown (host := "") (Or.inl (oW hw 23 rfl)) Via.refl e1 ((wS3 W).ext O0.2) (g := (mkF m 4 #[.val (.ref (w 5)), .val (.ref (w 3)), .val (.ref (w 2)), .val (.ref (w 1)), .unset] [])) rfl (hb hby d3_4)
  refine oS (fun t k => st2 t k) ?_
  try clear st2 X1 e1
  try clear T1
  refine oS (fun t k => XS.astore X2.here hx rfl (hb hby d3_7) rfl rfl (l' := #[.val (.ref (w 5)), .val (.ref (w 3)), .val (.ref (w 2)), .val (.ref (w 1)), .val (.ref (w 3))]) rfl k) ?_
  refine oS (fun t k => XS.aloadN X2.here hx rfl (hb hby d3_9) rfl rfl k) ?_
  show oG _ _ _ _ _ _ _ (T2.setTop (mkF m 10 #[.val (.ref (w 5)), .val (.ref (w 3)), .val (.ref (w 2)), .val (.ref (w 1)), .val (.ref (w 3))] [(.ref (w 3))]))
  refine oS (fun t k => XS.aloadN X2.here hx rfl (hb hby d3_10) rfl rfl k) ?_
  refine oS (fun t k => Jvm.RoadKit.acmp (g := (mkF m 11 #[.val (.ref (w 5)), .val (.ref (w 3)), .val (.ref (w 2)), .val (.ref (w 1)), .val (.ref (w 3))] [(.ref (w 1)), (.ref (w 3))])) X2 hx rfl rfl rfl (pc0 := 11) (pc' := 24) (same := false) rfl (hb hby d3_11) rfl (decide_eq_false fun q => (own_neI (wF3_ordinal W) (wF1_ordinal W) (by decide)) (Value.ref.inj q)) (by decide) (by decide) k) ?_
  refine oS (fun t k => XS.aloadN X2.here hx rfl (hb hby d3_24) rfl rfl k) ?_
  obtain ⟨cq3, kq3, q3a, q3b, q3c⟩ := isOf hZ e2 ((wE5 W).ext O0.2)
  obtain ⟨_, _, ⟨T3, L3, k3, n3⟩, -, X3, ⟨Lc3, hQ3, l3, y3, z3⟩, st3⟩ := X2.virtualBackUp hx (x := mY9) (y := mY1) hown (mvT hZ (oW hw 25 rfl)) (mvT hZ (oW hw 26 rfl)) (mvT hZ (oW hw 27 rfl)) (by decide) (mvT hZ (oW hw 29 rfl)) (mvT hZ (oW hw 28 rfl)) (backOf (W := 0) (rm_ord_3 l Z a0 hw []  w h0 n0 O0 W ) hZ (oW hw 31 rfl) (oW hw 30 rfl) (by decide) (by decide)) q3a q3c (g := (mkF m 25 #[.val (.ref (w 5)), .val (.ref (w 3)), .val (.ref (w 2)), .val (.ref (w 1)), .val (.ref (w 3))] [(.ref (w 5))])) rfl (by rw [hml]; rfl) (Steps.refl _) (argsL := []) (rest := []) (lenOf pd_3 rfl) rfl (by show 2 * 0 + _ ≤ _; exact Nat.le_of_eq rfl) (hb hby d3_25) (fun _ _ => ⟨rfl, e2, (by decide : 0 + 0 ≤ _), (by decide : 0 + 0 ≤ _)⟩)
  dsimp only [Pt.U, Pt.locs, Pt.cells, Pt.slots] at X3 l3 y3 z3 st3 hQ3
  rw [l3, y3, z3] at X3
  clear l3 y3 z3
  obtain ⟨rfl, Nq3, e3⟩ := hQ3
  have N3 := Fr.app N0 Nq3
  refine oS (fun t k => st3.trans k) ?_
  show oG _ _ _ _ _ _ _ (T3.setTop (mkF m 28 #[.val (.ref (w 5)), .val (.ref (w 3)), .val (.ref (w 2)), .val (.ref (w 1)), .val (.ref (w 3))] [(.int 3)]))
  try clear st3 X2 e2
  try clear T2
  refine oS (fun t k => XS.tswIn X3.here hx rfl (pc0 := 28) (pc' := 137) rfl (hb hby d3_28) (i := (3 : Int32)) rfl (by decide) (o := 109) rfl (by decide) (by decide) k) ?_
  refine oS (fun t k => XS.aconstNull X3.here hx rfl (hb hby d3_137) k) ?_
  obtain ⟨_, _, ⟨T4, L4, k4, n4⟩, -, X4, ⟨Lc4, hQ4, l4, y4, z4⟩, st4⟩ := Jvm.LawKit.callS X3 hx (y := mY6) hown (mvT hZ (oW hw 34 rfl)) (mvT hZ (oW hw 35 rfl)) (mvT hZ (oW hw 36 rfl)) (mvT hZ (oW hw 37 rfl)) (by decide) (backOf (W := 0) (rm_ofN0 l Z a0 hw []  w h0 n0 O0 W ) hZ (oW hw 37 rfl) (oW hw 36 rfl) (by decide) (by decide)) (g := (mkF m 138 #[.val (.ref (w 5)), .val (.ref (w 3)), .val (.ref (w 2)), .val (.ref (w 1)), .val (.ref (w 3))] [.null])) rfl (by rw [hml]; rfl) (argsL := [.null]) (rest := []) (lenOf pd_2 rfl) rfl (by show 2 * 0 + _ ≤ _; exact Nat.le_of_eq rfl) (hb hby d3_138) (fun _ _ => ⟨rfl, e3, (by decide : 0 + 0 ≤ _), (by decide : 0 + 0 ≤ _)⟩)
  dsimp only [Pt.U, Pt.locs, Pt.cells, Pt.slots] at X4 l4 y4 z4 st4 hQ4
  rw [l4, y4, z4] at X4
  clear l4 y4 z4
  obtain ⟨rfl, Nq4, e4⟩ := hQ4
  have N4 := Fr.app N3 Nq4
  refine oS (fun t k => st4 t k) ?_
  show oG _ _ _ _ _ _ _ (T4.setTop (mkF m 141 #[.val (.ref (w 5)), .val (.ref (w 3)), .val (.ref (w 2)), .val (.ref (w 1)), .val (.ref (w 3))] [(.ref (w 7))]))
  try clear st4 X3 e3
  exact own_ret (v := some (.ref (w 7))) X4 (fun h => by rw [Bd.returns] at h; cases h) Bd.notSynchronized (fun fs hr => retOut X4 hx (t := (.object "java/util/Optional")) Bd.returns rfl (Or.inr (Or.inr (Or.inr (Or.inr ⟨rfl, rfl, rfl⟩)))) (hb hby d3_141) hr) (by rw [e4]; exact ⟨rfl, N4, rfl⟩) (by decide) (by decide)
def Q_ty_320 (Z : State)  (w : Nat → Addr) (h0 : Heap) (n0 : Nat) (v : Option Value) (h : Heap) (L : List Loc) : Prop := v = some (.ref (w 7)) ∧ Fr n0 L ∧ h = h0
set_option maxRecDepth 65536 in
set_option maxHeartbeats 40000000 in
theorem rm_ty_320 (l : Launch) (Z : State) (a0 : Array Value) (hw : ∀ d ∈ tables_1, d.before a0 Z = true) (ws : List Jvm.Cond)  (w : Nat → Addr) (h0 : Heap) (n0 : Nat) (O0 : Old Z n0 h0) (W : own_World Z w) :
    MetFree l mY8 (head1 (Jvm.Cond.code mY8 prog_45_method_6_code 5 (some (.object "java/util/Optional")) :: ws) ({ frames := 1, cells := 0, slots := 0, locals := 12 } : Room)) (fun a U => a = #[(.ref (w 5)), (.ref (w 2)), (.ref (w 1))] ∧ Z.Warmed39 U.vm ∧ U.heap = h0) (fun _ _ _ _ _ => True) (fun _ U o U' => ∃ v L, o = .returned v ∧ Q_ty_320 Z  w h0 n0 v U'.heap L ∧ FrameEnd U o U' L ({ frames := 1, cells := 0, slots := 0, locals := 12 } : Room).cells ({ frames := 1, cells := 0, slots := 0, locals := 12 } : Room).slots) := by
  refine MetFree.of_bodySF (plainFor_of_name pn_4) hisR ?_
  intro p e s m args below meth c s₁ Bd hml0 hP hK
  obtain ⟨rfl, hZ, hh⟩ := hP
  have hx := Bd.exec
  have hby := Bd.bytes
  have hml : c.maxLocals = 5 := hml0
  have hown : s.vm.findClass "com/example/planwright/planwright/model/Expression$Operator" = some m.cls := findClass_of_methodNamed Bd.named
  have hnm := (name_of_methodNamed Bd.named Bd.method).1
  have X0 : Stand p l e ({ frames := 1, cells := 0, slots := 0, locals := 12 } : Room) s m #[(.ref (w 5)), (.ref (w 2)), (.ref (w 1))] below meth c s₁ [] 0 0 := Stand.of_body Bd
  have e0 : s₁.heap = h0 := by rw [← hh, Bd.state]; rfl
  have N0 := Fr.nil n0
  show oG p e below s (Q_ty_320 Z  w h0 n0) ({ frames := 1, cells := 0, slots := 0, locals := 12 } : Room).cells ({ frames := 1, cells := 0, slots := 0, locals := 12 } : Room).slots _
  refine oS (fun t k => castTop (ef_3_rrr m (w 5) (w 2) (w 1)) k) ?_
  show oG _ _ _ _ _ _ _ (s₁.setTop (mkF m 0 #[.val (.ref (w 5)), .val (.ref (w 2)), .val (.ref (w 1)), .unset, .unset] []))
  obtain ⟨T1, X1, e1, st1⟩ := getS2 X0 hx hZ hown (host := "") (Or.inl (oW hw 22 rfl)) Via.refl e0 ((wS1 W).ext O0.2) (g := (mkF m 0 #[.val (.ref (w 5)), .val (.ref (w 2)), .val (.ref (w 1)), .unset, .unset] [])) rfl (hb hby d3_0)
  refine oS (fun t k => st1 t k) ?_
  try clear st1
  refine oS (fun t k => XS.astoreN X1.here hx rfl (hb hby d3_3) rfl rfl (l' := #[.val (.ref (w 5)), .val (.ref (w 2)), .val (.ref (w 1)), .val (.ref (w 1)), .unset]) rfl k) ?_
  obtain ⟨T2, X2, e2, st2⟩ := getS2 X1 hx hZ hown (host := "") (Or.inl (oW hw 23 rfl)) Via.refl e1 ((wS3 W).ext O0.2) (g := (mkF m 4 #[.val (.ref (w 5)), .val (.ref (w 2)), .val (.ref (w 1)), .val (.ref (w 1)), .unset] [])) rfl (hb hby d3_4)
  refine oS (fun t k => st2 t k) ?_
  try clear st2 X1 e1
  try clear T1
  refine oS (fun t k => XS.astore X2.here hx rfl (hb hby d3_7) rfl rfl (l' := #[.val (.ref (w 5)), .val (.ref (w 2)), .val (.ref (w 1)), .val (.ref (w 1)), .val (.ref (w 3))]) rfl k) ?_
  refine oS (fun t k => XS.aloadN X2.here hx rfl (hb hby d3_9) rfl rfl k) ?_
  show oG _ _ _ _ _ _ _ (T2.setTop (mkF m 10 #[.val (.ref (w 5)), .val (.ref (w 2)), .val (.ref (w 1)), .val (.ref (w 1)), .val (.ref (w 3))] [(.ref (w 2))]))
  refine oS (fun t k => XS.aloadN X2.here hx rfl (hb hby d3_10) rfl rfl k) ?_
  refine oS (fun t k => Jvm.RoadKit.acmp (g := (mkF m 11 #[.val (.ref (w 5)), .val (.ref (w 2)), .val (.ref (w 1)), .val (.ref (w 1)), .val (.ref (w 3))] [(.ref (w 1)), (.ref (w 2))])) X2 hx rfl rfl rfl (pc0 := 11) (pc' := 24) (same := false) rfl (hb hby d3_11) rfl (decide_eq_false fun q => (own_neI (wF2_ordinal W) (wF1_ordinal W) (by decide)) (Value.ref.inj q)) (by decide) (by decide) k) ?_
  refine oS (fun t k => XS.aloadN X2.here hx rfl (hb hby d3_24) rfl rfl k) ?_
  obtain ⟨cq3, kq3, q3a, q3b, q3c⟩ := isOf hZ e2 ((wE5 W).ext O0.2)
  obtain ⟨_, _, ⟨T3, L3, k3, n3⟩, -, X3, ⟨Lc3, hQ3, l3, y3, z3⟩, st3⟩ := X2.virtualBackUp hx (x := mY9) (y := mY1) hown (mvT hZ (oW hw 25 rfl)) (mvT hZ (oW hw 26 rfl)) (mvT hZ (oW hw 27 rfl)) (by decide) (mvT hZ (oW hw 29 rfl)) (mvT hZ (oW hw 28 rfl)) (backOf (W := 0) (rm_ord_3 l Z a0 hw []  w h0 n0 O0 W ) hZ (oW hw 31 rfl) (oW hw 30 rfl) (by decide) (by decide)) q3a q3c (g := (mkF m 25 #[.val (.ref (w 5)), .val (.ref (w 2)), .val (.ref (w 1)), .val (.ref (w 1)), .val (.ref (w 3))] [(.ref (w 5))])) rfl (by rw [hml]; rfl) (Steps.refl _) (argsL := []) (rest := []) (lenOf pd_3 rfl) rfl (by show 2 * 0 + _ ≤ _; exact Nat.le_of_eq rfl) (hb hby d3_25) (fun _ _ => ⟨rfl, e2, (by decide : 0 + 0 ≤ _), (by decide : 0 + 0 ≤ _)⟩)
  dsimp only [Pt.U, Pt.locs, Pt.cells, Pt.slots] at X3 l3 y3 z3 st3 hQ3
  rw [l3, y3, z3] at X3
  clear l3 y3 z3
  obtain ⟨rfl, Nq3, e3⟩ := hQ3
  have N3 := Fr.app N0 Nq3
  refine oS (fun t k => st3.trans k) ?_
  show oG _ _ _ _ _ _ _ (T3.setTop (mkF m 28 #[.val (.ref (w 5)), .val (.ref (w 2)), .val (.ref (w 1)), .val (.ref (w 1)), .val (.ref (w 3))] [(.int 3)]))
  try clear st3 X2 e2
  try clear T2
  refine oS (fun t k => XS.tswIn X3.here hx rfl (pc0 := 28) (pc' := 137) rfl (hb hby d3_28) (i := (3 : Int32)) rfl (by decide) (o := 109) rfl (by decide) (by decide) k) ?_
  refine oS (fun t k => XS.aconstNull X3.here hx rfl (hb hby d3_137) k) ?_
  obtain ⟨_, _, ⟨T4, L4, k4, n4⟩, -, X4, ⟨Lc4, hQ4, l4, y4, z4⟩, st4⟩ := Jvm.LawKit.callS X3 hx (y := mY6) hown (mvT hZ (oW hw 34 rfl)) (mvT hZ (oW hw 35 rfl)) (mvT hZ (oW hw 36 rfl)) (mvT hZ (oW hw 37 rfl)) (by decide) (backOf (W := 0) (rm_ofN0 l Z a0 hw []  w h0 n0 O0 W ) hZ (oW hw 37 rfl) (oW hw 36 rfl) (by decide) (by decide)) (g := (mkF m 138 #[.val (.ref (w 5)), .val (.ref (w 2)), .val (.ref (w 1)), .val (.ref (w 1)), .val (.ref (w 3))] [.null])) rfl (by rw [hml]; rfl) (argsL := [.null]) (rest := []) (lenOf pd_2 rfl) rfl (by show 2 * 0 + _ ≤ _; exact Nat.le_of_eq rfl) (hb hby d3_138) (fun _ _ => ⟨rfl, e3, (by decide : 0 + 0 ≤ _), (by decide : 0 + 0 ≤ _)⟩)
  dsimp only [Pt.U, Pt.locs, Pt.cells, Pt.slots] at X4 l4 y4 z4 st4 hQ4
  rw [l4, y4, z4] at X4
  clear l4 y4 z4
  obtain ⟨rfl, Nq4, e4⟩ := hQ4
  have N4 := Fr.app N3 Nq4
  refine oS (fun t k => st4 t k) ?_
  show oG _ _ _ _ _ _ _ (T4.setTop (mkF m 141 #[.val (.ref (w 5)), .val (.ref (w 2)), .val (.ref (w 1)), .val (.ref (w 1)), .val (.ref (w 3))] [(.ref (w 7))]))
  try clear st4 X3 e3
  exact own_ret (v := some (.ref (w 7))) X4 (fun h => by rw [Bd.returns] at h; cases h) Bd.notSynchronized (fun fs hr => retOut X4 hx (t := (.object "java/util/Optional")) Bd.returns rfl (Or.inr (Or.inr (Or.inr (Or.inr ⟨rfl, rfl, rfl⟩)))) (hb hby d3_141) hr) (by rw [e4]; exact ⟨rfl, N4, rfl⟩) (by decide) (by decide)
def Q_ty_321 (Z : State)  (w : Nat → Addr) (h0 : Heap) (n0 : Nat) (v : Option Value) (h : Heap) (L : List Loc) : Prop := v = some (.ref (w 7)) ∧ Fr n0 L ∧ h = h0
set_option maxRecDepth 65536 in
set_option maxHeartbeats 40000000 in
theorem rm_ty_321 (l : Launch) (Z : State) (a0 : Array Value) (hw : ∀ d ∈ tables_1, d.before a0 Z = true) (ws : List Jvm.Cond)  (w : Nat → Addr) (h0 : Heap) (n0 : Nat) (O0 : Old Z n0 h0) (W : own_World Z w) :
    MetFree l mY8 (head1 (Jvm.Cond.code mY8 prog_45_method_6_code 5 (some (.object "java/util/Optional")) :: ws) ({ frames := 1, cells := 0, slots := 0, locals := 12 } : Room)) (fun a U => a = #[(.ref (w 5)), (.ref (w 2)), (.ref (w 3))] ∧ Z.Warmed39 U.vm ∧ U.heap = h0) (fun _ _ _ _ _ => True) (fun _ U o U' => ∃ v L, o = .returned v ∧ Q_ty_321 Z  w h0 n0 v U'.heap L ∧ FrameEnd U o U' L ({ frames := 1, cells := 0, slots := 0, locals := 12 } : Room).cells ({ frames := 1, cells := 0, slots := 0, locals := 12 } : Room).slots) := by
  refine MetFree.of_bodySF (plainFor_of_name pn_4) hisR ?_
  intro p e s m args below meth c s₁ Bd hml0 hP hK
  obtain ⟨rfl, hZ, hh⟩ := hP
  have hx := Bd.exec
  have hby := Bd.bytes
  have hml : c.maxLocals = 5 := hml0
  have hown : s.vm.findClass "com/example/planwright/planwright/model/Expression$Operator" = some m.cls := findClass_of_methodNamed Bd.named
  have hnm := (name_of_methodNamed Bd.named Bd.method).1
  have X0 : Stand p l e ({ frames := 1, cells := 0, slots := 0, locals := 12 } : Room) s m #[(.ref (w 5)), (.ref (w 2)), (.ref (w 3))] below meth c s₁ [] 0 0 := Stand.of_body Bd
  have e0 : s₁.heap = h0 := by rw [← hh, Bd.state]; rfl
  have N0 := Fr.nil n0
  show oG p e below s (Q_ty_321 Z  w h0 n0) ({ frames := 1, cells := 0, slots := 0, locals := 12 } : Room).cells ({ frames := 1, cells := 0, slots := 0, locals := 12 } : Room).slots _
  refine oS (fun t k => castTop (ef_3_rrr m (w 5) (w 2) (w 3)) k) ?_
  show oG _ _ _ _ _ _ _ (s₁.setTop (mkF m 0 #[.val (.ref (w 5)), .val (.ref (w 2)), .val (.ref (w 3)), .unset, .unset] []))
  obtain ⟨T1, X1, e1, st1⟩ := getS2 X0 hx hZ hown (host := "") (Or.inl (oW hw 22 rfl)) Via.refl e0 ((wS1 W).ext O0.2) (g := (mkF m 0 #[.val (.ref (w 5)), .val (.ref (w 2)), .val (.ref (w 3)), .unset, .unset] [])) rfl (hb hby d3_0)
  refine oS (fun t k => st1 t k) ?_
  try clear st1
  refine oS (fun t k => XS.astoreN X1.here hx rfl (hb hby d3_3) rfl rfl (l' := #[.val (.ref (w 5)), .val (.ref (w 2)), .val (.ref (w 3)), .val (.ref (w 1)), .unset]) rfl k) ?_
  obtain ⟨T2, X2, e2, st2⟩ := getS2 X1 hx hZ hown (host := "") (Or.inl (oW hw 23 rfl)) Via.refl e1 ((wS3 W).ext O0.2) (g := (mkF m 4 #[.val (.ref (w 5)), .val (.ref (w 2)), .val (.ref (w 3)), .val (.ref (w 1)), .unset] [])) rfl (hb hby d3_4)
  refine oS (fun t k => st2 t k) ?_
  try clear st2 X1 e1
  try clear T1
  refine oS (fun t k => XS.astore X2.here hx rfl (hb hby d3_7) rfl rfl (l' := #[.val (.ref (w 5)), .val (.ref (w 2)), .val (.ref (w 3)), .val (.ref (w 1)), .val (.ref (w 3))]) rfl k) ?_
  refine oS (fun t k => XS.aloadN X2.here hx rfl (hb hby d3_9) rfl rfl k) ?_
  show oG _ _ _ _ _ _ _ (T2.setTop (mkF m 10 #[.val (.ref (w 5)), .val (.ref (w 2)), .val (.ref (w 3)), .val (.ref (w 1)), .val (.ref (w 3))] [(.ref (w 2))]))
  refine oS (fun t k => XS.aloadN X2.here hx rfl (hb hby d3_10) rfl rfl k) ?_
  refine oS (fun t k => Jvm.RoadKit.acmp (g := (mkF m 11 #[.val (.ref (w 5)), .val (.ref (w 2)), .val (.ref (w 3)), .val (.ref (w 1)), .val (.ref (w 3))] [(.ref (w 1)), (.ref (w 2))])) X2 hx rfl rfl rfl (pc0 := 11) (pc' := 24) (same := false) rfl (hb hby d3_11) rfl (decide_eq_false fun q => (own_neI (wF2_ordinal W) (wF1_ordinal W) (by decide)) (Value.ref.inj q)) (by decide) (by decide) k) ?_
  refine oS (fun t k => XS.aloadN X2.here hx rfl (hb hby d3_24) rfl rfl k) ?_
  obtain ⟨cq3, kq3, q3a, q3b, q3c⟩ := isOf hZ e2 ((wE5 W).ext O0.2)
  obtain ⟨_, _, ⟨T3, L3, k3, n3⟩, -, X3, ⟨Lc3, hQ3, l3, y3, z3⟩, st3⟩ := X2.virtualBackUp hx (x := mY9) (y := mY1) hown (mvT hZ (oW hw 25 rfl)) (mvT hZ (oW hw 26 rfl)) (mvT hZ (oW hw 27 rfl)) (by decide) (mvT hZ (oW hw 29 rfl)) (mvT hZ (oW hw 28 rfl)) (backOf (W := 0) (rm_ord_3 l Z a0 hw []  w h0 n0 O0 W ) hZ (oW hw 31 rfl) (oW hw 30 rfl) (by decide) (by decide)) q3a q3c (g := (mkF m 25 #[.val (.ref (w 5)), .val (.ref (w 2)), .val (.ref (w 3)), .val (.ref (w 1)), .val (.ref (w 3))] [(.ref (w 5))])) rfl (by rw [hml]; rfl) (Steps.refl _) (argsL := []) (rest := []) (lenOf pd_3 rfl) rfl (by show 2 * 0 + _ ≤ _; exact Nat.le_of_eq rfl) (hb hby d3_25) (fun _ _ => ⟨rfl, e2, (by decide : 0 + 0 ≤ _), (by decide : 0 + 0 ≤ _)⟩)
  dsimp only [Pt.U, Pt.locs, Pt.cells, Pt.slots] at X3 l3 y3 z3 st3 hQ3
  rw [l3, y3, z3] at X3
  clear l3 y3 z3
  obtain ⟨rfl, Nq3, e3⟩ := hQ3
  have N3 := Fr.app N0 Nq3
  refine oS (fun t k => st3.trans k) ?_
  show oG _ _ _ _ _ _ _ (T3.setTop (mkF m 28 #[.val (.ref (w 5)), .val (.ref (w 2)), .val (.ref (w 3)), .val (.ref (w 1)), .val (.ref (w 3))] [(.int 3)]))
  try clear st3 X2 e2
  try clear T2
  refine oS (fun t k => XS.tswIn X3.here hx rfl (pc0 := 28) (pc' := 137) rfl (hb hby d3_28) (i := (3 : Int32)) rfl (by decide) (o := 109) rfl (by decide) (by decide) k) ?_
  refine oS (fun t k => XS.aconstNull X3.here hx rfl (hb hby d3_137) k) ?_
  obtain ⟨_, _, ⟨T4, L4, k4, n4⟩, -, X4, ⟨Lc4, hQ4, l4, y4, z4⟩, st4⟩ := Jvm.LawKit.callS X3 hx (y := mY6) hown (mvT hZ (oW hw 34 rfl)) (mvT hZ (oW hw 35 rfl)) (mvT hZ (oW hw 36 rfl)) (mvT hZ (oW hw 37 rfl)) (by decide) (backOf (W := 0) (rm_ofN0 l Z a0 hw []  w h0 n0 O0 W ) hZ (oW hw 37 rfl) (oW hw 36 rfl) (by decide) (by decide)) (g := (mkF m 138 #[.val (.ref (w 5)), .val (.ref (w 2)), .val (.ref (w 3)), .val (.ref (w 1)), .val (.ref (w 3))] [.null])) rfl (by rw [hml]; rfl) (argsL := [.null]) (rest := []) (lenOf pd_2 rfl) rfl (by show 2 * 0 + _ ≤ _; exact Nat.le_of_eq rfl) (hb hby d3_138) (fun _ _ => ⟨rfl, e3, (by decide : 0 + 0 ≤ _), (by decide : 0 + 0 ≤ _)⟩)
  dsimp only [Pt.U, Pt.locs, Pt.cells, Pt.slots] at X4 l4 y4 z4 st4 hQ4
  rw [l4, y4, z4] at X4
  clear l4 y4 z4
  obtain ⟨rfl, Nq4, e4⟩ := hQ4
  have N4 := Fr.app N3 Nq4
  refine oS (fun t k => st4 t k) ?_
  show oG _ _ _ _ _ _ _ (T4.setTop (mkF m 141 #[.val (.ref (w 5)), .val (.ref (w 2)), .val (.ref (w 3)), .val (.ref (w 1)), .val (.ref (w 3))] [(.ref (w 7))]))
  try clear st4 X3 e3
  exact own_ret (v := some (.ref (w 7))) X4 (fun h => by rw [Bd.returns] at h; cases h) Bd.notSynchronized (fun fs hr => retOut X4 hx (t := (.object "java/util/Optional")) Bd.returns rfl (Or.inr (Or.inr (Or.inr (Or.inr ⟨rfl, rfl, rfl⟩)))) (hb hby d3_141) hr) (by rw [e4]; exact ⟨rfl, N4, rfl⟩) (by decide) (by decide)
def Q_ty_322 (Z : State)  (w : Nat → Addr) (h0 : Heap) (n0 : Nat) (v : Option Value) (h : Heap) (L : List Loc) : Prop := v = some (.ref (w 7)) ∧ Fr n0 L ∧ h = h0
set_option maxRecDepth 65536 in
set_option maxHeartbeats 40000000 in
theorem rm_ty_322 (l : Launch) (Z : State) (a0 : Array Value) (hw : ∀ d ∈ tables_1, d.before a0 Z = true) (ws : List Jvm.Cond)  (w : Nat → Addr) (h0 : Heap) (n0 : Nat) (O0 : Old Z n0 h0) (W : own_World Z w) :
    MetFree l mY8 (head1 (Jvm.Cond.code mY8 prog_45_method_6_code 5 (some (.object "java/util/Optional")) :: ws) ({ frames := 1, cells := 0, slots := 0, locals := 12 } : Room)) (fun a U => a = #[(.ref (w 5)), (.ref (w 2)), (.ref (w 2))] ∧ Z.Warmed39 U.vm ∧ U.heap = h0) (fun _ _ _ _ _ => True) (fun _ U o U' => ∃ v L, o = .returned v ∧ Q_ty_322 Z  w h0 n0 v U'.heap L ∧ FrameEnd U o U' L ({ frames := 1, cells := 0, slots := 0, locals := 12 } : Room).cells ({ frames := 1, cells := 0, slots := 0, locals := 12 } : Room).slots) := by
  refine MetFree.of_bodySF (plainFor_of_name pn_4) hisR ?_
  intro p e s m args below meth c s₁ Bd hml0 hP hK
  obtain ⟨rfl, hZ, hh⟩ := hP
  have hx := Bd.exec
  have hby := Bd.bytes
  have hml : c.maxLocals = 5 := hml0
  have hown : s.vm.findClass "com/example/planwright/planwright/model/Expression$Operator" = some m.cls := findClass_of_methodNamed Bd.named
  have hnm := (name_of_methodNamed Bd.named Bd.method).1
  have X0 : Stand p l e ({ frames := 1, cells := 0, slots := 0, locals := 12 } : Room) s m #[(.ref (w 5)), (.ref (w 2)), (.ref (w 2))] below meth c s₁ [] 0 0 := Stand.of_body Bd
  have e0 : s₁.heap = h0 := by rw [← hh, Bd.state]; rfl
  have N0 := Fr.nil n0
  show oG p e below s (Q_ty_322 Z  w h0 n0) ({ frames := 1, cells := 0, slots := 0, locals := 12 } : Room).cells ({ frames := 1, cells := 0, slots := 0, locals := 12 } : Room).slots _
  refine oS (fun t k => castTop (ef_3_rrr m (w 5) (w 2) (w 2)) k) ?_
  show oG _ _ _ _ _ _ _ (s₁.setTop (mkF m 0 #[.val (.ref (w 5)), .val (.ref (w 2)), .val (.ref (w 2)), .unset, .unset] []))
  obtain ⟨T1, X1, e1, st1⟩ := getS2 X0 hx hZ hown (host := "") (Or.inl (oW hw 22 rfl)) Via.refl e0 ((wS1 W).ext O0.2) (g := (mkF m 0 #[.val (.ref (w 5)), .val (.ref (w 2)), .val (.ref (w 2)), .unset, .unset] [])) rfl (hb hby d3_0)
  refine oS (fun t k => st1 t k) ?_
  try clear st1
  refine oS (fun t k => XS.astoreN X1.here hx rfl (hb hby d3_3) rfl rfl (l' := #[.val (.ref (w 5)), .val (.ref (w 2)), .val (.ref (w 2)), .val (.ref (w 1)), .unset]) rfl k) ?_
  obtain ⟨T2, X2, e2, st2⟩ := getS2 X1 hx hZ hown (host := "") (Or.inl (oW hw 23 rfl)) Via.refl e1 ((wS3 W).ext O0.2) (g := (mkF m 4 #[.val (.ref (w 5)), .val (.ref (w 2)), .val (.ref (w 2)), .val (.ref (w 1)), .unset] [])) rfl (hb hby d3_4)
  refine oS (fun t k => st2 t k) ?_
  try clear st2 X1 e1
  try clear T1
  refine oS (fun t k => XS.astore X2.here hx rfl (hb hby d3_7) rfl rfl (l' := #[.val (.ref (w 5)), .val (.ref (w 2)), .val (.ref (w 2)), .val (.ref (w 1)), .val (.ref (w 3))]) rfl k) ?_
  refine oS (fun t k => XS.aloadN X2.here hx rfl (hb hby d3_9) rfl rfl k) ?_
  show oG _ _ _ _ _ _ _ (T2.setTop (mkF m 10 #[.val (.ref (w 5)), .val (.ref (w 2)), .val (.ref (w 2)), .val (.ref (w 1)), .val (.ref (w 3))] [(.ref (w 2))]))
  refine oS (fun t k => XS.aloadN X2.here hx rfl (hb hby d3_10) rfl rfl k) ?_
  refine oS (fun t k => Jvm.RoadKit.acmp (g := (mkF m 11 #[.val (.ref (w 5)), .val (.ref (w 2)), .val (.ref (w 2)), .val (.ref (w 1)), .val (.ref (w 3))] [(.ref (w 1)), (.ref (w 2))])) X2 hx rfl rfl rfl (pc0 := 11) (pc' := 24) (same := false) rfl (hb hby d3_11) rfl (decide_eq_false fun q => (own_neI (wF2_ordinal W) (wF1_ordinal W) (by decide)) (Value.ref.inj q)) (by decide) (by decide) k) ?_
  refine oS (fun t k => XS.aloadN X2.here hx rfl (hb hby d3_24) rfl rfl k) ?_
  obtain ⟨cq3, kq3, q3a, q3b, q3c⟩ := isOf hZ e2 ((wE5 W).ext O0.2)
  obtain ⟨_, _, ⟨T3, L3, k3, n3⟩, -, X3, ⟨Lc3, hQ3, l3, y3, z3⟩, st3⟩ := X2.virtualBackUp hx (x := mY9) (y := mY1) hown (mvT hZ (oW hw 25 rfl)) (mvT hZ (oW hw 26 rfl)) (mvT hZ (oW hw 27 rfl)) (by decide) (mvT hZ (oW hw 29 rfl)) (mvT hZ (oW hw 28 rfl)) (backOf (W := 0) (rm_ord_3 l Z a0 hw []  w h0 n0 O0 W ) hZ (oW hw 31 rfl) (oW hw 30 rfl) (by decide) (by decide)) q3a q3c (g := (mkF m 25 #[.val (.ref (w 5)), .val (.ref (w 2)), .val (.ref (w 2)), .val (.ref (w 1)), .val (.ref (w 3))] [(.ref (w 5))])) rfl (by rw [hml]; rfl) (Steps.refl _) (argsL := []) (rest := []) (lenOf pd_3 rfl) rfl (by show 2 * 0 + _ ≤ _; exact Nat.le_of_eq rfl) (hb hby d3_25) (fun _ _ => ⟨rfl, e2, (by decide : 0 + 0 ≤ _), (by decide : 0 + 0 ≤ _)⟩)
  dsimp only [Pt.U, Pt.locs, Pt.cells, Pt.slots] at X3 l3 y3 z3 st3 hQ3
  rw [l3, y3, z3] at X3
  clear l3 y3 z3
  obtain ⟨rfl, Nq3, e3⟩ := hQ3
  have N3 := Fr.app N0 Nq3
  refine oS (fun t k => st3.trans k) ?_
  show oG _ _ _ _ _ _ _ (T3.setTop (mkF m 28 #[.val (.ref (w 5)), .val (.ref (w 2)), .val (.ref (w 2)), .val (.ref (w 1)), .val (.ref (w 3))] [(.int 3)]))
  try clear st3 X2 e2
  try clear T2
  refine oS (fun t k => XS.tswIn X3.here hx rfl (pc0 := 28) (pc' := 137) rfl (hb hby d3_28) (i := (3 : Int32)) rfl (by decide) (o := 109) rfl (by decide) (by decide) k) ?_
  refine oS (fun t k => XS.aconstNull X3.here hx rfl (hb hby d3_137) k) ?_
  obtain ⟨_, _, ⟨T4, L4, k4, n4⟩, -, X4, ⟨Lc4, hQ4, l4, y4, z4⟩, st4⟩ := Jvm.LawKit.callS X3 hx (y := mY6) hown (mvT hZ (oW hw 34 rfl)) (mvT hZ (oW hw 35 rfl)) (mvT hZ (oW hw 36 rfl)) (mvT hZ (oW hw 37 rfl)) (by decide) (backOf (W := 0) (rm_ofN0 l Z a0 hw []  w h0 n0 O0 W ) hZ (oW hw 37 rfl) (oW hw 36 rfl) (by decide) (by decide)) (g := (mkF m 138 #[.val (.ref (w 5)), .val (.ref (w 2)), .val (.ref (w 2)), .val (.ref (w 1)), .val (.ref (w 3))] [.null])) rfl (by rw [hml]; rfl) (argsL := [.null]) (rest := []) (lenOf pd_2 rfl) rfl (by show 2 * 0 + _ ≤ _; exact Nat.le_of_eq rfl) (hb hby d3_138) (fun _ _ => ⟨rfl, e3, (by decide : 0 + 0 ≤ _), (by decide : 0 + 0 ≤ _)⟩)
  dsimp only [Pt.U, Pt.locs, Pt.cells, Pt.slots] at X4 l4 y4 z4 st4 hQ4
  rw [l4, y4, z4] at X4
  clear l4 y4 z4
  obtain ⟨rfl, Nq4, e4⟩ := hQ4
  have N4 := Fr.app N3 Nq4
  refine oS (fun t k => st4 t k) ?_
  show oG _ _ _ _ _ _ _ (T4.setTop (mkF m 141 #[.val (.ref (w 5)), .val (.ref (w 2)), .val (.ref (w 2)), .val (.ref (w 1)), .val (.ref (w 3))] [(.ref (w 7))]))
  try clear st4 X3 e3
  exact own_ret (v := some (.ref (w 7))) X4 (fun h => by rw [Bd.returns] at h; cases h) Bd.notSynchronized (fun fs hr => retOut X4 hx (t := (.object "java/util/Optional")) Bd.returns rfl (Or.inr (Or.inr (Or.inr (Or.inr ⟨rfl, rfl, rfl⟩)))) (hb hby d3_141) hr) (by rw [e4]; exact ⟨rfl, N4, rfl⟩) (by decide) (by decide)
theorem li_3 : Int32.ofInt (3) = (3 : Int32) := by decide
theorem lb_36 : (Int8.ofInt (36)).toInt32 = (36 : Int32) := by decide
theorem li_0 : Int32.ofInt (0) = (0 : Int32) := by decide
theorem li_m1 : Int32.ofInt (-1) = (-1 : Int32) := by decide
theorem li_4 : Int32.ofInt (4) = (4 : Int32) := by decide
theorem li_5 : Int32.ofInt (5) = (5 : Int32) := by decide
theorem lb_6 : (Int8.ofInt (6)).toInt32 = (6 : Int32) := by decide
theorem lb_7 : (Int8.ofInt (7)).toInt32 = (7 : Int32) := by decide
theorem lb_8 : (Int8.ofInt (8)).toInt32 = (8 : Int32) := by decide
theorem lb_9 : (Int8.ofInt (9)).toInt32 = (9 : Int32) := by decide
theorem lb_10 : (Int8.ofInt (10)).toInt32 = (10 : Int32) := by decide
theorem lb_11 : (Int8.ofInt (11)).toInt32 = (11 : Int32) := by decide
theorem lb_12 : (Int8.ofInt (12)).toInt32 = (12 : Int32) := by decide
theorem lb_13 : (Int8.ofInt (13)).toInt32 = (13 : Int32) := by decide
theorem lb_14 : (Int8.ofInt (14)).toInt32 = (14 : Int32) := by decide
theorem lb_15 : (Int8.ofInt (15)).toInt32 = (15 : Int32) := by decide
theorem lb_16 : (Int8.ofInt (16)).toInt32 = (16 : Int32) := by decide
theorem lb_17 : (Int8.ofInt (17)).toInt32 = (17 : Int32) := by decide
theorem lb_18 : (Int8.ofInt (18)).toInt32 = (18 : Int32) := by decide
theorem lb_19 : (Int8.ofInt (19)).toInt32 = (19 : Int32) := by decide
theorem lb_20 : (Int8.ofInt (20)).toInt32 = (20 : Int32) := by decide
theorem lb_21 : (Int8.ofInt (21)).toInt32 = (21 : Int32) := by decide
theorem lb_22 : (Int8.ofInt (22)).toInt32 = (22 : Int32) := by decide
theorem lb_23 : (Int8.ofInt (23)).toInt32 = (23 : Int32) := by decide
theorem lb_24 : (Int8.ofInt (24)).toInt32 = (24 : Int32) := by decide
theorem lb_25 : (Int8.ofInt (25)).toInt32 = (25 : Int32) := by decide
theorem lb_26 : (Int8.ofInt (26)).toInt32 = (26 : Int32) := by decide
theorem lb_27 : (Int8.ofInt (27)).toInt32 = (27 : Int32) := by decide
theorem lb_28 : (Int8.ofInt (28)).toInt32 = (28 : Int32) := by decide
theorem lb_29 : (Int8.ofInt (29)).toInt32 = (29 : Int32) := by decide
theorem lb_30 : (Int8.ofInt (30)).toInt32 = (30 : Int32) := by decide
theorem lb_31 : (Int8.ofInt (31)).toInt32 = (31 : Int32) := by decide
theorem lb_32 : (Int8.ofInt (32)).toInt32 = (32 : Int32) := by decide
theorem lb_33 : (Int8.ofInt (33)).toInt32 = (33 : Int32) := by decide
theorem lb_34 : (Int8.ofInt (34)).toInt32 = (34 : Int32) := by decide
theorem lb_35 : (Int8.ofInt (35)).toInt32 = (35 : Int32) := by decide
theorem pd_4 : parseMethodDescriptor "(I)Lcom/example/planwright/planwright/model/ValueType;" = some ⟨[.int], some (.object "com/example/planwright/planwright/model/ValueType")⟩ := by decide +kernel
theorem pd_5 : parseMethodDescriptor "(I)Lcom/example/planwright/planwright/model/Expression$Operator;" = some ⟨[.int], some (.object "com/example/planwright/planwright/model/Expression$Operator")⟩ := by decide +kernel
theorem pd_6 : parseMethodDescriptor "(Lcom/example/planwright/planwright/model/ValueType;Lcom/example/planwright/planwright/model/ValueType;)Ljava/util/Optional;" = some ⟨[(.object "com/example/planwright/planwright/model/ValueType"), (.object "com/example/planwright/planwright/model/ValueType")], some (.object "java/util/Optional")⟩ := by decide +kernel
theorem ef_0_iii (m : MethodId) (x0 : Int32) (x1 : Int32) (x2 : Int32) : entryFrame m #[(.int x0), (.int x1), (.int x2)] maxLocals = mkF m 0 #[.val (.int x0), .val (.int x1), .val (.int x2), .unset, .unset, .unset, .unset, .unset, .unset, .unset] [] := by first | (simp [entryFrame, mkF, argsToLocals, Value.category, maxLocals]; done) | rfl
def Q_law (Z : State) (p1 : Int32) (p2 : Int32) (p3 : Int32) (w : Nat → Addr) (h0 : Heap) (n0 : Nat) (v : Option Value) (h : Heap) (L : List Loc) : Prop := v = some (.int 1) ∧ Fr n0 L
set_option maxRecDepth 65536 in
set_option maxHeartbeats 40000000 in
theorem rm_law (l : Launch) (Z : State) (a0 : Array Value) (hw : ∀ d ∈ tables_1, d.before a0 Z = true) (ws : List Jvm.Cond) (p1 : Int32) (p2 : Int32) (p3 : Int32) (w : Nat → Addr) (h0 : Heap) (n0 : Nat) (O0 : Old Z n0 h0) (W : own_World Z w) :
    MetFree l x (head1 (Jvm.Cond.code x code maxLocals ret :: ws) room_1) (fun a U => a = #[(.int p1), (.int p2), (.int p3)] ∧ Z.Warmed39 U.vm ∧ U.heap = h0) (fun _ _ _ _ _ => True) (fun _ U o U' => ∃ v L, o = .returned v ∧ Q_law Z p1 p2 p3 w h0 n0 v U'.heap L ∧ FrameEnd U o U' L room_1.cells room_1.slots) := by
  refine MetFree.of_bodySF (plainFor_of_name pn_0) hisR ?_
  intro p e s m args below meth c s₁ Bd hml0 hP hK
  obtain ⟨rfl, hZ, hh⟩ := hP
  have hx := Bd.exec
  have hby := Bd.bytes
  have hml : c.maxLocals = 10 := hml0
  have hown : s.vm.findClass "com/example/planwright/planwright/model/OperatorTypePinLaw" = some m.cls := findClass_of_methodNamed Bd.named
  have hnm := (name_of_methodNamed Bd.named Bd.method).1
  have X0 : Stand p l e room_1 s m #[(.int p1), (.int p2), (.int p3)] below meth c s₁ [] 0 0 := Stand.of_body Bd
  have e0 : s₁.heap = h0 := by rw [← hh, Bd.state]; rfl
  have N0 := Fr.nil n0
  show oG p e below s (Q_law Z p1 p2 p3 w h0 n0) room_1.cells room_1.slots _
  refine oS (fun t k => castTop (ef_0_iii m p1 p2 p3) k) ?_
  show oG _ _ _ _ _ _ _ (s₁.setTop (mkF m 0 #[.val (.int p1), .val (.int p2), .val (.int p3), .unset, .unset, .unset, .unset, .unset, .unset, .unset] []))
  refine oS (fun t k => XS.iloadN X0.here hx rfl (hb hby at_0) rfl k) ?_
  refine oS (fun t k => oIc li_3 X0.here hx rfl (hb hby at_1) k) ?_
  refine oS (fun t k => XS.iand X0.here hx rfl (hb hby at_2) rfl k) ?_
  refine oS (fun t k => XS.istoreN X0.here hx rfl (hb hby at_3) rfl (l' := #[.val (.int p1), .val (.int p2), .val (.int p3), .val (.int (p1 &&& (3 : Int32))), .unset, .unset, .unset, .unset, .unset, .unset]) rfl k) ?_
  refine oS (fun t k => XS.iloadN X0.here hx rfl (hb hby at_4) rfl k) ?_
  show oG _ _ _ _ _ _ _ (s₁.setTop (mkF m 5 #[.val (.int p1), .val (.int p2), .val (.int p3), .val (.int (p1 &&& (3 : Int32))), .unset, .unset, .unset, .unset, .unset, .unset] [(.int p2)]))
  refine oS (fun t k => X0.ldcInt hx hown (mvT hZ (oW hw 0 rfl)) (g := (mkF m 5 #[.val (.int p1), .val (.int p2), .val (.int p3), .val (.int (p1 &&& (3 : Int32))), .unset, .unset, .unset, .unset, .unset, .unset] [(.int p2)])) rfl (hb hby at_5) t k) ?_
  refine oS (fun t k => XS.iand X0.here hx rfl (hb hby at_7) rfl k) ?_
  refine oS (fun t k => oIc li_3 X0.here hx rfl (hb hby at_8) k) ?_
  refine oS (fun t k => iremM X0 hx rfl (hb hby at_9) rfl (by decide) k) ?_
  refine oS (fun t k => XS.istore X0.here hx rfl (hb hby at_10) rfl (l' := #[.val (.int p1), .val (.int p2), .val (.int p3), .val (.int (p1 &&& (3 : Int32))), .val (.int ((p2 &&& (2147483647 : Int32)) % (3 : Int32))), .unset, .unset, .unset, .unset, .unset]) rfl k) ?_
  show oG _ _ _ _ _ _ _ (s₁.setTop (mkF m 12 #[.val (.int p1), .val (.int p2), .val (.int p3), .val (.int (p1 &&& (3 : Int32))), .val (.int ((p2 &&& (2147483647 : Int32)) % (3 : Int32))), .unset, .unset, .unset, .unset, .unset] []))
  refine oS (fun t k => XS.iloadN X0.here hx rfl (hb hby at_12) rfl k) ?_
  refine oS (fun t k => X0.ldcInt hx hown (mvT hZ (oW hw 0 rfl)) (g := (mkF m 13 #[.val (.int p1), .val (.int p2), .val (.int p3), .val (.int (p1 &&& (3 : Int32))), .val (.int ((p2 &&& (2147483647 : Int32)) % (3 : Int32))), .unset, .unset, .unset, .unset, .unset] [(.int p3)])) rfl (hb hby at_13) t k) ?_
  refine oS (fun t k => XS.iand X0.here hx rfl (hb hby at_15) rfl k) ?_
  refine oS (fun t k => oIc li_3 X0.here hx rfl (hb hby at_16) k) ?_
  refine oS (fun t k => iremM X0 hx rfl (hb hby at_17) rfl (by decide) k) ?_
  show oG _ _ _ _ _ _ _ (s₁.setTop (mkF m 18 #[.val (.int p1), .val (.int p2), .val (.int p3), .val (.int (p1 &&& (3 : Int32))), .val (.int ((p2 &&& (2147483647 : Int32)) % (3 : Int32))), .unset, .unset, .unset, .unset, .unset] [(.int ((p3 &&& (2147483647 : Int32)) % (3 : Int32)))]))
  refine oS (fun t k => XS.istore X0.here hx rfl (hb hby at_18) rfl (l' := #[.val (.int p1), .val (.int p2), .val (.int p3), .val (.int (p1 &&& (3 : Int32))), .val (.int ((p2 &&& (2147483647 : Int32)) % (3 : Int32))), .val (.int ((p3 &&& (2147483647 : Int32)) % (3 : Int32))), .unset, .unset, .unset, .unset]) rfl k) ?_
  refine oS (fun t k => oBp lb_36 X0.here hx rfl (hb hby at_20) k) ?_
  obtain ⟨T1, h1, k1, X1, e1, E1, A1, st1⟩ := newP X0 hx hZ (oW hw 1 rfl) e0 (g := (mkF m 22 #[.val (.int p1), .val (.int p2), .val (.int p3), .val (.int (p1 &&& (3 : Int32))), .val (.int ((p2 &&& (2147483647 : Int32)) % (3 : Int32))), .val (.int ((p3 &&& (2147483647 : Int32)) % (3 : Int32))), .unset, .unset, .unset, .unset] [(.int 36)])) rfl (hb hby at_22) rfl (by decide) (cap := 36) (by decide) (by decide) (by decide) (by decide)
  obtain ⟨b1, g1⟩ : ∃ z, z = h0.size := ⟨_, rfl⟩
  rw [← g1] at A1 st1
  have V1 : Arv Z h1 b1 k1 .int (36 : Int32) [(.int 0), (.int 0), (.int 0), (.int 0), (.int 0), (.int 0), (.int 0), (.int 0), (.int 0), (.int 0), (.int 0), (.int 0), (.int 0), (.int 0), (.int 0), (.int 0), (.int 0), (.int 0), (.int 0), (.int 0), (.int 0), (.int 0), (.int 0), (.int 0), (.int 0), (.int 0), (.int 0), (.int 0), (.int 0), (.int 0), (.int 0), (.int 0), (.int 0), (.int 0), (.int 0), (.int 0)] (.int 0) := (Arv.new A1 (by decide)).pad (pad_rep [] (.int 0) 36)
  have gx1 : n0 ≤ b1 := Nat.le_trans (O0.1 ▸ O0.2.1) (Nat.le_of_eq g1.symm)
  have O1 := O0.ext E1
  refine oS (fun t k => st1 t k) ?_
  try clear st1
  refine oS (fun t k => XS.dup X1.here hx rfl (hb hby at_24) rfl rfl k) ?_
  refine oS (fun t k => oIc li_0 X1.here hx rfl (hb hby at_25) k) ?_
  show oG _ _ _ _ _ _ _ (T1.setTop (mkF m 26 #[.val (.int p1), .val (.int p2), .val (.int p3), .val (.int (p1 &&& (3 : Int32))), .val (.int ((p2 &&& (2147483647 : Int32)) % (3 : Int32))), .val (.int ((p3 &&& (2147483647 : Int32)) % (3 : Int32))), .unset, .unset, .unset, .unset] [(.int 0), (.ref b1), (.ref b1)]))
  refine oS (fun t k => oIc li_0 X1.here hx rfl (hb hby at_26) k) ?_
  obtain ⟨cl2, Ar2, qk2, Sz2, Ng2, Ha2, Gf2⟩ := id V1
  have hin2 : ¬ ((0 : Int32) < 0 ∨ cl2.slots.size ≤ ((0 : Int32)).toNatClampNeg) := inb_of Sz2 ⟨by decide, by decide⟩
  obtain ⟨T3, h3, X3, e3, W3, st3⟩ := stI X1 hx hZ e1 Ar2 (j := (0 : Int32)) hin2 (g := (mkF m 27 #[.val (.int p1), .val (.int p2), .val (.int p3), .val (.int (p1 &&& (3 : Int32))), .val (.int ((p2 &&& (2147483647 : Int32)) % (3 : Int32))), .val (.int ((p3 &&& (2147483647 : Int32)) % (3 : Int32))), .unset, .unset, .unset, .unset] [(.int 0), (.int 0), (.ref b1), (.ref b1)])) rfl rfl (hb hby at_27)
  have O3 := O1.wr W3 gx1
  have N3 := Fr.snoc X3 N0 gx1
  have V3 : Arv Z h3 b1 k1 .int (36 : Int32) [(.int 0), (.int 0), (.int 0), (.int 0), (.int 0), (.int 0), (.int 0), (.int 0), (.int 0), (.int 0), (.int 0), (.int 0), (.int 0), (.int 0), (.int 0), (.int 0), (.int 0), (.int 0), (.int 0), (.int 0), (.int 0), (.int 0), (.int 0), (.int 0), (.int 0), (.int 0), (.int 0), (.int 0), (.int 0), (.int 0), (.int 0), (.int 0), (.int 0), (.int 0), (.int 0), (.int 0)] (.int 0) := Arv.set Ar2 qk2 Sz2 Ng2 Ha2 Gf2 rfl W3 0 rfl (Nat.le_of_ble_eq_true rfl)
  clear hin2 Gf2 Ha2 Ng2 Sz2 qk2 Ar2 cl2
  refine oS (fun t k => st3 t k) ?_
  try clear st3 X1 e1
  try clear T1
  refine oS (fun t k => XS.dup X3.here hx rfl (hb hby at_28) rfl rfl k) ?_
  refine oS (fun t k => oIc li_1 X3.here hx rfl (hb hby at_29) k) ?_
  refine oS (fun t k => oIc li_1 X3.here hx rfl (hb hby at_30) k) ?_
  show oG _ _ _ _ _ _ _ (T3.setTop (mkF m 31 #[.val (.int p1), .val (.int p2), .val (.int p3), .val (.int (p1 &&& (3 : Int32))), .val (.int ((p2 &&& (2147483647 : Int32)) % (3 : Int32))), .val (.int ((p3 &&& (2147483647 : Int32)) % (3 : Int32))), .unset, .unset, .unset, .unset] [(.int 1), (.int 1), (.ref b1), (.ref b1)]))
  obtain ⟨cl4, Ar4, qk4, Sz4, Ng4, Ha4, Gf4⟩ := id V3
  have hin4 : ¬ ((1 : Int32) < 0 ∨ cl4.slots.size ≤ ((1 : Int32)).toNatClampNeg) := inb_of Sz4 ⟨by decide, by decide⟩
  obtain ⟨T5, h5, X5, e5, W5, st5⟩ := stI X3 hx hZ e3 Ar4 (j := (1 : Int32)) hin4 (g := (mkF m 31 #[.val (.int p1), .val (.int p2), .val (.int p3), .val (.int (p1 &&& (3 : Int32))), .val (.int ((p2 &&& (2147483647 : Int32)) % (3 : Int32))), .val (.int ((p3 &&& (2147483647 : Int32)) % (3 : Int32))), .unset, .unset, .unset, .unset] [(.int 1), (.int 1), (.ref b1), (.ref b1)])) rfl rfl (hb hby at_31)
  have O5 := O3.wr W5 gx1
  have N5 := Fr.snoc X5 N3 gx1
  have V5 : Arv Z h5 b1 k1 .int (36 : Int32) [(.int 0), (.int 1), (.int 0), (.int 0), (.int 0), (.int 0), (.int 0), (.int 0), (.int 0), (.int 0), (.int 0), (.int 0), (.int 0), (.int 0), (.int 0), (.int 0), (.int 0), (.int 0), (.int 0), (.int 0), (.int 0), (.int 0), (.int 0), (.int 0), (.int 0), (.int 0), (.int 0), (.int 0), (.int 0), (.int 0), (.int 0), (.int 0), (.int 0), (.int 0), (.int 0), (.int 0)] (.int 0) := Arv.set Ar4 qk4 Sz4 Ng4 Ha4 Gf4 rfl W5 1 rfl (Nat.le_of_ble_eq_true rfl)
  clear hin4 Gf4 Ha4 Ng4 Sz4 qk4 Ar4 cl4
  refine oS (fun t k => st5 t k) ?_
  try clear st5 X3 e3
  try clear T3
  refine oS (fun t k => XS.dup X5.here hx rfl (hb hby at_32) rfl rfl k) ?_
  refine oS (fun t k => oIc li_2 X5.here hx rfl (hb hby at_33) k) ?_
  refine oS (fun t k => oIc li_m1 X5.here hx rfl (hb hby at_34) k) ?_
  obtain ⟨cl6, Ar6, qk6, Sz6, Ng6, Ha6, Gf6⟩ := id V5
  have hin6 : ¬ ((2 : Int32) < 0 ∨ cl6.slots.size ≤ ((2 : Int32)).toNatClampNeg) := inb_of Sz6 ⟨by decide, by decide⟩
  obtain ⟨T7, h7, X7, e7, W7, st7⟩ := stI X5 hx hZ e5 Ar6 (j := (2 : Int32)) hin6 (g := (mkF m 35 #[.val (.int p1), .val (.int p2), .val (.int p3), .val (.int (p1 &&& (3 : Int32))), .val (.int ((p2 &&& (2147483647 : Int32)) % (3 : Int32))), .val (.int ((p3 &&& (2147483647 : Int32)) % (3 : Int32))), .unset, .unset, .unset, .unset] [(.int (-1)), (.int 2), (.ref b1), (.ref b1)])) rfl rfl (hb hby at_35)
  have O7 := O5.wr W7 gx1
  have N7 := Fr.snoc X7 N5 gx1
  have V7 : Arv Z h7 b1 k1 .int (36 : Int32) [(.int 0), (.int 1), (.int (-1)), (.int 0), (.int 0), (.int 0), (.int 0), (.int 0), (.int 0), (.int 0), (.int 0), (.int 0), (.int 0), (.int 0), (.int 0), (.int 0), (.int 0), (.int 0), (.int 0), (.int 0), (.int 0), (.int 0), (.int 0), (.int 0), (.int 0), (.int 0), (.int 0), (.int 0), (.int 0), (.int 0), (.int 0), (.int 0), (.int 0), (.int 0), (.int 0), (.int 0)] (.int 0) := Arv.set Ar6 qk6 Sz6 Ng6 Ha6 Gf6 rfl W7 2 rfl (Nat.le_of_ble_eq_true rfl)
  clear hin6 Gf6 Ha6 Ng6 Sz6 qk6 Ar6 cl6
  refine oS (fun t k => st7 t k) ?_
  show oG _ _ _ _ _ _ _ (T7.setTop (mkF m 36 #[.val (.int p1), .val (.int p2), .val (.int p3), .val (.int (p1 &&& (3 : Int32))), .val (.int ((p2 &&& (2147483647 : Int32)) % (3 : Int32))), .val (.int ((p3 &&& (2147483647 : Int32)) % (3 : Int32))), .unset, .unset, .unset, .unset] [(.ref b1)]))
  try clear st7 X5 e5
  try clear T5
  refine oS (fun t k => XS.dup X7.here hx rfl (hb hby at_36) rfl rfl k) ?_
  refine oS (fun t k => oIc li_3 X7.here hx rfl (hb hby at_37) k) ?_
  refine oS (fun t k => oIc li_1 X7.here hx rfl (hb hby at_38) k) ?_
  obtain ⟨cl8, Ar8, qk8, Sz8, Ng8, Ha8, Gf8⟩ := id V7
  have hin8 : ¬ ((3 : Int32) < 0 ∨ cl8.slots.size ≤ ((3 : Int32)).toNatClampNeg) := inb_of Sz8 ⟨by decide, by decide⟩
  obtain ⟨T9, h9, X9, e9, W9, st9⟩ := stI X7 hx hZ e7 Ar8 (j := (3 : Int32)) hin8 (g := (mkF m 39 #[.val (.int p1), .val (.int p2), .val (.int p3), .val (.int (p1 &&& (3 : Int32))), .val (.int ((p2 &&& (2147483647 : Int32)) % (3 : Int32))), .val (.int ((p3 &&& (2147483647 : Int32)) % (3 : Int32))), .unset, .unset, .unset, .unset] [(.int 1), (.int 3), (.ref b1), (.ref b1)])) rfl rfl (hb hby at_39)
  have O9 := O7.wr W9 gx1
  have N9 := Fr.snoc X9 N7 gx1
  have V9 : Arv Z h9 b1 k1 .int (36 : Int32) [(.int 0), (.int 1), (.int (-1)), (.int 1), (.int 0), (.int 0), (.int 0), (.int 0), (.int 0), (.int 0), (.int 0), (.int 0), (.int 0), (.int 0), (.int 0), (.int 0), (.int 0), (.int 0), (.int 0), (.int 0), (.int 0), (.int 0), (.int 0), (.int 0), (.int 0), (.int 0), (.int 0), (.int 0), (.int 0), (.int 0), (.int 0), (.int 0), (.int 0), (.int 0), (.int 0), (.int 0)] (.int 0) := Arv.set Ar8 qk8 Sz8 Ng8 Ha8 Gf8 rfl W9 3 rfl (Nat.le_of_ble_eq_true rfl)
  clear hin8 Gf8 Ha8 Ng8 Sz8 qk8 Ar8 cl8
  refine oS (fun t k => st9 t k) ?_
  try clear st9 X7 e7
  try clear T7
  refine oS (fun t k => XS.dup X9.here hx rfl (hb hby at_40) rfl rfl k) ?_
  show oG _ _ _ _ _ _ _ (T9.setTop (mkF m 41 #[.val (.int p1), .val (.int p2), .val (.int p3), .val (.int (p1 &&& (3 : Int32))), .val (.int ((p2 &&& (2147483647 : Int32)) % (3 : Int32))), .val (.int ((p3 &&& (2147483647 : Int32)) % (3 : Int32))), .unset, .unset, .unset, .unset] [(.ref b1), (.ref b1)]))
  refine oS (fun t k => oIc li_4 X9.here hx rfl (hb hby at_41) k) ?_
  refine oS (fun t k => oIc li_m1 X9.here hx rfl (hb hby at_42) k) ?_
  obtain ⟨cl10, Ar10, qk10, Sz10, Ng10, Ha10, Gf10⟩ := id V9
  have hin10 : ¬ ((4 : Int32) < 0 ∨ cl10.slots.size ≤ ((4 : Int32)).toNatClampNeg) := inb_of Sz10 ⟨by decide, by decide⟩
  obtain ⟨T11, h11, X11, e11, W11, st11⟩ := stI X9 hx hZ e9 Ar10 (j := (4 : Int32)) hin10 (g := (mkF m 43 #[.val (.int p1), .val (.int p2), .val (.int p3), .val (.int (p1 &&& (3 : Int32))), .val (.int ((p2 &&& (2147483647 : Int32)) % (3 : Int32))), .val (.int ((p3 &&& (2147483647 : Int32)) % (3 : Int32))), .unset, .unset, .unset, .unset] [(.int (-1)), (.int 4), (.ref b1), (.ref b1)])) rfl rfl (hb hby at_43)
  have O11 := O9.wr W11 gx1
  have N11 := Fr.snoc X11 N9 gx1
  have V11 : Arv Z h11 b1 k1 .int (36 : Int32) [(.int 0), (.int 1), (.int (-1)), (.int 1), (.int (-1)), (.int 0), (.int 0), (.int 0), (.int 0), (.int 0), (.int 0), (.int 0), (.int 0), (.int 0), (.int 0), (.int 0), (.int 0), (.int 0), (.int 0), (.int 0), (.int 0), (.int 0), (.int 0), (.int 0), (.int 0), (.int 0), (.int 0), (.int 0), (.int 0), (.int 0), (.int 0), (.int 0), (.int 0), (.int 0), (.int 0), (.int 0)] (.int 0) := Arv.set Ar10 qk10 Sz10 Ng10 Ha10 Gf10 rfl W11 4 rfl (Nat.le_of_ble_eq_true rfl)
  clear hin10 Gf10 Ha10 Ng10 Sz10 qk10 Ar10 cl10
  refine oS (fun t k => st11 t k) ?_
  try clear st11 X9 e9
  try clear T9
  refine oS (fun t k => XS.dup X11.here hx rfl (hb hby at_44) rfl rfl k) ?_
  refine oS (fun t k => oIc li_5 X11.here hx rfl (hb hby at_45) k) ?_
  show oG _ _ _ _ _ _ _ (T11.setTop (mkF m 46 #[.val (.int p1), .val (.int p2), .val (.int p3), .val (.int (p1 &&& (3 : Int32))), .val (.int ((p2 &&& (2147483647 : Int32)) % (3 : Int32))), .val (.int ((p3 &&& (2147483647 : Int32)) % (3 : Int32))), .unset, .unset, .unset, .unset] [(.int 5), (.ref b1), (.ref b1)]))
  refine oS (fun t k => oIc li_m1 X11.here hx rfl (hb hby at_46) k) ?_
  obtain ⟨cl12, Ar12, qk12, Sz12, Ng12, Ha12, Gf12⟩ := id V11
  have hin12 : ¬ ((5 : Int32) < 0 ∨ cl12.slots.size ≤ ((5 : Int32)).toNatClampNeg) := inb_of Sz12 ⟨by decide, by decide⟩
  obtain ⟨T13, h13, X13, e13, W13, st13⟩ := stI X11 hx hZ e11 Ar12 (j := (5 : Int32)) hin12 (g := (mkF m 47 #[.val (.int p1), .val (.int p2), .val (.int p3), .val (.int (p1 &&& (3 : Int32))), .val (.int ((p2 &&& (2147483647 : Int32)) % (3 : Int32))), .val (.int ((p3 &&& (2147483647 : Int32)) % (3 : Int32))), .unset, .unset, .unset, .unset] [(.int (-1)), (.int 5), (.ref b1), (.ref b1)])) rfl rfl (hb hby at_47)
  have O13 := O11.wr W13 gx1
  have N13 := Fr.snoc X13 N11 gx1
  have V13 : Arv Z h13 b1 k1 .int (36 : Int32) [(.int 0), (.int 1), (.int (-1)), (.int 1), (.int (-1)), (.int (-1)), (.int 0), (.int 0), (.int 0), (.int 0), (.int 0), (.int 0), (.int 0), (.int 0), (.int 0), (.int 0), (.int 0), (.int 0), (.int 0), (.int 0), (.int 0), (.int 0), (.int 0), (.int 0), (.int 0), (.int 0), (.int 0), (.int 0), (.int 0), (.int 0), (.int 0), (.int 0), (.int 0), (.int 0), (.int 0), (.int 0)] (.int 0) := Arv.set Ar12 qk12 Sz12 Ng12 Ha12 Gf12 rfl W13 5 rfl (Nat.le_of_ble_eq_true rfl)
  clear hin12 Gf12 Ha12 Ng12 Sz12 qk12 Ar12 cl12
  refine oS (fun t k => st13 t k) ?_
  try clear st13 X11 e11
  try clear T11
  refine oS (fun t k => XS.dup X13.here hx rfl (hb hby at_48) rfl rfl k) ?_
  refine oS (fun t k => oBp lb_6 X13.here hx rfl (hb hby at_49) k) ?_
  refine oS (fun t k => oIc li_m1 X13.here hx rfl (hb hby at_51) k) ?_
  show oG _ _ _ _ _ _ _ (T13.setTop (mkF m 52 #[.val (.int p1), .val (.int p2), .val (.int p3), .val (.int (p1 &&& (3 : Int32))), .val (.int ((p2 &&& (2147483647 : Int32)) % (3 : Int32))), .val (.int ((p3 &&& (2147483647 : Int32)) % (3 : Int32))), .unset, .unset, .unset, .unset] [(.int (-1)), (.int 6), (.ref b1), (.ref b1)]))
  obtain ⟨cl14, Ar14, qk14, Sz14, Ng14, Ha14, Gf14⟩ := id V13
  have hin14 : ¬ ((6 : Int32) < 0 ∨ cl14.slots.size ≤ ((6 : Int32)).toNatClampNeg) := inb_of Sz14 ⟨by decide, by decide⟩
  obtain ⟨T15, h15, X15, e15, W15, st15⟩ := stI X13 hx hZ e13 Ar14 (j := (6 : Int32)) hin14 (g := (mkF m 52 #[.val (.int p1), .val (.int p2), .val (.int p3), .val (.int (p1 &&& (3 : Int32))), .val (.int ((p2 &&& (2147483647 : Int32)) % (3 : Int32))), .val (.int ((p3 &&& (2147483647 : Int32)) % (3 : Int32))), .unset, .unset, .unset, .unset] [(.int (-1)), (.int 6), (.ref b1), (.ref b1)])) rfl rfl (hb hby at_52)
  have O15 := O13.wr W15 gx1
  have N15 := Fr.snoc X15 N13 gx1
  have V15 : Arv Z h15 b1 k1 .int (36 : Int32) [(.int 0), (.int 1), (.int (-1)), (.int 1), (.int (-1)), (.int (-1)), (.int (-1)), (.int 0), (.int 0), (.int 0), (.int 0), (.int 0), (.int 0), (.int 0), (.int 0), (.int 0), (.int 0), (.int 0), (.int 0), (.int 0), (.int 0), (.int 0), (.int 0), (.int 0), (.int 0), (.int 0), (.int 0), (.int 0), (.int 0), (.int 0), (.int 0), (.int 0), (.int 0), (.int 0), (.int 0), (.int 0)] (.int 0) := Arv.set Ar14 qk14 Sz14 Ng14 Ha14 Gf14 rfl W15 6 rfl (Nat.le_of_ble_eq_true rfl)
  clear hin14 Gf14 Ha14 Ng14 Sz14 qk14 Ar14 cl14
  refine oS (fun t k => st15 t k) ?_
  try clear st15 X13 e13
  try clear T13
  refine oS (fun t k => XS.dup X15.here hx rfl (hb hby at_53) rfl rfl k) ?_
  refine oS (fun t k => oBp lb_7 X15.here hx rfl (hb hby at_54) k) ?_
  refine oS (fun t k => oIc li_m1 X15.here hx rfl (hb hby at_56) k) ?_
  obtain ⟨cl16, Ar16, qk16, Sz16, Ng16, Ha16, Gf16⟩ := id V15
  have hin16 : ¬ ((7 : Int32) < 0 ∨ cl16.slots.size ≤ ((7 : Int32)).toNatClampNeg) := inb_of Sz16 ⟨by decide, by decide⟩
  obtain ⟨T17, h17, X17, e17, W17, st17⟩ := stI X15 hx hZ e15 Ar16 (j := (7 : Int32)) hin16 (g := (mkF m 57 #[.val (.int p1), .val (.int p2), .val (.int p3), .val (.int (p1 &&& (3 : Int32))), .val (.int ((p2 &&& (2147483647 : Int32)) % (3 : Int32))), .val (.int ((p3 &&& (2147483647 : Int32)) % (3 : Int32))), .unset, .unset, .unset, .unset] [(.int (-1)), (.int 7), (.ref b1), (.ref b1)])) rfl rfl (hb hby at_57)
  have O17 := O15.wr W17 gx1
  have N17 := Fr.snoc X17 N15 gx1
  have V17 : Arv Z h17 b1 k1 .int (36 : Int32) [(.int 0), (.int 1), (.int (-1)), (.int 1), (.int (-1)), (.int (-1)), (.int (-1)), (.int (-1)), (.int 0), (.int 0), (.int 0), (.int 0), (.int 0), (.int 0), (.int 0), (.int 0), (.int 0), (.int 0), (.int 0), (.int 0), (.int 0), (.int 0), (.int 0), (.int 0), (.int 0), (.int 0), (.int 0), (.int 0), (.int 0), (.int 0), (.int 0), (.int 0), (.int 0), (.int 0), (.int 0), (.int 0)] (.int 0) := Arv.set Ar16 qk16 Sz16 Ng16 Ha16 Gf16 rfl W17 7 rfl (Nat.le_of_ble_eq_true rfl)
  clear hin16 Gf16 Ha16 Ng16 Sz16 qk16 Ar16 cl16
  refine oS (fun t k => st17 t k) ?_
  show oG _ _ _ _ _ _ _ (T17.setTop (mkF m 58 #[.val (.int p1), .val (.int p2), .val (.int p3), .val (.int (p1 &&& (3 : Int32))), .val (.int ((p2 &&& (2147483647 : Int32)) % (3 : Int32))), .val (.int ((p3 &&& (2147483647 : Int32)) % (3 : Int32))), .unset, .unset, .unset, .unset] [(.ref b1)]))
  try clear st17 X15 e15
  try clear T15
  refine oS (fun t k => XS.dup X17.here hx rfl (hb hby at_58) rfl rfl k) ?_
  refine oS (fun t k => oBp lb_8 X17.here hx rfl (hb hby at_59) k) ?_
  refine oS (fun t k => oIc li_m1 X17.here hx rfl (hb hby at_61) k) ?_
  obtain ⟨cl18, Ar18, qk18, Sz18, Ng18, Ha18, Gf18⟩ := id V17
  have hin18 : ¬ ((8 : Int32) < 0 ∨ cl18.slots.size ≤ ((8 : Int32)).toNatClampNeg) := inb_of Sz18 ⟨by decide, by decide⟩
  obtain ⟨T19, h19, X19, e19, W19, st19⟩ := stI X17 hx hZ e17 Ar18 (j := (8 : Int32)) hin18 (g := (mkF m 62 #[.val (.int p1), .val (.int p2), .val (.int p3), .val (.int (p1 &&& (3 : Int32))), .val (.int ((p2 &&& (2147483647 : Int32)) % (3 : Int32))), .val (.int ((p3 &&& (2147483647 : Int32)) % (3 : Int32))), .unset, .unset, .unset, .unset] [(.int (-1)), (.int 8), (.ref b1), (.ref b1)])) rfl rfl (hb hby at_62)
  have O19 := O17.wr W19 gx1
  have N19 := Fr.snoc X19 N17 gx1
  have V19 : Arv Z h19 b1 k1 .int (36 : Int32) [(.int 0), (.int 1), (.int (-1)), (.int 1), (.int (-1)), (.int (-1)), (.int (-1)), (.int (-1)), (.int (-1)), (.int 0), (.int 0), (.int 0), (.int 0), (.int 0), (.int 0), (.int 0), (.int 0), (.int 0), (.int 0), (.int 0), (.int 0), (.int 0), (.int 0), (.int 0), (.int 0), (.int 0), (.int 0), (.int 0), (.int 0), (.int 0), (.int 0), (.int 0), (.int 0), (.int 0), (.int 0), (.int 0)] (.int 0) := Arv.set Ar18 qk18 Sz18 Ng18 Ha18 Gf18 rfl W19 8 rfl (Nat.le_of_ble_eq_true rfl)
  clear hin18 Gf18 Ha18 Ng18 Sz18 qk18 Ar18 cl18
  refine oS (fun t k => st19 t k) ?_
  try clear st19 X17 e17
  try clear T17
  refine oS (fun t k => XS.dup X19.here hx rfl (hb hby at_63) rfl rfl k) ?_
  show oG _ _ _ _ _ _ _ (T19.setTop (mkF m 64 #[.val (.int p1), .val (.int p2), .val (.int p3), .val (.int (p1 &&& (3 : Int32))), .val (.int ((p2 &&& (2147483647 : Int32)) % (3 : Int32))), .val (.int ((p3 &&& (2147483647 : Int32)) % (3 : Int32))), .unset, .unset, .unset, .unset] [(.ref b1), (.ref b1)]))
  refine oS (fun t k => oBp lb_9 X19.here hx rfl (hb hby at_64) k) ?_
  refine oS (fun t k => oIc li_0 X19.here hx rfl (hb hby at_66) k) ?_
  obtain ⟨cl20, Ar20, qk20, Sz20, Ng20, Ha20, Gf20⟩ := id V19
  have hin20 : ¬ ((9 : Int32) < 0 ∨ cl20.slots.size ≤ ((9 : Int32)).toNatClampNeg) := inb_of Sz20 ⟨by decide, by decide⟩
  obtain ⟨T21, h21, X21, e21, W21, st21⟩ := stI X19 hx hZ e19 Ar20 (j := (9 : Int32)) hin20 (g := (mkF m 67 #[.val (.int p1), .val (.int p2), .val (.int p3), .val (.int (p1 &&& (3 : Int32))), .val (.int ((p2 &&& (2147483647 : Int32)) % (3 : Int32))), .val (.int ((p3 &&& (2147483647 : Int32)) % (3 : Int32))), .unset, .unset, .unset, .unset] [(.int 0), (.int 9), (.ref b1), (.ref b1)])) rfl rfl (hb hby at_67)
  have O21 := O19.wr W21 gx1
  have N21 := Fr.snoc X21 N19 gx1
  have V21 : Arv Z h21 b1 k1 .int (36 : Int32) [(.int 0), (.int 1), (.int (-1)), (.int 1), (.int (-1)), (.int (-1)), (.int (-1)), (.int (-1)), (.int (-1)), (.int 0), (.int 0), (.int 0), (.int 0), (.int 0), (.int 0), (.int 0), (.int 0), (.int 0), (.int 0), (.int 0), (.int 0), (.int 0), (.int 0), (.int 0), (.int 0), (.int 0), (.int 0), (.int 0), (.int 0), (.int 0), (.int 0), (.int 0), (.int 0), (.int 0), (.int 0), (.int 0)] (.int 0) := Arv.set Ar20 qk20 Sz20 Ng20 Ha20 Gf20 rfl W21 9 rfl (Nat.le_of_ble_eq_true rfl)
  clear hin20 Gf20 Ha20 Ng20 Sz20 qk20 Ar20 cl20
  refine oS (fun t k => st21 t k) ?_
  try clear st21 X19 e19
  try clear T19
  refine oS (fun t k => XS.dup X21.here hx rfl (hb hby at_68) rfl rfl k) ?_
  refine oS (fun t k => oBp lb_10 X21.here hx rfl (hb hby at_69) k) ?_
  show oG _ _ _ _ _ _ _ (T21.setTop (mkF m 71 #[.val (.int p1), .val (.int p2), .val (.int p3), .val (.int (p1 &&& (3 : Int32))), .val (.int ((p2 &&& (2147483647 : Int32)) % (3 : Int32))), .val (.int ((p3 &&& (2147483647 : Int32)) % (3 : Int32))), .unset, .unset, .unset, .unset] [(.int 10), (.ref b1), (.ref b1)]))
  refine oS (fun t k => oIc li_m1 X21.here hx rfl (hb hby at_71) k) ?_
  obtain ⟨cl22, Ar22, qk22, Sz22, Ng22, Ha22, Gf22⟩ := id V21
  have hin22 : ¬ ((10 : Int32) < 0 ∨ cl22.slots.size ≤ ((10 : Int32)).toNatClampNeg) := inb_of Sz22 ⟨by decide, by decide⟩
  obtain ⟨T23, h23, X23, e23, W23, st23⟩ := stI X21 hx hZ e21 Ar22 (j := (10 : Int32)) hin22 (g := (mkF m 72 #[.val (.int p1), .val (.int p2), .val (.int p3), .val (.int (p1 &&& (3 : Int32))), .val (.int ((p2 &&& (2147483647 : Int32)) % (3 : Int32))), .val (.int ((p3 &&& (2147483647 : Int32)) % (3 : Int32))), .unset, .unset, .unset, .unset] [(.int (-1)), (.int 10), (.ref b1), (.ref b1)])) rfl rfl (hb hby at_72)
  have O23 := O21.wr W23 gx1
  have N23 := Fr.snoc X23 N21 gx1
  have V23 : Arv Z h23 b1 k1 .int (36 : Int32) [(.int 0), (.int 1), (.int (-1)), (.int 1), (.int (-1)), (.int (-1)), (.int (-1)), (.int (-1)), (.int (-1)), (.int 0), (.int (-1)), (.int 0), (.int 0), (.int 0), (.int 0), (.int 0), (.int 0), (.int 0), (.int 0), (.int 0), (.int 0), (.int 0), (.int 0), (.int 0), (.int 0), (.int 0), (.int 0), (.int 0), (.int 0), (.int 0), (.int 0), (.int 0), (.int 0), (.int 0), (.int 0), (.int 0)] (.int 0) := Arv.set Ar22 qk22 Sz22 Ng22 Ha22 Gf22 rfl W23 10 rfl (Nat.le_of_ble_eq_true rfl)
  clear hin22 Gf22 Ha22 Ng22 Sz22 qk22 Ar22 cl22
  refine oS (fun t k => st23 t k) ?_
  try clear st23 X21 e21
  try clear T21
  refine oS (fun t k => XS.dup X23.here hx rfl (hb hby at_73) rfl rfl k) ?_
  refine oS (fun t k => oBp lb_11 X23.here hx rfl (hb hby at_74) k) ?_
  refine oS (fun t k => oIc li_m1 X23.here hx rfl (hb hby at_76) k) ?_
  show oG _ _ _ _ _ _ _ (T23.setTop (mkF m 77 #[.val (.int p1), .val (.int p2), .val (.int p3), .val (.int (p1 &&& (3 : Int32))), .val (.int ((p2 &&& (2147483647 : Int32)) % (3 : Int32))), .val (.int ((p3 &&& (2147483647 : Int32)) % (3 : Int32))), .unset, .unset, .unset, .unset] [(.int (-1)), (.int 11), (.ref b1), (.ref b1)]))
  obtain ⟨cl24, Ar24, qk24, Sz24, Ng24, Ha24, Gf24⟩ := id V23
  have hin24 : ¬ ((11 : Int32) < 0 ∨ cl24.slots.size ≤ ((11 : Int32)).toNatClampNeg) := inb_of Sz24 ⟨by decide, by decide⟩
  obtain ⟨T25, h25, X25, e25, W25, st25⟩ := stI X23 hx hZ e23 Ar24 (j := (11 : Int32)) hin24 (g := (mkF m 77 #[.val (.int p1), .val (.int p2), .val (.int p3), .val (.int (p1 &&& (3 : Int32))), .val (.int ((p2 &&& (2147483647 : Int32)) % (3 : Int32))), .val (.int ((p3 &&& (2147483647 : Int32)) % (3 : Int32))), .unset, .unset, .unset, .unset] [(.int (-1)), (.int 11), (.ref b1), (.ref b1)])) rfl rfl (hb hby at_77)
  have O25 := O23.wr W25 gx1
  have N25 := Fr.snoc X25 N23 gx1
  have V25 : Arv Z h25 b1 k1 .int (36 : Int32) [(.int 0), (.int 1), (.int (-1)), (.int 1), (.int (-1)), (.int (-1)), (.int (-1)), (.int (-1)), (.int (-1)), (.int 0), (.int (-1)), (.int (-1)), (.int 0), (.int 0), (.int 0), (.int 0), (.int 0), (.int 0), (.int 0), (.int 0), (.int 0), (.int 0), (.int 0), (.int 0), (.int 0), (.int 0), (.int 0), (.int 0), (.int 0), (.int 0), (.int 0), (.int 0), (.int 0), (.int 0), (.int 0), (.int 0)] (.int 0) := Arv.set Ar24 qk24 Sz24 Ng24 Ha24 Gf24 rfl W25 11 rfl (Nat.le_of_ble_eq_true rfl)
  clear hin24 Gf24 Ha24 Ng24 Sz24 qk24 Ar24 cl24
  refine oS (fun t k => st25 t k) ?_
  try clear st25 X23 e23
  try clear T23
  refine oS (fun t k => XS.dup X25.here hx rfl (hb hby at_78) rfl rfl k) ?_
  refine oS (fun t k => oBp lb_12 X25.here hx rfl (hb hby at_79) k) ?_
  refine oS (fun t k => oIc li_1 X25.here hx rfl (hb hby at_81) k) ?_
  obtain ⟨cl26, Ar26, qk26, Sz26, Ng26, Ha26, Gf26⟩ := id V25
  have hin26 : ¬ ((12 : Int32) < 0 ∨ cl26.slots.size ≤ ((12 : Int32)).toNatClampNeg) := inb_of Sz26 ⟨by decide, by decide⟩
  obtain ⟨T27, h27, X27, e27, W27, st27⟩ := stI X25 hx hZ e25 Ar26 (j := (12 : Int32)) hin26 (g := (mkF m 82 #[.val (.int p1), .val (.int p2), .val (.int p3), .val (.int (p1 &&& (3 : Int32))), .val (.int ((p2 &&& (2147483647 : Int32)) % (3 : Int32))), .val (.int ((p3 &&& (2147483647 : Int32)) % (3 : Int32))), .unset, .unset, .unset, .unset] [(.int 1), (.int 12), (.ref b1), (.ref b1)])) rfl rfl (hb hby at_82)
  have O27 := O25.wr W27 gx1
  have N27 := Fr.snoc X27 N25 gx1
  have V27 : Arv Z h27 b1 k1 .int (36 : Int32) [(.int 0), (.int 1), (.int (-1)), (.int 1), (.int (-1)), (.int (-1)), (.int (-1)), (.int (-1)), (.int (-1)), (.int 0), (.int (-1)), (.int (-1)), (.int 1), (.int 0), (.int 0), (.int 0), (.int 0), (.int 0), (.int 0), (.int 0), (.int 0), (.int 0), (.int 0), (.int 0), (.int 0), (.int 0), (.int 0), (.int 0), (.int 0), (.int 0), (.int 0), (.int 0), (.int 0), (.int 0), (.int 0), (.int 0)] (.int 0) := Arv.set Ar26 qk26 Sz26 Ng26 Ha26 Gf26 rfl W27 12 rfl (Nat.le_of_ble_eq_true rfl)
  clear hin26 Gf26 Ha26 Ng26 Sz26 qk26 Ar26 cl26
  refine oS (fun t k => st27 t k) ?_
  show oG _ _ _ _ _ _ _ (T27.setTop (mkF m 83 #[.val (.int p1), .val (.int p2), .val (.int p3), .val (.int (p1 &&& (3 : Int32))), .val (.int ((p2 &&& (2147483647 : Int32)) % (3 : Int32))), .val (.int ((p3 &&& (2147483647 : Int32)) % (3 : Int32))), .unset, .unset, .unset, .unset] [(.ref b1)]))
  try clear st27 X25 e25
  try clear T25
  refine oS (fun t k => XS.dup X27.here hx rfl (hb hby at_83) rfl rfl k) ?_
  refine oS (fun t k => oBp lb_13 X27.here hx rfl (hb hby at_84) k) ?_
  refine oS (fun t k => oIc li_0 X27.here hx rfl (hb hby at_86) k) ?_
  obtain ⟨cl28, Ar28, qk28, Sz28, Ng28, Ha28, Gf28⟩ := id V27
  have hin28 : ¬ ((13 : Int32) < 0 ∨ cl28.slots.size ≤ ((13 : Int32)).toNatClampNeg) := inb_of Sz28 ⟨by decide, by decide⟩
  obtain ⟨T29, h29, X29, e29, W29, st29⟩ := stI X27 hx hZ e27 Ar28 (j := (13 : Int32)) hin28 (g := (mkF m 87 #[.val (.int p1), .val (.int p2), .val (.int p3), .val (.int (p1 &&& (3 : Int32))), .val (.int ((p2 &&& (2147483647 : Int32)) % (3 : Int32))), .val (.int ((p3 &&& (2147483647 : Int32)) % (3 : Int32))), .unset, .unset, .unset, .unset] [(.int 0), (.int 13), (.ref b1), (.ref b1)])) rfl rfl (hb hby at_87)
  have O29 := O27.wr W29 gx1
  have N29 := Fr.snoc X29 N27 gx1
  have V29 : Arv Z h29 b1 k1 .int (36 : Int32) [(.int 0), (.int 1), (.int (-1)), (.int 1), (.int (-1)), (.int (-1)), (.int (-1)), (.int (-1)), (.int (-1)), (.int 0), (.int (-1)), (.int (-1)), (.int 1), (.int 0), (.int 0), (.int 0), (.int 0), (.int 0), (.int 0), (.int 0), (.int 0), (.int 0), (.int 0), (.int 0), (.int 0), (.int 0), (.int 0), (.int 0), (.int 0), (.int 0), (.int 0), (.int 0), (.int 0), (.int 0), (.int 0), (.int 0)] (.int 0) := Arv.set Ar28 qk28 Sz28 Ng28 Ha28 Gf28 rfl W29 13 rfl (Nat.le_of_ble_eq_true rfl)
  clear hin28 Gf28 Ha28 Ng28 Sz28 qk28 Ar28 cl28
  refine oS (fun t k => st29 t k) ?_
  try clear st29 X27 e27
  try clear T27
  refine oS (fun t k => XS.dup X29.here hx rfl (hb hby at_88) rfl rfl k) ?_
  show oG _ _ _ _ _ _ _ (T29.setTop (mkF m 89 #[.val (.int p1), .val (.int p2), .val (.int p3), .val (.int (p1 &&& (3 : Int32))), .val (.int ((p2 &&& (2147483647 : Int32)) % (3 : Int32))), .val (.int ((p3 &&& (2147483647 : Int32)) % (3 : Int32))), .unset, .unset, .unset, .unset] [(.ref b1), (.ref b1)]))
  refine oS (fun t k => oBp lb_14 X29.here hx rfl (hb hby at_89) k) ?_
  refine oS (fun t k => oIc li_m1 X29.here hx rfl (hb hby at_91) k) ?_
  obtain ⟨cl30, Ar30, qk30, Sz30, Ng30, Ha30, Gf30⟩ := id V29
  have hin30 : ¬ ((14 : Int32) < 0 ∨ cl30.slots.size ≤ ((14 : Int32)).toNatClampNeg) := inb_of Sz30 ⟨by decide, by decide⟩
  obtain ⟨T31, h31, X31, e31, W31, st31⟩ := stI X29 hx hZ e29 Ar30 (j := (14 : Int32)) hin30 (g := (mkF m 92 #[.val (.int p1), .val (.int p2), .val (.int p3), .val (.int (p1 &&& (3 : Int32))), .val (.int ((p2 &&& (2147483647 : Int32)) % (3 : Int32))), .val (.int ((p3 &&& (2147483647 : Int32)) % (3 : Int32))), .unset, .unset, .unset, .unset] [(.int (-1)), (.int 14), (.ref b1), (.ref b1)])) rfl rfl (hb hby at_92)
  have O31 := O29.wr W31 gx1
  have N31 := Fr.snoc X31 N29 gx1
  have V31 : Arv Z h31 b1 k1 .int (36 : Int32) [(.int 0), (.int 1), (.int (-1)), (.int 1), (.int (-1)), (.int (-1)), (.int (-1)), (.int (-1)), (.int (-1)), (.int 0), (.int (-1)), (.int (-1)), (.int 1), (.int 0), (.int (-1)), (.int 0), (.int 0), (.int 0), (.int 0), (.int 0), (.int 0), (.int 0), (.int 0), (.int 0), (.int 0), (.int 0), (.int 0), (.int 0), (.int 0), (.int 0), (.int 0), (.int 0), (.int 0), (.int 0), (.int 0), (.int 0)] (.int 0) := Arv.set Ar30 qk30 Sz30 Ng30 Ha30 Gf30 rfl W31 14 rfl (Nat.le_of_ble_eq_true rfl)
  clear hin30 Gf30 Ha30 Ng30 Sz30 qk30 Ar30 cl30
  refine oS (fun t k => st31 t k) ?_
  try clear st31 X29 e29
  try clear T29
  refine oS (fun t k => XS.dup X31.here hx rfl (hb hby at_93) rfl rfl k) ?_
  refine oS (fun t k => oBp lb_15 X31.here hx rfl (hb hby at_94) k) ?_
  show oG _ _ _ _ _ _ _ (T31.setTop (mkF m 96 #[.val (.int p1), .val (.int p2), .val (.int p3), .val (.int (p1 &&& (3 : Int32))), .val (.int ((p2 &&& (2147483647 : Int32)) % (3 : Int32))), .val (.int ((p3 &&& (2147483647 : Int32)) % (3 : Int32))), .unset, .unset, .unset, .unset] [(.int 15), (.ref b1), (.ref b1)]))
  refine oS (fun t k => oIc li_m1 X31.here hx rfl (hb hby at_96) k) ?_
  obtain ⟨cl32, Ar32, qk32, Sz32, Ng32, Ha32, Gf32⟩ := id V31
  have hin32 : ¬ ((15 : Int32) < 0 ∨ cl32.slots.size ≤ ((15 : Int32)).toNatClampNeg) := inb_of Sz32 ⟨by decide, by decide⟩
  obtain ⟨T33, h33, X33, e33, W33, st33⟩ := stI X31 hx hZ e31 Ar32 (j := (15 : Int32)) hin32 (g := (mkF m 97 #[.val (.int p1), .val (.int p2), .val (.int p3), .val (.int (p1 &&& (3 : Int32))), .val (.int ((p2 &&& (2147483647 : Int32)) % (3 : Int32))), .val (.int ((p3 &&& (2147483647 : Int32)) % (3 : Int32))), .unset, .unset, .unset, .unset] [(.int (-1)), (.int 15), (.ref b1), (.ref b1)])) rfl rfl (hb hby at_97)
  have O33 := O31.wr W33 gx1
  have N33 := Fr.snoc X33 N31 gx1
  have V33 : Arv Z h33 b1 k1 .int (36 : Int32) [(.int 0), (.int 1), (.int (-1)), (.int 1), (.int (-1)), (.int (-1)), (.int (-1)), (.int (-1)), (.int (-1)), (.int 0), (.int (-1)), (.int (-1)), (.int 1), (.int 0), (.int (-1)), (.int (-1)), (.int 0), (.int 0), (.int 0), (.int 0), (.int 0), (.int 0), (.int 0), (.int 0), (.int 0), (.int 0), (.int 0), (.int 0), (.int 0), (.int 0), (.int 0), (.int 0), (.int 0), (.int 0), (.int 0), (.int 0)] (.int 0) := Arv.set Ar32 qk32 Sz32 Ng32 Ha32 Gf32 rfl W33 15 rfl (Nat.le_of_ble_eq_true rfl)
  clear hin32 Gf32 Ha32 Ng32 Sz32 qk32 Ar32 cl32
  refine oS (fun t k => st33 t k) ?_
  try clear st33 X31 e31
  try clear T31
  refine oS (fun t k => XS.dup X33.here hx rfl (hb hby at_98) rfl rfl k) ?_
  refine oS (fun t k => oBp lb_16 X33.here hx rfl (hb hby at_99) k) ?_
  refine oS (fun t k => oIc li_m1 X33.here hx rfl (hb hby at_101) k) ?_
  show oG _ _ _ _ _ _ _ (T33.setTop (mkF m 102 #[.val (.int p1), .val (.int p2), .val (.int p3), .val (.int (p1 &&& (3 : Int32))), .val (.int ((p2 &&& (2147483647 : Int32)) % (3 : Int32))), .val (.int ((p3 &&& (2147483647 : Int32)) % (3 : Int32))), .unset, .unset, .unset, .unset] [(.int (-1)), (.int 16), (.ref b1), (.ref b1)]))
  obtain ⟨cl34, Ar34, qk34, Sz34, Ng34, Ha34, Gf34⟩ := id V33
  have hin34 : ¬ ((16 : Int32) < 0 ∨ cl34.slots.size ≤ ((16 : Int32)).toNatClampNeg) := inb_of Sz34 ⟨by decide, by decide⟩
  obtain ⟨T35, h35, X35, e35, W35, st35⟩ := stI X33 hx hZ e33 Ar34 (j := (16 : Int32)) hin34 (g := (mkF m 102 #[.val (.int p1), .val (.int p2), .val (.int p3), .val (.int (p1 &&& (3 : Int32))), .val (.int ((p2 &&& (2147483647 : Int32)) % (3 : Int32))), .val (.int ((p3 &&& (2147483647 : Int32)) % (3 : Int32))), .unset, .unset, .unset, .unset] [(.int (-1)), (.int 16), (.ref b1), (.ref b1)])) rfl rfl (hb hby at_102)
  have O35 := O33.wr W35 gx1
  have N35 := Fr.snoc X35 N33 gx1
  have V35 : Arv Z h35 b1 k1 .int (36 : Int32) [(.int 0), (.int 1), (.int (-1)), (.int 1), (.int (-1)), (.int (-1)), (.int (-1)), (.int (-1)), (.int (-1)), (.int 0), (.int (-1)), (.int (-1)), (.int 1), (.int 0), (.int (-1)), (.int (-1)), (.int (-1)), (.int 0), (.int 0), (.int 0), (.int 0), (.int 0), (.int 0), (.int 0), (.int 0), (.int 0), (.int 0), (.int 0), (.int 0), (.int 0), (.int 0), (.int 0), (.int 0), (.int 0), (.int 0), (.int 0)] (.int 0) := Arv.set Ar34 qk34 Sz34 Ng34 Ha34 Gf34 rfl W35 16 rfl (Nat.le_of_ble_eq_true rfl)
  clear hin34 Gf34 Ha34 Ng34 Sz34 qk34 Ar34 cl34
  refine oS (fun t k => st35 t k) ?_
  try clear st35 X33 e33
  try clear T33
  refine oS (fun t k => XS.dup X35.here hx rfl (hb hby at_103) rfl rfl k) ?_
  refine oS (fun t k => oBp lb_17 X35.here hx rfl (hb hby at_104) k) ?_
  refine oS (fun t k => oIc li_m1 X35.here hx rfl (hb hby at_106) k) ?_
  obtain ⟨cl36, Ar36, qk36, Sz36, Ng36, Ha36, Gf36⟩ := id V35
  have hin36 : ¬ ((17 : Int32) < 0 ∨ cl36.slots.size ≤ ((17 : Int32)).toNatClampNeg) := inb_of Sz36 ⟨by decide, by decide⟩
  obtain ⟨T37, h37, X37, e37, W37, st37⟩ := stI X35 hx hZ e35 Ar36 (j := (17 : Int32)) hin36 (g := (mkF m 107 #[.val (.int p1), .val (.int p2), .val (.int p3), .val (.int (p1 &&& (3 : Int32))), .val (.int ((p2 &&& (2147483647 : Int32)) % (3 : Int32))), .val (.int ((p3 &&& (2147483647 : Int32)) % (3 : Int32))), .unset, .unset, .unset, .unset] [(.int (-1)), (.int 17), (.ref b1), (.ref b1)])) rfl rfl (hb hby at_107)
  have O37 := O35.wr W37 gx1
  have N37 := Fr.snoc X37 N35 gx1
  have V37 : Arv Z h37 b1 k1 .int (36 : Int32) [(.int 0), (.int 1), (.int (-1)), (.int 1), (.int (-1)), (.int (-1)), (.int (-1)), (.int (-1)), (.int (-1)), (.int 0), (.int (-1)), (.int (-1)), (.int 1), (.int 0), (.int (-1)), (.int (-1)), (.int (-1)), (.int (-1)), (.int 0), (.int 0), (.int 0), (.int 0), (.int 0), (.int 0), (.int 0), (.int 0), (.int 0), (.int 0), (.int 0), (.int 0), (.int 0), (.int 0), (.int 0), (.int 0), (.int 0), (.int 0)] (.int 0) := Arv.set Ar36 qk36 Sz36 Ng36 Ha36 Gf36 rfl W37 17 rfl (Nat.le_of_ble_eq_true rfl)
  clear hin36 Gf36 Ha36 Ng36 Sz36 qk36 Ar36 cl36
  refine oS (fun t k => st37 t k) ?_
  show oG _ _ _ _ _ _ _ (T37.setTop (mkF m 108 #[.val (.int p1), .val (.int p2), .val (.int p3), .val (.int (p1 &&& (3 : Int32))), .val (.int ((p2 &&& (2147483647 : Int32)) % (3 : Int32))), .val (.int ((p3 &&& (2147483647 : Int32)) % (3 : Int32))), .unset, .unset, .unset, .unset] [(.ref b1)]))
  try clear st37 X35 e35
  try clear T35
  refine oS (fun t k => XS.dup X37.here hx rfl (hb hby at_108) rfl rfl k) ?_
  refine oS (fun t k => oBp lb_18 X37.here hx rfl (hb hby at_109) k) ?_
  refine oS (fun t k => oIc li_0 X37.here hx rfl (hb hby at_111) k) ?_
  obtain ⟨cl38, Ar38, qk38, Sz38, Ng38, Ha38, Gf38⟩ := id V37
  have hin38 : ¬ ((18 : Int32) < 0 ∨ cl38.slots.size ≤ ((18 : Int32)).toNatClampNeg) := inb_of Sz38 ⟨by decide, by decide⟩
  obtain ⟨T39, h39, X39, e39, W39, st39⟩ := stI X37 hx hZ e37 Ar38 (j := (18 : Int32)) hin38 (g := (mkF m 112 #[.val (.int p1), .val (.int p2), .val (.int p3), .val (.int (p1 &&& (3 : Int32))), .val (.int ((p2 &&& (2147483647 : Int32)) % (3 : Int32))), .val (.int ((p3 &&& (2147483647 : Int32)) % (3 : Int32))), .unset, .unset, .unset, .unset] [(.int 0), (.int 18), (.ref b1), (.ref b1)])) rfl rfl (hb hby at_112)
  have O39 := O37.wr W39 gx1
  have N39 := Fr.snoc X39 N37 gx1
  have V39 : Arv Z h39 b1 k1 .int (36 : Int32) [(.int 0), (.int 1), (.int (-1)), (.int 1), (.int (-1)), (.int (-1)), (.int (-1)), (.int (-1)), (.int (-1)), (.int 0), (.int (-1)), (.int (-1)), (.int 1), (.int 0), (.int (-1)), (.int (-1)), (.int (-1)), (.int (-1)), (.int 0), (.int 0), (.int 0), (.int 0), (.int 0), (.int 0), (.int 0), (.int 0), (.int 0), (.int 0), (.int 0), (.int 0), (.int 0), (.int 0), (.int 0), (.int 0), (.int 0), (.int 0)] (.int 0) := Arv.set Ar38 qk38 Sz38 Ng38 Ha38 Gf38 rfl W39 18 rfl (Nat.le_of_ble_eq_true rfl)
  clear hin38 Gf38 Ha38 Ng38 Sz38 qk38 Ar38 cl38
  refine oS (fun t k => st39 t k) ?_
  try clear st39 X37 e37
  try clear T37
  refine oS (fun t k => XS.dup X39.here hx rfl (hb hby at_113) rfl rfl k) ?_
  show oG _ _ _ _ _ _ _ (T39.setTop (mkF m 114 #[.val (.int p1), .val (.int p2), .val (.int p3), .val (.int (p1 &&& (3 : Int32))), .val (.int ((p2 &&& (2147483647 : Int32)) % (3 : Int32))), .val (.int ((p3 &&& (2147483647 : Int32)) % (3 : Int32))), .unset, .unset, .unset, .unset] [(.ref b1), (.ref b1)]))
  refine oS (fun t k => oBp lb_19 X39.here hx rfl (hb hby at_114) k) ?_
  refine oS (fun t k => oIc li_m1 X39.here hx rfl (hb hby at_116) k) ?_
  obtain ⟨cl40, Ar40, qk40, Sz40, Ng40, Ha40, Gf40⟩ := id V39
  have hin40 : ¬ ((19 : Int32) < 0 ∨ cl40.slots.size ≤ ((19 : Int32)).toNatClampNeg) := inb_of Sz40 ⟨by decide, by decide⟩
  obtain ⟨T41, h41, X41, e41, W41, st41⟩ := stI X39 hx hZ e39 Ar40 (j := (19 : Int32)) hin40 (g := (mkF m 117 #[.val (.int p1), .val (.int p2), .val (.int p3), .val (.int (p1 &&& (3 : Int32))), .val (.int ((p2 &&& (2147483647 : Int32)) % (3 : Int32))), .val (.int ((p3 &&& (2147483647 : Int32)) % (3 : Int32))), .unset, .unset, .unset, .unset] [(.int (-1)), (.int 19), (.ref b1), (.ref b1)])) rfl rfl (hb hby at_117)
  have O41 := O39.wr W41 gx1
  have N41 := Fr.snoc X41 N39 gx1
  have V41 : Arv Z h41 b1 k1 .int (36 : Int32) [(.int 0), (.int 1), (.int (-1)), (.int 1), (.int (-1)), (.int (-1)), (.int (-1)), (.int (-1)), (.int (-1)), (.int 0), (.int (-1)), (.int (-1)), (.int 1), (.int 0), (.int (-1)), (.int (-1)), (.int (-1)), (.int (-1)), (.int 0), (.int (-1)), (.int 0), (.int 0), (.int 0), (.int 0), (.int 0), (.int 0), (.int 0), (.int 0), (.int 0), (.int 0), (.int 0), (.int 0), (.int 0), (.int 0), (.int 0), (.int 0)] (.int 0) := Arv.set Ar40 qk40 Sz40 Ng40 Ha40 Gf40 rfl W41 19 rfl (Nat.le_of_ble_eq_true rfl)
  clear hin40 Gf40 Ha40 Ng40 Sz40 qk40 Ar40 cl40
  refine oS (fun t k => st41 t k) ?_
  try clear st41 X39 e39
  try clear T39
  refine oS (fun t k => XS.dup X41.here hx rfl (hb hby at_118) rfl rfl k) ?_
  refine oS (fun t k => oBp lb_20 X41.here hx rfl (hb hby at_119) k) ?_
  show oG _ _ _ _ _ _ _ (T41.setTop (mkF m 121 #[.val (.int p1), .val (.int p2), .val (.int p3), .val (.int (p1 &&& (3 : Int32))), .val (.int ((p2 &&& (2147483647 : Int32)) % (3 : Int32))), .val (.int ((p3 &&& (2147483647 : Int32)) % (3 : Int32))), .unset, .unset, .unset, .unset] [(.int 20), (.ref b1), (.ref b1)]))
  refine oS (fun t k => oIc li_m1 X41.here hx rfl (hb hby at_121) k) ?_
  obtain ⟨cl42, Ar42, qk42, Sz42, Ng42, Ha42, Gf42⟩ := id V41
  have hin42 : ¬ ((20 : Int32) < 0 ∨ cl42.slots.size ≤ ((20 : Int32)).toNatClampNeg) := inb_of Sz42 ⟨by decide, by decide⟩
  obtain ⟨T43, h43, X43, e43, W43, st43⟩ := stI X41 hx hZ e41 Ar42 (j := (20 : Int32)) hin42 (g := (mkF m 122 #[.val (.int p1), .val (.int p2), .val (.int p3), .val (.int (p1 &&& (3 : Int32))), .val (.int ((p2 &&& (2147483647 : Int32)) % (3 : Int32))), .val (.int ((p3 &&& (2147483647 : Int32)) % (3 : Int32))), .unset, .unset, .unset, .unset] [(.int (-1)), (.int 20), (.ref b1), (.ref b1)])) rfl rfl (hb hby at_122)
  have O43 := O41.wr W43 gx1
  have N43 := Fr.snoc X43 N41 gx1
  have V43 : Arv Z h43 b1 k1 .int (36 : Int32) [(.int 0), (.int 1), (.int (-1)), (.int 1), (.int (-1)), (.int (-1)), (.int (-1)), (.int (-1)), (.int (-1)), (.int 0), (.int (-1)), (.int (-1)), (.int 1), (.int 0), (.int (-1)), (.int (-1)), (.int (-1)), (.int (-1)), (.int 0), (.int (-1)), (.int (-1)), (.int 0), (.int 0), (.int 0), (.int 0), (.int 0), (.int 0), (.int 0), (.int 0), (.int 0), (.int 0), (.int 0), (.int 0), (.int 0), (.int 0), (.int 0)] (.int 0) := Arv.set Ar42 qk42 Sz42 Ng42 Ha42 Gf42 rfl W43 20 rfl (Nat.le_of_ble_eq_true rfl)
  clear hin42 Gf42 Ha42 Ng42 Sz42 qk42 Ar42 cl42
  refine oS (fun t k => st43 t k) ?_
  try clear st43 X41 e41
  try clear T41
  refine oS (fun t k => XS.dup X43.here hx rfl (hb hby at_123) rfl rfl k) ?_
  refine oS (fun t k => oBp lb_21 X43.here hx rfl (hb hby at_124) k) ?_
  refine oS (fun t k => oIc li_m1 X43.here hx rfl (hb hby at_126) k) ?_
  show oG _ _ _ _ _ _ _ (T43.setTop (mkF m 127 #[.val (.int p1), .val (.int p2), .val (.int p3), .val (.int (p1 &&& (3 : Int32))), .val (.int ((p2 &&& (2147483647 : Int32)) % (3 : Int32))), .val (.int ((p3 &&& (2147483647 : Int32)) % (3 : Int32))), .unset, .unset, .unset, .unset] [(.int (-1)), (.int 21), (.ref b1), (.ref b1)]))
  obtain ⟨cl44, Ar44, qk44, Sz44, Ng44, Ha44, Gf44⟩ := id V43
  have hin44 : ¬ ((21 : Int32) < 0 ∨ cl44.slots.size ≤ ((21 : Int32)).toNatClampNeg) := inb_of Sz44 ⟨by decide, by decide⟩
  obtain ⟨T45, h45, X45, e45, W45, st45⟩ := stI X43 hx hZ e43 Ar44 (j := (21 : Int32)) hin44 (g := (mkF m 127 #[.val (.int p1), .val (.int p2), .val (.int p3), .val (.int (p1 &&& (3 : Int32))), .val (.int ((p2 &&& (2147483647 : Int32)) % (3 : Int32))), .val (.int ((p3 &&& (2147483647 : Int32)) % (3 : Int32))), .unset, .unset, .unset, .unset] [(.int (-1)), (.int 21), (.ref b1), (.ref b1)])) rfl rfl (hb hby at_127)
  have O45 := O43.wr W45 gx1
  have N45 := Fr.snoc X45 N43 gx1
  have V45 : Arv Z h45 b1 k1 .int (36 : Int32) [(.int 0), (.int 1), (.int (-1)), (.int 1), (.int (-1)), (.int (-1)), (.int (-1)), (.int (-1)), (.int (-1)), (.int 0), (.int (-1)), (.int (-1)), (.int 1), (.int 0), (.int (-1)), (.int (-1)), (.int (-1)), (.int (-1)), (.int 0), (.int (-1)), (.int (-1)), (.int (-1)), (.int 0), (.int 0), (.int 0), (.int 0), (.int 0), (.int 0), (.int 0), (.int 0), (.int 0), (.int 0), (.int 0), (.int 0), (.int 0), (.int 0)] (.int 0) := Arv.set Ar44 qk44 Sz44 Ng44 Ha44 Gf44 rfl W45 21 rfl (Nat.le_of_ble_eq_true rfl)
  clear hin44 Gf44 Ha44 Ng44 Sz44 qk44 Ar44 cl44
  refine oS (fun t k => st45 t k) ?_
  try clear st45 X43 e43
  try clear T43
  refine oS (fun t k => XS.dup X45.here hx rfl (hb hby at_128) rfl rfl k) ?_
  refine oS (fun t k => oBp lb_22 X45.here hx rfl (hb hby at_129) k) ?_
  refine oS (fun t k => oIc li_m1 X45.here hx rfl (hb hby at_131) k) ?_
  obtain ⟨cl46, Ar46, qk46, Sz46, Ng46, Ha46, Gf46⟩ := id V45
  have hin46 : ¬ ((22 : Int32) < 0 ∨ cl46.slots.size ≤ ((22 : Int32)).toNatClampNeg) := inb_of Sz46 ⟨by decide, by decide⟩
  obtain ⟨T47, h47, X47, e47, W47, st47⟩ := stI X45 hx hZ e45 Ar46 (j := (22 : Int32)) hin46 (g := (mkF m 132 #[.val (.int p1), .val (.int p2), .val (.int p3), .val (.int (p1 &&& (3 : Int32))), .val (.int ((p2 &&& (2147483647 : Int32)) % (3 : Int32))), .val (.int ((p3 &&& (2147483647 : Int32)) % (3 : Int32))), .unset, .unset, .unset, .unset] [(.int (-1)), (.int 22), (.ref b1), (.ref b1)])) rfl rfl (hb hby at_132)
  have O47 := O45.wr W47 gx1
  have N47 := Fr.snoc X47 N45 gx1
  have V47 : Arv Z h47 b1 k1 .int (36 : Int32) [(.int 0), (.int 1), (.int (-1)), (.int 1), (.int (-1)), (.int (-1)), (.int (-1)), (.int (-1)), (.int (-1)), (.int 0), (.int (-1)), (.int (-1)), (.int 1), (.int 0), (.int (-1)), (.int (-1)), (.int (-1)), (.int (-1)), (.int 0), (.int (-1)), (.int (-1)), (.int (-1)), (.int (-1)), (.int 0), (.int 0), (.int 0), (.int 0), (.int 0), (.int 0), (.int 0), (.int 0), (.int 0), (.int 0), (.int 0), (.int 0), (.int 0)] (.int 0) := Arv.set Ar46 qk46 Sz46 Ng46 Ha46 Gf46 rfl W47 22 rfl (Nat.le_of_ble_eq_true rfl)
  clear hin46 Gf46 Ha46 Ng46 Sz46 qk46 Ar46 cl46
  refine oS (fun t k => st47 t k) ?_
  show oG _ _ _ _ _ _ _ (T47.setTop (mkF m 133 #[.val (.int p1), .val (.int p2), .val (.int p3), .val (.int (p1 &&& (3 : Int32))), .val (.int ((p2 &&& (2147483647 : Int32)) % (3 : Int32))), .val (.int ((p3 &&& (2147483647 : Int32)) % (3 : Int32))), .unset, .unset, .unset, .unset] [(.ref b1)]))
  try clear st47 X45 e45
  try clear T45
  refine oS (fun t k => XS.dup X47.here hx rfl (hb hby at_133) rfl rfl k) ?_
  refine oS (fun t k => oBp lb_23 X47.here hx rfl (hb hby at_134) k) ?_
  refine oS (fun t k => oIc li_m1 X47.here hx rfl (hb hby at_136) k) ?_
  obtain ⟨cl48, Ar48, qk48, Sz48, Ng48, Ha48, Gf48⟩ := id V47
  have hin48 : ¬ ((23 : Int32) < 0 ∨ cl48.slots.size ≤ ((23 : Int32)).toNatClampNeg) := inb_of Sz48 ⟨by decide, by decide⟩
  obtain ⟨T49, h49, X49, e49, W49, st49⟩ := stI X47 hx hZ e47 Ar48 (j := (23 : Int32)) hin48 (g := (mkF m 137 #[.val (.int p1), .val (.int p2), .val (.int p3), .val (.int (p1 &&& (3 : Int32))), .val (.int ((p2 &&& (2147483647 : Int32)) % (3 : Int32))), .val (.int ((p3 &&& (2147483647 : Int32)) % (3 : Int32))), .unset, .unset, .unset, .unset] [(.int (-1)), (.int 23), (.ref b1), (.ref b1)])) rfl rfl (hb hby at_137)
  have O49 := O47.wr W49 gx1
  have N49 := Fr.snoc X49 N47 gx1
  have V49 : Arv Z h49 b1 k1 .int (36 : Int32) [(.int 0), (.int 1), (.int (-1)), (.int 1), (.int (-1)), (.int (-1)), (.int (-1)), (.int (-1)), (.int (-1)), (.int 0), (.int (-1)), (.int (-1)), (.int 1), (.int 0), (.int (-1)), (.int (-1)), (.int (-1)), (.int (-1)), (.int 0), (.int (-1)), (.int (-1)), (.int (-1)), (.int (-1)), (.int (-1)), (.int 0), (.int 0), (.int 0), (.int 0), (.int 0), (.int 0), (.int 0), (.int 0), (.int 0), (.int 0), (.int 0), (.int 0)] (.int 0) := Arv.set Ar48 qk48 Sz48 Ng48 Ha48 Gf48 rfl W49 23 rfl (Nat.le_of_ble_eq_true rfl)
  clear hin48 Gf48 Ha48 Ng48 Sz48 qk48 Ar48 cl48
  refine oS (fun t k => st49 t k) ?_
  try clear st49 X47 e47
  try clear T47
  refine oS (fun t k => XS.dup X49.here hx rfl (hb hby at_138) rfl rfl k) ?_
  show oG _ _ _ _ _ _ _ (T49.setTop (mkF m 139 #[.val (.int p1), .val (.int p2), .val (.int p3), .val (.int (p1 &&& (3 : Int32))), .val (.int ((p2 &&& (2147483647 : Int32)) % (3 : Int32))), .val (.int ((p3 &&& (2147483647 : Int32)) % (3 : Int32))), .unset, .unset, .unset, .unset] [(.ref b1), (.ref b1)]))
  refine oS (fun t k => oBp lb_24 X49.here hx rfl (hb hby at_139) k) ?_
  refine oS (fun t k => oIc li_m1 X49.here hx rfl (hb hby at_141) k) ?_
  obtain ⟨cl50, Ar50, qk50, Sz50, Ng50, Ha50, Gf50⟩ := id V49
  have hin50 : ¬ ((24 : Int32) < 0 ∨ cl50.slots.size ≤ ((24 : Int32)).toNatClampNeg) := inb_of Sz50 ⟨by decide, by decide⟩
  obtain ⟨T51, h51, X51, e51, W51, st51⟩ := stI X49 hx hZ e49 Ar50 (j := (24 : Int32)) hin50 (g := (mkF m 142 #[.val (.int p1), .val (.int p2), .val (.int p3), .val (.int (p1 &&& (3 : Int32))), .val (.int ((p2 &&& (2147483647 : Int32)) % (3 : Int32))), .val (.int ((p3 &&& (2147483647 : Int32)) % (3 : Int32))), .unset, .unset, .unset, .unset] [(.int (-1)), (.int 24), (.ref b1), (.ref b1)])) rfl rfl (hb hby at_142)
  have O51 := O49.wr W51 gx1
  have N51 := Fr.snoc X51 N49 gx1
  have V51 : Arv Z h51 b1 k1 .int (36 : Int32) [(.int 0), (.int 1), (.int (-1)), (.int 1), (.int (-1)), (.int (-1)), (.int (-1)), (.int (-1)), (.int (-1)), (.int 0), (.int (-1)), (.int (-1)), (.int 1), (.int 0), (.int (-1)), (.int (-1)), (.int (-1)), (.int (-1)), (.int 0), (.int (-1)), (.int (-1)), (.int (-1)), (.int (-1)), (.int (-1)), (.int (-1)), (.int 0), (.int 0), (.int 0), (.int 0), (.int 0), (.int 0), (.int 0), (.int 0), (.int 0), (.int 0), (.int 0)] (.int 0) := Arv.set Ar50 qk50 Sz50 Ng50 Ha50 Gf50 rfl W51 24 rfl (Nat.le_of_ble_eq_true rfl)
  clear hin50 Gf50 Ha50 Ng50 Sz50 qk50 Ar50 cl50
  refine oS (fun t k => st51 t k) ?_
  try clear st51 X49 e49
  try clear T49
  refine oS (fun t k => XS.dup X51.here hx rfl (hb hby at_143) rfl rfl k) ?_
  refine oS (fun t k => oBp lb_25 X51.here hx rfl (hb hby at_144) k) ?_
  show oG _ _ _ _ _ _ _ (T51.setTop (mkF m 146 #[.val (.int p1), .val (.int p2), .val (.int p3), .val (.int (p1 &&& (3 : Int32))), .val (.int ((p2 &&& (2147483647 : Int32)) % (3 : Int32))), .val (.int ((p3 &&& (2147483647 : Int32)) % (3 : Int32))), .unset, .unset, .unset, .unset] [(.int 25), (.ref b1), (.ref b1)]))
  refine oS (fun t k => oIc li_m1 X51.here hx rfl (hb hby at_146) k) ?_
  obtain ⟨cl52, Ar52, qk52, Sz52, Ng52, Ha52, Gf52⟩ := id V51
  have hin52 : ¬ ((25 : Int32) < 0 ∨ cl52.slots.size ≤ ((25 : Int32)).toNatClampNeg) := inb_of Sz52 ⟨by decide, by decide⟩
  obtain ⟨T53, h53, X53, e53, W53, st53⟩ := stI X51 hx hZ e51 Ar52 (j := (25 : Int32)) hin52 (g := (mkF m 147 #[.val (.int p1), .val (.int p2), .val (.int p3), .val (.int (p1 &&& (3 : Int32))), .val (.int ((p2 &&& (2147483647 : Int32)) % (3 : Int32))), .val (.int ((p3 &&& (2147483647 : Int32)) % (3 : Int32))), .unset, .unset, .unset, .unset] [(.int (-1)), (.int 25), (.ref b1), (.ref b1)])) rfl rfl (hb hby at_147)
  have O53 := O51.wr W53 gx1
  have N53 := Fr.snoc X53 N51 gx1
  have V53 : Arv Z h53 b1 k1 .int (36 : Int32) [(.int 0), (.int 1), (.int (-1)), (.int 1), (.int (-1)), (.int (-1)), (.int (-1)), (.int (-1)), (.int (-1)), (.int 0), (.int (-1)), (.int (-1)), (.int 1), (.int 0), (.int (-1)), (.int (-1)), (.int (-1)), (.int (-1)), (.int 0), (.int (-1)), (.int (-1)), (.int (-1)), (.int (-1)), (.int (-1)), (.int (-1)), (.int (-1)), (.int 0), (.int 0), (.int 0), (.int 0), (.int 0), (.int 0), (.int 0), (.int 0), (.int 0), (.int 0)] (.int 0) := Arv.set Ar52 qk52 Sz52 Ng52 Ha52 Gf52 rfl W53 25 rfl (Nat.le_of_ble_eq_true rfl)
  clear hin52 Gf52 Ha52 Ng52 Sz52 qk52 Ar52 cl52
  refine oS (fun t k => st53 t k) ?_
  try clear st53 X51 e51
  try clear T51
  refine oS (fun t k => XS.dup X53.here hx rfl (hb hby at_148) rfl rfl k) ?_
  refine oS (fun t k => oBp lb_26 X53.here hx rfl (hb hby at_149) k) ?_
  refine oS (fun t k => oIc li_m1 X53.here hx rfl (hb hby at_151) k) ?_
  show oG _ _ _ _ _ _ _ (T53.setTop (mkF m 152 #[.val (.int p1), .val (.int p2), .val (.int p3), .val (.int (p1 &&& (3 : Int32))), .val (.int ((p2 &&& (2147483647 : Int32)) % (3 : Int32))), .val (.int ((p3 &&& (2147483647 : Int32)) % (3 : Int32))), .unset, .unset, .unset, .unset] [(.int (-1)), (.int 26), (.ref b1), (.ref b1)]))
  obtain ⟨cl54, Ar54, qk54, Sz54, Ng54, Ha54, Gf54⟩ := id V53
  have hin54 : ¬ ((26 : Int32) < 0 ∨ cl54.slots.size ≤ ((26 : Int32)).toNatClampNeg) := inb_of Sz54 ⟨by decide, by decide⟩
  obtain ⟨T55, h55, X55, e55, W55, st55⟩ := stI X53 hx hZ e53 Ar54 (j := (26 : Int32)) hin54 (g := (mkF m 152 #[.val (.int p1), .val (.int p2), .val (.int p3), .val (.int (p1 &&& (3 : Int32))), .val (.int ((p2 &&& (2147483647 : Int32)) % (3 : Int32))), .val (.int ((p3 &&& (2147483647 : Int32)) % (3 : Int32))), .unset, .unset, .unset, .unset] [(.int (-1)), (.int 26), (.ref b1), (.ref b1)])) rfl rfl (hb hby at_152)
  have O55 := O53.wr W55 gx1
  have N55 := Fr.snoc X55 N53 gx1
  have V55 : Arv Z h55 b1 k1 .int (36 : Int32) [(.int 0), (.int 1), (.int (-1)), (.int 1), (.int (-1)), (.int (-1)), (.int (-1)), (.int (-1)), (.int (-1)), (.int 0), (.int (-1)), (.int (-1)), (.int 1), (.int 0), (.int (-1)), (.int (-1)), (.int (-1)), (.int (-1)), (.int 0), (.int (-1)), (.int (-1)), (.int (-1)), (.int (-1)), (.int (-1)), (.int (-1)), (.int (-1)), (.int (-1)), (.int 0), (.int 0), (.int 0), (.int 0), (.int 0), (.int 0), (.int 0), (.int 0), (.int 0)] (.int 0) := Arv.set Ar54 qk54 Sz54 Ng54 Ha54 Gf54 rfl W55 26 rfl (Nat.le_of_ble_eq_true rfl)
  clear hin54 Gf54 Ha54 Ng54 Sz54 qk54 Ar54 cl54
  refine oS (fun t k => st55 t k) ?_
  try clear st55 X53 e53
  try clear T53
  refine oS (fun t k => XS.dup X55.here hx rfl (hb hby at_153) rfl rfl k) ?_
  refine oS (fun t k => oBp lb_27 X55.here hx rfl (hb hby at_154) k) ?_
  refine oS (fun t k => oIc li_0 X55.here hx rfl (hb hby at_156) k) ?_
  obtain ⟨cl56, Ar56, qk56, Sz56, Ng56, Ha56, Gf56⟩ := id V55
  have hin56 : ¬ ((27 : Int32) < 0 ∨ cl56.slots.size ≤ ((27 : Int32)).toNatClampNeg) := inb_of Sz56 ⟨by decide, by decide⟩
  obtain ⟨T57, h57, X57, e57, W57, st57⟩ := stI X55 hx hZ e55 Ar56 (j := (27 : Int32)) hin56 (g := (mkF m 157 #[.val (.int p1), .val (.int p2), .val (.int p3), .val (.int (p1 &&& (3 : Int32))), .val (.int ((p2 &&& (2147483647 : Int32)) % (3 : Int32))), .val (.int ((p3 &&& (2147483647 : Int32)) % (3 : Int32))), .unset, .unset, .unset, .unset] [(.int 0), (.int 27), (.ref b1), (.ref b1)])) rfl rfl (hb hby at_157)
  have O57 := O55.wr W57 gx1
  have N57 := Fr.snoc X57 N55 gx1
  have V57 : Arv Z h57 b1 k1 .int (36 : Int32) [(.int 0), (.int 1), (.int (-1)), (.int 1), (.int (-1)), (.int (-1)), (.int (-1)), (.int (-1)), (.int (-1)), (.int 0), (.int (-1)), (.int (-1)), (.int 1), (.int 0), (.int (-1)), (.int (-1)), (.int (-1)), (.int (-1)), (.int 0), (.int (-1)), (.int (-1)), (.int (-1)), (.int (-1)), (.int (-1)), (.int (-1)), (.int (-1)), (.int (-1)), (.int 0), (.int 0), (.int 0), (.int 0), (.int 0), (.int 0), (.int 0), (.int 0), (.int 0)] (.int 0) := Arv.set Ar56 qk56 Sz56 Ng56 Ha56 Gf56 rfl W57 27 rfl (Nat.le_of_ble_eq_true rfl)
  clear hin56 Gf56 Ha56 Ng56 Sz56 qk56 Ar56 cl56
  refine oS (fun t k => st57 t k) ?_
  show oG _ _ _ _ _ _ _ (T57.setTop (mkF m 158 #[.val (.int p1), .val (.int p2), .val (.int p3), .val (.int (p1 &&& (3 : Int32))), .val (.int ((p2 &&& (2147483647 : Int32)) % (3 : Int32))), .val (.int ((p3 &&& (2147483647 : Int32)) % (3 : Int32))), .unset, .unset, .unset, .unset] [(.ref b1)]))
  try clear st57 X55 e55
  try clear T55
  refine oS (fun t k => XS.dup X57.here hx rfl (hb hby at_158) rfl rfl k) ?_
  refine oS (fun t k => oBp lb_28 X57.here hx rfl (hb hby at_159) k) ?_
  refine oS (fun t k => oIc li_m1 X57.here hx rfl (hb hby at_161) k) ?_
  obtain ⟨cl58, Ar58, qk58, Sz58, Ng58, Ha58, Gf58⟩ := id V57
  have hin58 : ¬ ((28 : Int32) < 0 ∨ cl58.slots.size ≤ ((28 : Int32)).toNatClampNeg) := inb_of Sz58 ⟨by decide, by decide⟩
  obtain ⟨T59, h59, X59, e59, W59, st59⟩ := stI X57 hx hZ e57 Ar58 (j := (28 : Int32)) hin58 (g := (mkF m 162 #[.val (.int p1), .val (.int p2), .val (.int p3), .val (.int (p1 &&& (3 : Int32))), .val (.int ((p2 &&& (2147483647 : Int32)) % (3 : Int32))), .val (.int ((p3 &&& (2147483647 : Int32)) % (3 : Int32))), .unset, .unset, .unset, .unset] [(.int (-1)), (.int 28), (.ref b1), (.ref b1)])) rfl rfl (hb hby at_162)
  have O59 := O57.wr W59 gx1
  have N59 := Fr.snoc X59 N57 gx1
  have V59 : Arv Z h59 b1 k1 .int (36 : Int32) [(.int 0), (.int 1), (.int (-1)), (.int 1), (.int (-1)), (.int (-1)), (.int (-1)), (.int (-1)), (.int (-1)), (.int 0), (.int (-1)), (.int (-1)), (.int 1), (.int 0), (.int (-1)), (.int (-1)), (.int (-1)), (.int (-1)), (.int 0), (.int (-1)), (.int (-1)), (.int (-1)), (.int (-1)), (.int (-1)), (.int (-1)), (.int (-1)), (.int (-1)), (.int 0), (.int (-1)), (.int 0), (.int 0), (.int 0), (.int 0), (.int 0), (.int 0), (.int 0)] (.int 0) := Arv.set Ar58 qk58 Sz58 Ng58 Ha58 Gf58 rfl W59 28 rfl (Nat.le_of_ble_eq_true rfl)
  clear hin58 Gf58 Ha58 Ng58 Sz58 qk58 Ar58 cl58
  refine oS (fun t k => st59 t k) ?_
  try clear st59 X57 e57
  try clear T57
  refine oS (fun t k => XS.dup X59.here hx rfl (hb hby at_163) rfl rfl k) ?_
  show oG _ _ _ _ _ _ _ (T59.setTop (mkF m 164 #[.val (.int p1), .val (.int p2), .val (.int p3), .val (.int (p1 &&& (3 : Int32))), .val (.int ((p2 &&& (2147483647 : Int32)) % (3 : Int32))), .val (.int ((p3 &&& (2147483647 : Int32)) % (3 : Int32))), .unset, .unset, .unset, .unset] [(.ref b1), (.ref b1)]))
  refine oS (fun t k => oBp lb_29 X59.here hx rfl (hb hby at_164) k) ?_
  refine oS (fun t k => oIc li_m1 X59.here hx rfl (hb hby at_166) k) ?_
  obtain ⟨cl60, Ar60, qk60, Sz60, Ng60, Ha60, Gf60⟩ := id V59
  have hin60 : ¬ ((29 : Int32) < 0 ∨ cl60.slots.size ≤ ((29 : Int32)).toNatClampNeg) := inb_of Sz60 ⟨by decide, by decide⟩
  obtain ⟨T61, h61, X61, e61, W61, st61⟩ := stI X59 hx hZ e59 Ar60 (j := (29 : Int32)) hin60 (g := (mkF m 167 #[.val (.int p1), .val (.int p2), .val (.int p3), .val (.int (p1 &&& (3 : Int32))), .val (.int ((p2 &&& (2147483647 : Int32)) % (3 : Int32))), .val (.int ((p3 &&& (2147483647 : Int32)) % (3 : Int32))), .unset, .unset, .unset, .unset] [(.int (-1)), (.int 29), (.ref b1), (.ref b1)])) rfl rfl (hb hby at_167)
  have O61 := O59.wr W61 gx1
  have N61 := Fr.snoc X61 N59 gx1
  have V61 : Arv Z h61 b1 k1 .int (36 : Int32) [(.int 0), (.int 1), (.int (-1)), (.int 1), (.int (-1)), (.int (-1)), (.int (-1)), (.int (-1)), (.int (-1)), (.int 0), (.int (-1)), (.int (-1)), (.int 1), (.int 0), (.int (-1)), (.int (-1)), (.int (-1)), (.int (-1)), (.int 0), (.int (-1)), (.int (-1)), (.int (-1)), (.int (-1)), (.int (-1)), (.int (-1)), (.int (-1)), (.int (-1)), (.int 0), (.int (-1)), (.int (-1)), (.int 0), (.int 0), (.int 0), (.int 0), (.int 0), (.int 0)] (.int 0) := Arv.set Ar60 qk60 Sz60 Ng60 Ha60 Gf60 rfl W61 29 rfl (Nat.le_of_ble_eq_true rfl)
  clear hin60 Gf60 Ha60 Ng60 Sz60 qk60 Ar60 cl60
  refine oS (fun t k => st61 t k) ?_
  try clear st61 X59 e59
  try clear T59
  refine oS (fun t k => XS.dup X61.here hx rfl (hb hby at_168) rfl rfl k) ?_
  refine oS (fun t k => oBp lb_30 X61.here hx rfl (hb hby at_169) k) ?_
  show oG _ _ _ _ _ _ _ (T61.setTop (mkF m 171 #[.val (.int p1), .val (.int p2), .val (.int p3), .val (.int (p1 &&& (3 : Int32))), .val (.int ((p2 &&& (2147483647 : Int32)) % (3 : Int32))), .val (.int ((p3 &&& (2147483647 : Int32)) % (3 : Int32))), .unset, .unset, .unset, .unset] [(.int 30), (.ref b1), (.ref b1)]))
  refine oS (fun t k => oIc li_m1 X61.here hx rfl (hb hby at_171) k) ?_
  obtain ⟨cl62, Ar62, qk62, Sz62, Ng62, Ha62, Gf62⟩ := id V61
  have hin62 : ¬ ((30 : Int32) < 0 ∨ cl62.slots.size ≤ ((30 : Int32)).toNatClampNeg) := inb_of Sz62 ⟨by decide, by decide⟩
  obtain ⟨T63, h63, X63, e63, W63, st63⟩ := stI X61 hx hZ e61 Ar62 (j := (30 : Int32)) hin62 (g := (mkF m 172 #[.val (.int p1), .val (.int p2), .val (.int p3), .val (.int (p1 &&& (3 : Int32))), .val (.int ((p2 &&& (2147483647 : Int32)) % (3 : Int32))), .val (.int ((p3 &&& (2147483647 : Int32)) % (3 : Int32))), .unset, .unset, .unset, .unset] [(.int (-1)), (.int 30), (.ref b1), (.ref b1)])) rfl rfl (hb hby at_172)
  have O63 := O61.wr W63 gx1
  have N63 := Fr.snoc X63 N61 gx1
  have V63 : Arv Z h63 b1 k1 .int (36 : Int32) [(.int 0), (.int 1), (.int (-1)), (.int 1), (.int (-1)), (.int (-1)), (.int (-1)), (.int (-1)), (.int (-1)), (.int 0), (.int (-1)), (.int (-1)), (.int 1), (.int 0), (.int (-1)), (.int (-1)), (.int (-1)), (.int (-1)), (.int 0), (.int (-1)), (.int (-1)), (.int (-1)), (.int (-1)), (.int (-1)), (.int (-1)), (.int (-1)), (.int (-1)), (.int 0), (.int (-1)), (.int (-1)), (.int (-1)), (.int 0), (.int 0), (.int 0), (.int 0), (.int 0)] (.int 0) := Arv.set Ar62 qk62 Sz62 Ng62 Ha62 Gf62 rfl W63 30 rfl (Nat.le_of_ble_eq_true rfl)
  clear hin62 Gf62 Ha62 Ng62 Sz62 qk62 Ar62 cl62
  refine oS (fun t k => st63 t k) ?_
  try clear st63 X61 e61
  try clear T61
  refine oS (fun t k => XS.dup X63.here hx rfl (hb hby at_173) rfl rfl k) ?_
  refine oS (fun t k => oBp lb_31 X63.here hx rfl (hb hby at_174) k) ?_
  refine oS (fun t k => oIc li_m1 X63.here hx rfl (hb hby at_176) k) ?_
  show oG _ _ _ _ _ _ _ (T63.setTop (mkF m 177 #[.val (.int p1), .val (.int p2), .val (.int p3), .val (.int (p1 &&& (3 : Int32))), .val (.int ((p2 &&& (2147483647 : Int32)) % (3 : Int32))), .val (.int ((p3 &&& (2147483647 : Int32)) % (3 : Int32))), .unset, .unset, .unset, .unset] [(.int (-1)), (.int 31), (.ref b1), (.ref b1)]))
  obtain ⟨cl64, Ar64, qk64, Sz64, Ng64, Ha64, Gf64⟩ := id V63
  have hin64 : ¬ ((31 : Int32) < 0 ∨ cl64.slots.size ≤ ((31 : Int32)).toNatClampNeg) := inb_of Sz64 ⟨by decide, by decide⟩
  obtain ⟨T65, h65, X65, e65, W65, st65⟩ := stI X63 hx hZ e63 Ar64 (j := (31 : Int32)) hin64 (g := (mkF m 177 #[.val (.int p1), .val (.int p2), .val (.int p3), .val (.int (p1 &&& (3 : Int32))), .val (.int ((p2 &&& (2147483647 : Int32)) % (3 : Int32))), .val (.int ((p3 &&& (2147483647 : Int32)) % (3 : Int32))), .unset, .unset, .unset, .unset] [(.int (-1)), (.int 31), (.ref b1), (.ref b1)])) rfl rfl (hb hby at_177)
  have O65 := O63.wr W65 gx1
  have N65 := Fr.snoc X65 N63 gx1
  have V65 : Arv Z h65 b1 k1 .int (36 : Int32) [(.int 0), (.int 1), (.int (-1)), (.int 1), (.int (-1)), (.int (-1)), (.int (-1)), (.int (-1)), (.int (-1)), (.int 0), (.int (-1)), (.int (-1)), (.int 1), (.int 0), (.int (-1)), (.int (-1)), (.int (-1)), (.int (-1)), (.int 0), (.int (-1)), (.int (-1)), (.int (-1)), (.int (-1)), (.int (-1)), (.int (-1)), (.int (-1)), (.int (-1)), (.int 0), (.int (-1)), (.int (-1)), (.int (-1)), (.int (-1)), (.int 0), (.int 0), (.int 0), (.int 0)] (.int 0) := Arv.set Ar64 qk64 Sz64 Ng64 Ha64 Gf64 rfl W65 31 rfl (Nat.le_of_ble_eq_true rfl)
  clear hin64 Gf64 Ha64 Ng64 Sz64 qk64 Ar64 cl64
  refine oS (fun t k => st65 t k) ?_
  try clear st65 X63 e63
  try clear T63
  refine oS (fun t k => XS.dup X65.here hx rfl (hb hby at_178) rfl rfl k) ?_
  refine oS (fun t k => oBp lb_32 X65.here hx rfl (hb hby at_179) k) ?_
  refine oS (fun t k => oIc li_m1 X65.here hx rfl (hb hby at_181) k) ?_
  obtain ⟨cl66, Ar66, qk66, Sz66, Ng66, Ha66, Gf66⟩ := id V65
  have hin66 : ¬ ((32 : Int32) < 0 ∨ cl66.slots.size ≤ ((32 : Int32)).toNatClampNeg) := inb_of Sz66 ⟨by decide, by decide⟩
  obtain ⟨T67, h67, X67, e67, W67, st67⟩ := stI X65 hx hZ e65 Ar66 (j := (32 : Int32)) hin66 (g := (mkF m 182 #[.val (.int p1), .val (.int p2), .val (.int p3), .val (.int (p1 &&& (3 : Int32))), .val (.int ((p2 &&& (2147483647 : Int32)) % (3 : Int32))), .val (.int ((p3 &&& (2147483647 : Int32)) % (3 : Int32))), .unset, .unset, .unset, .unset] [(.int (-1)), (.int 32), (.ref b1), (.ref b1)])) rfl rfl (hb hby at_182)
  have O67 := O65.wr W67 gx1
  have N67 := Fr.snoc X67 N65 gx1
  have V67 : Arv Z h67 b1 k1 .int (36 : Int32) [(.int 0), (.int 1), (.int (-1)), (.int 1), (.int (-1)), (.int (-1)), (.int (-1)), (.int (-1)), (.int (-1)), (.int 0), (.int (-1)), (.int (-1)), (.int 1), (.int 0), (.int (-1)), (.int (-1)), (.int (-1)), (.int (-1)), (.int 0), (.int (-1)), (.int (-1)), (.int (-1)), (.int (-1)), (.int (-1)), (.int (-1)), (.int (-1)), (.int (-1)), (.int 0), (.int (-1)), (.int (-1)), (.int (-1)), (.int (-1)), (.int (-1)), (.int 0), (.int 0), (.int 0)] (.int 0) := Arv.set Ar66 qk66 Sz66 Ng66 Ha66 Gf66 rfl W67 32 rfl (Nat.le_of_ble_eq_true rfl)
  clear hin66 Gf66 Ha66 Ng66 Sz66 qk66 Ar66 cl66
  refine oS (fun t k => st67 t k) ?_
  show oG _ _ _ _ _ _ _ (T67.setTop (mkF m 183 #[.val (.int p1), .val (.int p2), .val (.int p3), .val (.int (p1 &&& (3 : Int32))), .val (.int ((p2 &&& (2147483647 : Int32)) % (3 : Int32))), .val (.int ((p3 &&& (2147483647 : Int32)) % (3 : Int32))), .unset, .unset, .unset, .unset] [(.ref b1)]))
  try clear st67 X65 e65
  try clear T65
  refine oS (fun t k => XS.dup X67.here hx rfl (hb hby at_183) rfl rfl k) ?_
  refine oS (fun t k => oBp lb_33 X67.here hx rfl (hb hby at_184) k) ?_
  refine oS (fun t k => oIc li_m1 X67.here hx rfl (hb hby at_186) k) ?_
  obtain ⟨cl68, Ar68, qk68, Sz68, Ng68, Ha68, Gf68⟩ := id V67
  have hin68 : ¬ ((33 : Int32) < 0 ∨ cl68.slots.size ≤ ((33 : Int32)).toNatClampNeg) := inb_of Sz68 ⟨by decide, by decide⟩
  obtain ⟨T69, h69, X69, e69, W69, st69⟩ := stI X67 hx hZ e67 Ar68 (j := (33 : Int32)) hin68 (g := (mkF m 187 #[.val (.int p1), .val (.int p2), .val (.int p3), .val (.int (p1 &&& (3 : Int32))), .val (.int ((p2 &&& (2147483647 : Int32)) % (3 : Int32))), .val (.int ((p3 &&& (2147483647 : Int32)) % (3 : Int32))), .unset, .unset, .unset, .unset] [(.int (-1)), (.int 33), (.ref b1), (.ref b1)])) rfl rfl (hb hby at_187)
  have O69 := O67.wr W69 gx1
  have N69 := Fr.snoc X69 N67 gx1
  have V69 : Arv Z h69 b1 k1 .int (36 : Int32) [(.int 0), (.int 1), (.int (-1)), (.int 1), (.int (-1)), (.int (-1)), (.int (-1)), (.int (-1)), (.int (-1)), (.int 0), (.int (-1)), (.int (-1)), (.int 1), (.int 0), (.int (-1)), (.int (-1)), (.int (-1)), (.int (-1)), (.int 0), (.int (-1)), (.int (-1)), (.int (-1)), (.int (-1)), (.int (-1)), (.int (-1)), (.int (-1)), (.int (-1)), (.int 0), (.int (-1)), (.int (-1)), (.int (-1)), (.int (-1)), (.int (-1)), (.int (-1)), (.int 0), (.int 0)] (.int 0) := Arv.set Ar68 qk68 Sz68 Ng68 Ha68 Gf68 rfl W69 33 rfl (Nat.le_of_ble_eq_true rfl)
  clear hin68 Gf68 Ha68 Ng68 Sz68 qk68 Ar68 cl68
  refine oS (fun t k => st69 t k) ?_
  try clear st69 X67 e67
  try clear T67
  refine oS (fun t k => XS.dup X69.here hx rfl (hb hby at_188) rfl rfl k) ?_
  show oG _ _ _ _ _ _ _ (T69.setTop (mkF m 189 #[.val (.int p1), .val (.int p2), .val (.int p3), .val (.int (p1 &&& (3 : Int32))), .val (.int ((p2 &&& (2147483647 : Int32)) % (3 : Int32))), .val (.int ((p3 &&& (2147483647 : Int32)) % (3 : Int32))), .unset, .unset, .unset, .unset] [(.ref b1), (.ref b1)]))
  refine oS (fun t k => oBp lb_34 X69.here hx rfl (hb hby at_189) k) ?_
  refine oS (fun t k => oIc li_m1 X69.here hx rfl (hb hby at_191) k) ?_
  obtain ⟨cl70, Ar70, qk70, Sz70, Ng70, Ha70, Gf70⟩ := id V69
  have hin70 : ¬ ((34 : Int32) < 0 ∨ cl70.slots.size ≤ ((34 : Int32)).toNatClampNeg) := inb_of Sz70 ⟨by decide, by decide⟩
  obtain ⟨T71, h71, X71, e71, W71, st71⟩ := stI X69 hx hZ e69 Ar70 (j := (34 : Int32)) hin70 (g := (mkF m 192 #[.val (.int p1), .val (.int p2), .val (.int p3), .val (.int (p1 &&& (3 : Int32))), .val (.int ((p2 &&& (2147483647 : Int32)) % (3 : Int32))), .val (.int ((p3 &&& (2147483647 : Int32)) % (3 : Int32))), .unset, .unset, .unset, .unset] [(.int (-1)), (.int 34), (.ref b1), (.ref b1)])) rfl rfl (hb hby at_192)
  have O71 := O69.wr W71 gx1
  have N71 := Fr.snoc X71 N69 gx1
  have V71 : Arv Z h71 b1 k1 .int (36 : Int32) [(.int 0), (.int 1), (.int (-1)), (.int 1), (.int (-1)), (.int (-1)), (.int (-1)), (.int (-1)), (.int (-1)), (.int 0), (.int (-1)), (.int (-1)), (.int 1), (.int 0), (.int (-1)), (.int (-1)), (.int (-1)), (.int (-1)), (.int 0), (.int (-1)), (.int (-1)), (.int (-1)), (.int (-1)), (.int (-1)), (.int (-1)), (.int (-1)), (.int (-1)), (.int 0), (.int (-1)), (.int (-1)), (.int (-1)), (.int (-1)), (.int (-1)), (.int (-1)), (.int (-1)), (.int 0)] (.int 0) := Arv.set Ar70 qk70 Sz70 Ng70 Ha70 Gf70 rfl W71 34 rfl (Nat.le_of_ble_eq_true rfl)
  clear hin70 Gf70 Ha70 Ng70 Sz70 qk70 Ar70 cl70
  refine oS (fun t k => st71 t k) ?_
  try clear st71 X69 e69
  try clear T69
  refine oS (fun t k => XS.dup X71.here hx rfl (hb hby at_193) rfl rfl k) ?_
  refine oS (fun t k => oBp lb_35 X71.here hx rfl (hb hby at_194) k) ?_
  show oG _ _ _ _ _ _ _ (T71.setTop (mkF m 196 #[.val (.int p1), .val (.int p2), .val (.int p3), .val (.int (p1 &&& (3 : Int32))), .val (.int ((p2 &&& (2147483647 : Int32)) % (3 : Int32))), .val (.int ((p3 &&& (2147483647 : Int32)) % (3 : Int32))), .unset, .unset, .unset, .unset] [(.int 35), (.ref b1), (.ref b1)]))
  refine oS (fun t k => oIc li_m1 X71.here hx rfl (hb hby at_196) k) ?_
  obtain ⟨cl72, Ar72, qk72, Sz72, Ng72, Ha72, Gf72⟩ := id V71
  have hin72 : ¬ ((35 : Int32) < 0 ∨ cl72.slots.size ≤ ((35 : Int32)).toNatClampNeg) := inb_of Sz72 ⟨by decide, by decide⟩
  obtain ⟨T73, h73, X73, e73, W73, st73⟩ := stI X71 hx hZ e71 Ar72 (j := (35 : Int32)) hin72 (g := (mkF m 197 #[.val (.int p1), .val (.int p2), .val (.int p3), .val (.int (p1 &&& (3 : Int32))), .val (.int ((p2 &&& (2147483647 : Int32)) % (3 : Int32))), .val (.int ((p3 &&& (2147483647 : Int32)) % (3 : Int32))), .unset, .unset, .unset, .unset] [(.int (-1)), (.int 35), (.ref b1), (.ref b1)])) rfl rfl (hb hby at_197)
  have O73 := O71.wr W73 gx1
  have N73 := Fr.snoc X73 N71 gx1
  have V73 : Arv Z h73 b1 k1 .int (36 : Int32) [(.int 0), (.int 1), (.int (-1)), (.int 1), (.int (-1)), (.int (-1)), (.int (-1)), (.int (-1)), (.int (-1)), (.int 0), (.int (-1)), (.int (-1)), (.int 1), (.int 0), (.int (-1)), (.int (-1)), (.int (-1)), (.int (-1)), (.int 0), (.int (-1)), (.int (-1)), (.int (-1)), (.int (-1)), (.int (-1)), (.int (-1)), (.int (-1)), (.int (-1)), (.int 0), (.int (-1)), (.int (-1)), (.int (-1)), (.int (-1)), (.int (-1)), (.int (-1)), (.int (-1)), (.int (-1))] (.int 0) := Arv.set Ar72 qk72 Sz72 Ng72 Ha72 Gf72 rfl W73 35 rfl (Nat.le_of_ble_eq_true rfl)
  clear hin72 Gf72 Ha72 Ng72 Sz72 qk72 Ar72 cl72
  refine oS (fun t k => st73 t k) ?_
  try clear st73 X71 e71
  try clear T71
  refine oS (fun t k => XS.astore X73.here hx rfl (hb hby at_198) rfl rfl (l' := #[.val (.int p1), .val (.int p2), .val (.int p3), .val (.int (p1 &&& (3 : Int32))), .val (.int ((p2 &&& (2147483647 : Int32)) % (3 : Int32))), .val (.int ((p3 &&& (2147483647 : Int32)) % (3 : Int32))), .val (.ref b1), .unset, .unset, .unset]) rfl k) ?_
  show oG _ _ _ _ _ _ _ (T73.setTop (mkF m 200 #[.val (.int p1), .val (.int p2), .val (.int p3), .val (.int (p1 &&& (3 : Int32))), .val (.int ((p2 &&& (2147483647 : Int32)) % (3 : Int32))), .val (.int ((p3 &&& (2147483647 : Int32)) % (3 : Int32))), .val (.ref b1), .unset, .unset, .unset] []))
  rcases own_four p1 with hs74 | hs74 | hs74 | hs74
  · rw [hs74]
    show oG _ _ _ _ _ _ _ (T73.setTop (mkF m 200 #[.val (.int p1), .val (.int p2), .val (.int p3), .val (.int 0), .val (.int ((p2 &&& (2147483647 : Int32)) % (3 : Int32))), .val (.int ((p3 &&& (2147483647 : Int32)) % (3 : Int32))), .val (.ref b1), .unset, .unset, .unset] []))
    show oG _ _ _ _ _ _ _ (T73.setTop (mkF m 200 #[.val (.int p1), .val (.int p2), .val (.int p3), .val (.int 0), .val (.int ((p2 &&& (2147483647 : Int32)) % (3 : Int32))), .val (.int ((p3 &&& (2147483647 : Int32)) % (3 : Int32))), .val (.ref b1), .unset, .unset, .unset] []))
    rcases own_three p2 with hs75 | hs75 | hs75
    · rw [hs75]
      show oG _ _ _ _ _ _ _ (T73.setTop (mkF m 200 #[.val (.int p1), .val (.int p2), .val (.int p3), .val (.int 0), .val (.int 0), .val (.int ((p3 &&& (2147483647 : Int32)) % (3 : Int32))), .val (.ref b1), .unset, .unset, .unset] []))
      show oG _ _ _ _ _ _ _ (T73.setTop (mkF m 200 #[.val (.int p1), .val (.int p2), .val (.int p3), .val (.int 0), .val (.int 0), .val (.int ((p3 &&& (2147483647 : Int32)) % (3 : Int32))), .val (.ref b1), .unset, .unset, .unset] []))
      rcases own_three p3 with hs76 | hs76 | hs76
      · rw [hs76]
        show oG _ _ _ _ _ _ _ (T73.setTop (mkF m 200 #[.val (.int p1), .val (.int p2), .val (.int p3), .val (.int 0), .val (.int 0), .val (.int 0), .val (.ref b1), .unset, .unset, .unset] []))
        refine oS (fun t k => XS.aload X73.here hx rfl (hb hby at_200) rfl rfl k) ?_
        refine oS (fun t k => XS.iloadN X73.here hx rfl (hb hby at_202) rfl k) ?_
        show oG _ _ _ _ _ _ _ (T73.setTop (mkF m 203 #[.val (.int p1), .val (.int p2), .val (.int p3), .val (.int 0), .val (.int 0), .val (.int 0), .val (.ref b1), .unset, .unset, .unset] [(.int 0), (.ref b1)]))
        refine oS (fun t k => oBp lb_9 X73.here hx rfl (hb hby at_203) k) ?_
        refine oS (S' := (T73.setTop (mkF m 206 #[.val (.int p1), .val (.int p2), .val (.int p3), .val (.int 0), .val (.int 0), .val (.int 0), .val (.ref b1), .unset, .unset, .unset] [(.int 0), (.ref b1)]))) (fun t k => XS.imul X73.here hx rfl (hb hby at_205) rfl (by rw [show (0 : Int32) * (9 : Int32) = (0 : Int32) from by decide]; exact k)) ?_
        refine oS (fun t k => XS.iload X73.here hx rfl (hb hby at_206) rfl k) ?_
        refine oS (fun t k => oIc li_3 X73.here hx rfl (hb hby at_208) k) ?_
        refine oS (S' := (T73.setTop (mkF m 210 #[.val (.int p1), .val (.int p2), .val (.int p3), .val (.int 0), .val (.int 0), .val (.int 0), .val (.ref b1), .unset, .unset, .unset] [(.int 0), (.int 0), (.ref b1)]))) (fun t k => XS.imul X73.here hx rfl (hb hby at_209) rfl (by rw [show (0 : Int32) * (3 : Int32) = (0 : Int32) from by decide]; exact k)) ?_
        refine oS (S' := (T73.setTop (mkF m 211 #[.val (.int p1), .val (.int p2), .val (.int p3), .val (.int 0), .val (.int 0), .val (.int 0), .val (.ref b1), .unset, .unset, .unset] [(.int 0), (.ref b1)]))) (fun t k => XS.iadd X73.here hx rfl (hb hby at_210) rfl (by rw [show (0 : Int32) + (0 : Int32) = (0 : Int32) from by decide]; exact k)) ?_
        refine oS (fun t k => XS.iload X73.here hx rfl (hb hby at_211) rfl k) ?_
        refine oS (S' := (T73.setTop (mkF m 214 #[.val (.int p1), .val (.int p2), .val (.int p3), .val (.int 0), .val (.int 0), .val (.int 0), .val (.ref b1), .unset, .unset, .unset] [(.int 0), (.ref b1)]))) (fun t k => XS.iadd X73.here hx rfl (hb hby at_213) rfl (by rw [show (0 : Int32) + (0 : Int32) = (0 : Int32) from by decide]; exact k)) ?_
        obtain ⟨cl77, Ar77, qk77, Sz77, Ng77, Ha77, Gf77⟩ := id V73
        have hin77 : ¬ ((0 : Int32) < 0 ∨ cl77.slots.size ≤ ((0 : Int32)).toNatClampNeg) := (inb_of Sz77 ⟨by decide, by decide⟩)
        have hat77 : cl77.slots[((0 : Int32)).toNatClampNeg]? = some (.int 0) := Ha77.at hin77 rfl
        refine oS (fun t k => X73.iaload hx (j := (0 : Int32)) (v := (.int 0)) (by rw [e73]; exact Ar77.1) (State.isArrayOf_alike hZ.alike Ar77.2.1) Ar77.2.2 hin77 hat77 (g := (mkF m 214 #[.val (.int p1), .val (.int p2), .val (.int p3), .val (.int 0), .val (.int 0), .val (.int 0), .val (.ref b1), .unset, .unset, .unset] [(.int 0), (.ref b1)])) rfl rfl (hb hby at_214) t k) ?_
        refine oS (fun t k => XS.istore X73.here hx rfl (hb hby at_215) rfl (l' := #[.val (.int p1), .val (.int p2), .val (.int p3), .val (.int 0), .val (.int 0), .val (.int 0), .val (.ref b1), .val (.int 0), .unset, .unset]) rfl k) ?_
        show oG _ _ _ _ _ _ _ (T73.setTop (mkF m 217 #[.val (.int p1), .val (.int p2), .val (.int p3), .val (.int 0), .val (.int 0), .val (.int 0), .val (.ref b1), .val (.int 0), .unset, .unset] []))
        refine oS (fun t k => XS.iload X73.here hx rfl (hb hby at_217) rfl k) ?_
        refine oS (fun t k => XS.ifYes X73.here hx rfl (pc0 := 219) (pc' := 226) rfl (hb hby at_219) rfl ((if0 _ _).trans (flt (by decide)).2.1) (by decide) (by decide) k) ?_
        refine oS (fun t k => XS.iload X73.here hx rfl (hb hby at_226) rfl k) ?_
        obtain ⟨_, _, ⟨T78, L78, k78, n78⟩, -, X78, ⟨Lc78, hQ78, l78, y78, z78⟩, st78⟩ := Jvm.LawKit.callS X73 hx (y := mY2) hown (mvT hZ (oW hw 9 rfl)) (mvT hZ (oW hw 10 rfl)) (mvT hZ (oW hw 4 rfl)) (mvT hZ (oW hw 11 rfl)) (by decide) (backOf (W := 0) (rm_vt_0 l Z a0 hw []  w h73 n0 O73 W ) hZ (oW hw 11 rfl) (oW hw 4 rfl) (by decide) (by decide)) (g := (mkF m 228 #[.val (.int p1), .val (.int p2), .val (.int p3), .val (.int 0), .val (.int 0), .val (.int 0), .val (.ref b1), .val (.int 0), .unset, .unset] [(.int 0)])) rfl (by rw [hml]; rfl) (argsL := [(.int 0)]) (rest := []) (lenOf pd_4 rfl) rfl (by show 2 * 0 + _ ≤ _; exact Nat.le_of_eq rfl) (hb hby at_228) (fun _ _ => ⟨rfl, e73, (by decide : 1 + 0 ≤ _), (by decide : 36 + 0 ≤ _)⟩)
        dsimp only [Pt.U, Pt.locs, Pt.cells, Pt.slots] at X78 l78 y78 z78 st78 hQ78
        rw [l78, y78, z78] at X78
        clear l78 y78 z78
        obtain ⟨rfl, Nq78, e78⟩ := hQ78
        have N78 := Fr.app N73 Nq78
        refine oS (fun t k => st78 t k) ?_
        show oG _ _ _ _ _ _ _ (T78.setTop (mkF m 231 #[.val (.int p1), .val (.int p2), .val (.int p3), .val (.int 0), .val (.int 0), .val (.int 0), .val (.ref b1), .val (.int 0), .unset, .unset] [(.ref (w 1))]))
        try clear st78 X73 e73
        try clear T73
        refine oS (fun t k => XS.astore X78.here hx rfl (hb hby at_231) rfl rfl (l' := #[.val (.int p1), .val (.int p2), .val (.int p3), .val (.int 0), .val (.int 0), .val (.int 0), .val (.ref b1), .val (.int 0), .val (.ref (w 1)), .unset]) rfl k) ?_
        refine oS (fun t k => XS.iloadN X78.here hx rfl (hb hby at_233) rfl k) ?_
        obtain ⟨_, _, ⟨T79, L79, k79, n79⟩, -, X79, ⟨Lc79, hQ79, l79, y79, z79⟩, st79⟩ := Jvm.LawKit.callS X78 hx (y := mY0) hown (mvT hZ (oW hw 2 rfl)) (mvT hZ (oW hw 3 rfl)) (mvT hZ (oW hw 4 rfl)) (mvT hZ (oW hw 5 rfl)) (by decide) (backOf (W := 0) (rm_op_0 l Z a0 hw []  w h73 n0 O73 W ) hZ (oW hw 5 rfl) (oW hw 4 rfl) (by decide) (by decide)) (g := (mkF m 234 #[.val (.int p1), .val (.int p2), .val (.int p3), .val (.int 0), .val (.int 0), .val (.int 0), .val (.ref b1), .val (.int 0), .val (.ref (w 1)), .unset] [(.int 0)])) rfl (by rw [hml]; rfl) (argsL := [(.int 0)]) (rest := []) (lenOf pd_5 rfl) rfl (by show 2 * 0 + _ ≤ _; exact Nat.le_of_eq rfl) (hb hby at_234) (fun _ _ => ⟨rfl, e78, (by decide : 1 + 0 ≤ _), (by decide : 36 + 0 ≤ _)⟩)
        dsimp only [Pt.U, Pt.locs, Pt.cells, Pt.slots] at X79 l79 y79 z79 st79 hQ79
        rw [l79, y79, z79] at X79
        clear l79 y79 z79
        obtain ⟨rfl, Nq79, e79⟩ := hQ79
        have N79 := Fr.app N78 Nq79
        refine oS (fun t k => st79 t k) ?_
        show oG _ _ _ _ _ _ _ (T79.setTop (mkF m 237 #[.val (.int p1), .val (.int p2), .val (.int p3), .val (.int 0), .val (.int 0), .val (.int 0), .val (.ref b1), .val (.int 0), .val (.ref (w 1)), .unset] [(.ref (w 0))]))
        try clear st79 X78 e78
        refine oS (fun t k => XS.iload X79.here hx rfl (hb hby at_237) rfl k) ?_
        obtain ⟨_, _, ⟨T80, L80, k80, n80⟩, -, X80, ⟨Lc80, hQ80, l80, y80, z80⟩, st80⟩ := Jvm.LawKit.callS X79 hx (y := mY2) hown (mvT hZ (oW hw 9 rfl)) (mvT hZ (oW hw 10 rfl)) (mvT hZ (oW hw 4 rfl)) (mvT hZ (oW hw 11 rfl)) (by decide) (backOf (W := 1) (rm_vt_0 l Z a0 hw []  w h73 n0 O73 W ) hZ (oW hw 11 rfl) (oW hw 4 rfl) (by decide) (by decide)) (g := (mkF m 239 #[.val (.int p1), .val (.int p2), .val (.int p3), .val (.int 0), .val (.int 0), .val (.int 0), .val (.ref b1), .val (.int 0), .val (.ref (w 1)), .unset] [(.int 0), (.ref (w 0))])) rfl (by rw [hml]; rfl) (argsL := [(.int 0)]) (rest := [(.ref (w 0))]) (lenOf pd_4 rfl) rfl (by show 2 * 0 + _ ≤ _; exact Nat.le_of_eq rfl) (hb hby at_239) (fun _ _ => ⟨rfl, e79, (by decide : 1 + 0 ≤ _), (by decide : 36 + 0 ≤ _)⟩)
        dsimp only [Pt.U, Pt.locs, Pt.cells, Pt.slots] at X80 l80 y80 z80 st80 hQ80
        rw [l80, y80, z80] at X80
        clear l80 y80 z80
        obtain ⟨rfl, Nq80, e80⟩ := hQ80
        have N80 := Fr.app N79 Nq80
        refine oS (fun t k => st80 t k) ?_
        show oG _ _ _ _ _ _ _ (T80.setTop (mkF m 242 #[.val (.int p1), .val (.int p2), .val (.int p3), .val (.int 0), .val (.int 0), .val (.int 0), .val (.ref b1), .val (.int 0), .val (.ref (w 1)), .unset] [(.ref (w 1)), (.ref (w 0))]))
        try clear st80 X79 e79
        refine oS (fun t k => XS.iload X80.here hx rfl (hb hby at_242) rfl k) ?_
        obtain ⟨_, _, ⟨T81, L81, k81, n81⟩, -, X81, ⟨Lc81, hQ81, l81, y81, z81⟩, st81⟩ := Jvm.LawKit.callS X80 hx (y := mY2) hown (mvT hZ (oW hw 9 rfl)) (mvT hZ (oW hw 10 rfl)) (mvT hZ (oW hw 4 rfl)) (mvT hZ (oW hw 11 rfl)) (by decide) (backOf (W := 2) (rm_vt_0 l Z a0 hw []  w h73 n0 O73 W ) hZ (oW hw 11 rfl) (oW hw 4 rfl) (by decide) (by decide)) (g := (mkF m 244 #[.val (.int p1), .val (.int p2), .val (.int p3), .val (.int 0), .val (.int 0), .val (.int 0), .val (.ref b1), .val (.int 0), .val (.ref (w 1)), .unset] [(.int 0), (.ref (w 1)), (.ref (w 0))])) rfl (by rw [hml]; rfl) (argsL := [(.int 0)]) (rest := [(.ref (w 1)), (.ref (w 0))]) (lenOf pd_4 rfl) rfl (by show 2 * 0 + _ ≤ _; exact Nat.le_of_eq rfl) (hb hby at_244) (fun _ _ => ⟨rfl, e80, (by decide : 1 + 0 ≤ _), (by decide : 36 + 0 ≤ _)⟩)
        dsimp only [Pt.U, Pt.locs, Pt.cells, Pt.slots] at X81 l81 y81 z81 st81 hQ81
        rw [l81, y81, z81] at X81
        clear l81 y81 z81
        obtain ⟨rfl, Nq81, e81⟩ := hQ81
        have N81 := Fr.app N80 Nq81
        refine oS (fun t k => st81 t k) ?_
        show oG _ _ _ _ _ _ _ (T81.setTop (mkF m 247 #[.val (.int p1), .val (.int p2), .val (.int p3), .val (.int 0), .val (.int 0), .val (.int 0), .val (.ref b1), .val (.int 0), .val (.ref (w 1)), .unset] [(.ref (w 1)), (.ref (w 1)), (.ref (w 0))]))
        try clear st81 X80 e80
        obtain ⟨cq82, kq82, q82a, q82b, q82c⟩ := isOf hZ e81 ((wE0 W).ext O73.2)
        obtain ⟨_, _, ⟨T82, L82, k82, n82⟩, -, X82, ⟨Lc82, hQ82, l82, y82, z82⟩, st82⟩ := X81.virtualBack hx (y := mY8) (z := mY8) hown (mvT hZ (oW hw 17 rfl)) (mvT hZ (oW hw 18 rfl)) (notFace_of_selects (args := #[]) (mvT hZ (oW hw 20 rfl))) (mvT hZ (oW hw 20 rfl)) (mvT hZ (oW hw 19 rfl)) (by decide) (backOf (W := 0) (rm_ty_000 l Z a0 hw []  w h73 n0 O73 W ) hZ (oW hw 21 rfl) (oW hw 7 rfl) (by decide) (by decide)) q82a q82c (g := (mkF m 247 #[.val (.int p1), .val (.int p2), .val (.int p3), .val (.int 0), .val (.int 0), .val (.int 0), .val (.ref b1), .val (.int 0), .val (.ref (w 1)), .unset] [(.ref (w 1)), (.ref (w 1)), (.ref (w 0))])) rfl (by rw [hml]; rfl) (Steps.refl _) (argsL := [(.ref (w 1)), (.ref (w 1))]) (rest := []) (lenOf pd_6 rfl) rfl (by show 2 * 0 + _ ≤ _; exact Nat.le_of_eq rfl) (hb hby at_247) (fun _ _ => ⟨rfl, e81, (by decide : 1 + 1 ≤ _), (by decide : 36 + 1 ≤ _)⟩)
        dsimp only [Pt.U, Pt.locs, Pt.cells, Pt.slots] at X82 l82 y82 z82 st82 hQ82
        rw [l82, y82, z82] at X82
        clear l82 y82 z82
        obtain ⟨r82, rfl, Nq82, K82, sr82, P82_0, P82_1⟩ := hQ82
        have N82 := Fr.app N81 Nq82
        have O82 := O73.keep K82 (fun x q => absurd q List.not_mem_nil)
        have gr82 : n0 ≤ r82 := Nat.le_trans (O73.1 ▸ O73.2.1) sr82
        have ne_b1_r82 : b1 ≠ r82 := Nat.ne_of_lt (Nat.lt_of_lt_of_le V73.lt sr82)
        refine oS (fun t k => st82.trans k) ?_
        show oG _ _ _ _ _ _ _ (T82.setTop (mkF m 250 #[.val (.int p1), .val (.int p2), .val (.int p3), .val (.int 0), .val (.int 0), .val (.int 0), .val (.ref b1), .val (.int 0), .val (.ref (w 1)), .unset] [(.ref r82)]))
        try clear st82 X81 e81
        refine oS (fun t k => XS.aconstNull X82.here hx rfl (hb hby at_250) k) ?_
        obtain ⟨cq83, kq83, q83a, q83b, q83c⟩ := isOf hZ rfl P82_0
        obtain ⟨_, _, ⟨T83, L83, k83, n83⟩, -, X83, ⟨Lc83, hQ83, l83, y83, z83⟩, st83⟩ := X82.virtualBack hx (y := mY7) (z := mY7) hown (mvT hZ (oW hw 39 rfl)) (mvT hZ (oW hw 40 rfl)) (notFace_of_selects (args := #[]) (mvT hZ (oW hw 42 rfl))) (mvT hZ (oW hw 42 rfl)) (mvT hZ (oW hw 41 rfl)) (by decide) (backOf (W := 0) (rm_oe l Z a0 hw [] r82 (w 1)  T82.heap n0 O82  P82_1) hZ (oW hw 43 rfl) (oW hw 36 rfl) (by decide) (by decide)) q83a q83c (g := (mkF m 251 #[.val (.int p1), .val (.int p2), .val (.int p3), .val (.int 0), .val (.int 0), .val (.int 0), .val (.ref b1), .val (.int 0), .val (.ref (w 1)), .unset] [.null, (.ref r82)])) rfl (by rw [hml]; rfl) (Steps.refl _) (argsL := [.null]) (rest := []) (lenOf pd_0 rfl) rfl (by show 2 * 0 + _ ≤ _; exact Nat.le_of_eq rfl) (hb hby at_251) (fun _ _ => ⟨rfl, rfl, (by decide : 2 + 0 ≤ _), (by decide : 37 + 0 ≤ _)⟩)
        dsimp only [Pt.U, Pt.locs, Pt.cells, Pt.slots] at X83 l83 y83 z83 st83 hQ83
        rw [l83, y83, z83] at X83
        clear l83 y83 z83
        obtain ⟨rfl, Nq83, e83⟩ := hQ83
        have N83 := Fr.app N82 Nq83
        refine oS (fun t k => st83.trans k) ?_
        show oG _ _ _ _ _ _ _ (T83.setTop (mkF m 254 #[.val (.int p1), .val (.int p2), .val (.int p3), .val (.int 0), .val (.int 0), .val (.int 0), .val (.ref b1), .val (.int 0), .val (.ref (w 1)), .unset] [(.ref (w 1))]))
        try clear st83 X82 e82
        obtain ⟨T84, X84, e84, st84⟩ := castY X83 hx hZ hown (oW hw 64 rfl) e83 (Ins.self ((wE1 W).ext O82.2)) (g := (mkF m 254 #[.val (.int p1), .val (.int p2), .val (.int p3), .val (.int 0), .val (.int 0), .val (.int 0), .val (.ref b1), .val (.int 0), .val (.ref (w 1)), .unset] [(.ref (w 1))])) rfl rfl (hb hby at_254)
        refine oS (fun t k => st84 t k) ?_
        try clear st84 X83 e83
        refine oS (fun t k => XS.astore X84.here hx rfl (hb hby at_257) rfl rfl (l' := #[.val (.int p1), .val (.int p2), .val (.int p3), .val (.int 0), .val (.int 0), .val (.int 0), .val (.ref b1), .val (.int 0), .val (.ref (w 1)), .val (.ref (w 1))]) rfl k) ?_
        refine oS (fun t k => XS.aload X84.here hx rfl (hb hby at_259) rfl rfl k) ?_
        refine oS (fun t k => XS.aload X84.here hx rfl (hb hby at_261) rfl rfl k) ?_
        refine oS (fun t k => Jvm.RoadKit.acmp (g := (mkF m 263 #[.val (.int p1), .val (.int p2), .val (.int p3), .val (.int 0), .val (.int 0), .val (.int 0), .val (.ref b1), .val (.int 0), .val (.ref (w 1)), .val (.ref (w 1))] [(.ref (w 1)), (.ref (w 1))])) X84 hx rfl rfl rfl (pc0 := 263) (pc' := 266) (same := true) rfl (hb hby at_263) rfl (decide_eq_true rfl) (by decide) (by decide) k) ?_
        show oG _ _ _ _ _ _ _ (T84.setTop (mkF m 266 #[.val (.int p1), .val (.int p2), .val (.int p3), .val (.int 0), .val (.int 0), .val (.int 0), .val (.ref b1), .val (.int 0), .val (.ref (w 1)), .val (.ref (w 1))] []))
        refine oS (fun t k => oIc li_1 X84.here hx rfl (hb hby at_266) k) ?_
        refine oS (fun t k => XS.goto X84.here hx rfl (pc0 := 267) (pc' := 271) rfl (hb hby at_267) (by decide) (by decide) k) ?_
        exact own_ret (v := some (.int 1)) X84 (fun h => by rw [Bd.returns] at h; cases h) Bd.notSynchronized (fun fs hr => retN X84 hx (t := .boolean) Bd.returns (by simp) (hb hby at_271) hr) (by rw [e84]; exact ⟨rfl, N83⟩) (by decide) (by decide)
      · rw [hs76]
        show oG _ _ _ _ _ _ _ (T73.setTop (mkF m 200 #[.val (.int p1), .val (.int p2), .val (.int p3), .val (.int 0), .val (.int 0), .val (.int 1), .val (.ref b1), .unset, .unset, .unset] []))
        refine oS (fun t k => XS.aload X73.here hx rfl (hb hby at_200) rfl rfl k) ?_
        refine oS (fun t k => XS.iloadN X73.here hx rfl (hb hby at_202) rfl k) ?_
        show oG _ _ _ _ _ _ _ (T73.setTop (mkF m 203 #[.val (.int p1), .val (.int p2), .val (.int p3), .val (.int 0), .val (.int 0), .val (.int 1), .val (.ref b1), .unset, .unset, .unset] [(.int 0), (.ref b1)]))
        refine oS (fun t k => oBp lb_9 X73.here hx rfl (hb hby at_203) k) ?_
        refine oS (S' := (T73.setTop (mkF m 206 #[.val (.int p1), .val (.int p2), .val (.int p3), .val (.int 0), .val (.int 0), .val (.int 1), .val (.ref b1), .unset, .unset, .unset] [(.int 0), (.ref b1)]))) (fun t k => XS.imul X73.here hx rfl (hb hby at_205) rfl (by rw [show (0 : Int32) * (9 : Int32) = (0 : Int32) from by decide]; exact k)) ?_
        refine oS (fun t k => XS.iload X73.here hx rfl (hb hby at_206) rfl k) ?_
        refine oS (fun t k => oIc li_3 X73.here hx rfl (hb hby at_208) k) ?_
        refine oS (S' := (T73.setTop (mkF m 210 #[.val (.int p1), .val (.int p2), .val (.int p3), .val (.int 0), .val (.int 0), .val (.int 1), .val (.ref b1), .unset, .unset, .unset] [(.int 0), (.int 0), (.ref b1)]))) (fun t k => XS.imul X73.here hx rfl (hb hby at_209) rfl (by rw [show (0 : Int32) * (3 : Int32) = (0 : Int32) from by decide]; exact k)) ?_
        refine oS (S' := (T73.setTop (mkF m 211 #[.val (.int p1), .val (.int p2), .val (.int p3), .val (.int 0), .val (.int 0), .val (.int 1), .val (.ref b1), .unset, .unset, .unset] [(.int 0), (.ref b1)]))) (fun t k => XS.iadd X73.here hx rfl (hb hby at_210) rfl (by rw [show (0 : Int32) + (0 : Int32) = (0 : Int32) from by decide]; exact k)) ?_
        refine oS (fun t k => XS.iload X73.here hx rfl (hb hby at_211) rfl k) ?_
        refine oS (S' := (T73.setTop (mkF m 214 #[.val (.int p1), .val (.int p2), .val (.int p3), .val (.int 0), .val (.int 0), .val (.int 1), .val (.ref b1), .unset, .unset, .unset] [(.int 1), (.ref b1)]))) (fun t k => XS.iadd X73.here hx rfl (hb hby at_213) rfl (by rw [show (0 : Int32) + (1 : Int32) = (1 : Int32) from by decide]; exact k)) ?_
        obtain ⟨cl85, Ar85, qk85, Sz85, Ng85, Ha85, Gf85⟩ := id V73
        have hin85 : ¬ ((1 : Int32) < 0 ∨ cl85.slots.size ≤ ((1 : Int32)).toNatClampNeg) := (inb_of Sz85 ⟨by decide, by decide⟩)
        have hat85 : cl85.slots[((1 : Int32)).toNatClampNeg]? = some (.int 1) := Ha85.at hin85 rfl
        refine oS (fun t k => X73.iaload hx (j := (1 : Int32)) (v := (.int 1)) (by rw [e73]; exact Ar85.1) (State.isArrayOf_alike hZ.alike Ar85.2.1) Ar85.2.2 hin85 hat85 (g := (mkF m 214 #[.val (.int p1), .val (.int p2), .val (.int p3), .val (.int 0), .val (.int 0), .val (.int 1), .val (.ref b1), .unset, .unset, .unset] [(.int 1), (.ref b1)])) rfl rfl (hb hby at_214) t k) ?_
        refine oS (fun t k => XS.istore X73.here hx rfl (hb hby at_215) rfl (l' := #[.val (.int p1), .val (.int p2), .val (.int p3), .val (.int 0), .val (.int 0), .val (.int 1), .val (.ref b1), .val (.int 1), .unset, .unset]) rfl k) ?_
        show oG _ _ _ _ _ _ _ (T73.setTop (mkF m 217 #[.val (.int p1), .val (.int p2), .val (.int p3), .val (.int 0), .val (.int 0), .val (.int 1), .val (.ref b1), .val (.int 1), .unset, .unset] []))
        refine oS (fun t k => XS.iload X73.here hx rfl (hb hby at_217) rfl k) ?_
        refine oS (fun t k => XS.ifYes X73.here hx rfl (pc0 := 219) (pc' := 226) rfl (hb hby at_219) rfl ((if0 _ _).trans (flt (by decide)).2.1) (by decide) (by decide) k) ?_
        refine oS (fun t k => XS.iload X73.here hx rfl (hb hby at_226) rfl k) ?_
        obtain ⟨_, _, ⟨T86, L86, k86, n86⟩, -, X86, ⟨Lc86, hQ86, l86, y86, z86⟩, st86⟩ := Jvm.LawKit.callS X73 hx (y := mY2) hown (mvT hZ (oW hw 9 rfl)) (mvT hZ (oW hw 10 rfl)) (mvT hZ (oW hw 4 rfl)) (mvT hZ (oW hw 11 rfl)) (by decide) (backOf (W := 0) (rm_vt_1 l Z a0 hw []  w h73 n0 O73 W ) hZ (oW hw 11 rfl) (oW hw 4 rfl) (by decide) (by decide)) (g := (mkF m 228 #[.val (.int p1), .val (.int p2), .val (.int p3), .val (.int 0), .val (.int 0), .val (.int 1), .val (.ref b1), .val (.int 1), .unset, .unset] [(.int 1)])) rfl (by rw [hml]; rfl) (argsL := [(.int 1)]) (rest := []) (lenOf pd_4 rfl) rfl (by show 2 * 0 + _ ≤ _; exact Nat.le_of_eq rfl) (hb hby at_228) (fun _ _ => ⟨rfl, e73, (by decide : 1 + 0 ≤ _), (by decide : 36 + 0 ≤ _)⟩)
        dsimp only [Pt.U, Pt.locs, Pt.cells, Pt.slots] at X86 l86 y86 z86 st86 hQ86
        rw [l86, y86, z86] at X86
        clear l86 y86 z86
        obtain ⟨rfl, Nq86, e86⟩ := hQ86
        have N86 := Fr.app N73 Nq86
        refine oS (fun t k => st86 t k) ?_
        show oG _ _ _ _ _ _ _ (T86.setTop (mkF m 231 #[.val (.int p1), .val (.int p2), .val (.int p3), .val (.int 0), .val (.int 0), .val (.int 1), .val (.ref b1), .val (.int 1), .unset, .unset] [(.ref (w 3))]))
        try clear st86 X73 e73
        try clear T73
        refine oS (fun t k => XS.astore X86.here hx rfl (hb hby at_231) rfl rfl (l' := #[.val (.int p1), .val (.int p2), .val (.int p3), .val (.int 0), .val (.int 0), .val (.int 1), .val (.ref b1), .val (.int 1), .val (.ref (w 3)), .unset]) rfl k) ?_
        refine oS (fun t k => XS.iloadN X86.here hx rfl (hb hby at_233) rfl k) ?_
        obtain ⟨_, _, ⟨T87, L87, k87, n87⟩, -, X87, ⟨Lc87, hQ87, l87, y87, z87⟩, st87⟩ := Jvm.LawKit.callS X86 hx (y := mY0) hown (mvT hZ (oW hw 2 rfl)) (mvT hZ (oW hw 3 rfl)) (mvT hZ (oW hw 4 rfl)) (mvT hZ (oW hw 5 rfl)) (by decide) (backOf (W := 0) (rm_op_0 l Z a0 hw []  w h73 n0 O73 W ) hZ (oW hw 5 rfl) (oW hw 4 rfl) (by decide) (by decide)) (g := (mkF m 234 #[.val (.int p1), .val (.int p2), .val (.int p3), .val (.int 0), .val (.int 0), .val (.int 1), .val (.ref b1), .val (.int 1), .val (.ref (w 3)), .unset] [(.int 0)])) rfl (by rw [hml]; rfl) (argsL := [(.int 0)]) (rest := []) (lenOf pd_5 rfl) rfl (by show 2 * 0 + _ ≤ _; exact Nat.le_of_eq rfl) (hb hby at_234) (fun _ _ => ⟨rfl, e86, (by decide : 1 + 0 ≤ _), (by decide : 36 + 0 ≤ _)⟩)
        dsimp only [Pt.U, Pt.locs, Pt.cells, Pt.slots] at X87 l87 y87 z87 st87 hQ87
        rw [l87, y87, z87] at X87
        clear l87 y87 z87
        obtain ⟨rfl, Nq87, e87⟩ := hQ87
        have N87 := Fr.app N86 Nq87
        refine oS (fun t k => st87 t k) ?_
        show oG _ _ _ _ _ _ _ (T87.setTop (mkF m 237 #[.val (.int p1), .val (.int p2), .val (.int p3), .val (.int 0), .val (.int 0), .val (.int 1), .val (.ref b1), .val (.int 1), .val (.ref (w 3)), .unset] [(.ref (w 0))]))
        try clear st87 X86 e86
        refine oS (fun t k => XS.iload X87.here hx rfl (hb hby at_237) rfl k) ?_
        obtain ⟨_, _, ⟨T88, L88, k88, n88⟩, -, X88, ⟨Lc88, hQ88, l88, y88, z88⟩, st88⟩ := Jvm.LawKit.callS X87 hx (y := mY2) hown (mvT hZ (oW hw 9 rfl)) (mvT hZ (oW hw 10 rfl)) (mvT hZ (oW hw 4 rfl)) (mvT hZ (oW hw 11 rfl)) (by decide) (backOf (W := 1) (rm_vt_0 l Z a0 hw []  w h73 n0 O73 W ) hZ (oW hw 11 rfl) (oW hw 4 rfl) (by decide) (by decide)) (g := (mkF m 239 #[.val (.int p1), .val (.int p2), .val (.int p3), .val (.int 0), .val (.int 0), .val (.int 1), .val (.ref b1), .val (.int 1), .val (.ref (w 3)), .unset] [(.int 0), (.ref (w 0))])) rfl (by rw [hml]; rfl) (argsL := [(.int 0)]) (rest := [(.ref (w 0))]) (lenOf pd_4 rfl) rfl (by show 2 * 0 + _ ≤ _; exact Nat.le_of_eq rfl) (hb hby at_239) (fun _ _ => ⟨rfl, e87, (by decide : 1 + 0 ≤ _), (by decide : 36 + 0 ≤ _)⟩)
        dsimp only [Pt.U, Pt.locs, Pt.cells, Pt.slots] at X88 l88 y88 z88 st88 hQ88
        rw [l88, y88, z88] at X88
        clear l88 y88 z88
        obtain ⟨rfl, Nq88, e88⟩ := hQ88
        have N88 := Fr.app N87 Nq88
        refine oS (fun t k => st88 t k) ?_
        show oG _ _ _ _ _ _ _ (T88.setTop (mkF m 242 #[.val (.int p1), .val (.int p2), .val (.int p3), .val (.int 0), .val (.int 0), .val (.int 1), .val (.ref b1), .val (.int 1), .val (.ref (w 3)), .unset] [(.ref (w 1)), (.ref (w 0))]))
        try clear st88 X87 e87
        refine oS (fun t k => XS.iload X88.here hx rfl (hb hby at_242) rfl k) ?_
        obtain ⟨_, _, ⟨T89, L89, k89, n89⟩, -, X89, ⟨Lc89, hQ89, l89, y89, z89⟩, st89⟩ := Jvm.LawKit.callS X88 hx (y := mY2) hown (mvT hZ (oW hw 9 rfl)) (mvT hZ (oW hw 10 rfl)) (mvT hZ (oW hw 4 rfl)) (mvT hZ (oW hw 11 rfl)) (by decide) (backOf (W := 2) (rm_vt_1 l Z a0 hw []  w h73 n0 O73 W ) hZ (oW hw 11 rfl) (oW hw 4 rfl) (by decide) (by decide)) (g := (mkF m 244 #[.val (.int p1), .val (.int p2), .val (.int p3), .val (.int 0), .val (.int 0), .val (.int 1), .val (.ref b1), .val (.int 1), .val (.ref (w 3)), .unset] [(.int 1), (.ref (w 1)), (.ref (w 0))])) rfl (by rw [hml]; rfl) (argsL := [(.int 1)]) (rest := [(.ref (w 1)), (.ref (w 0))]) (lenOf pd_4 rfl) rfl (by show 2 * 0 + _ ≤ _; exact Nat.le_of_eq rfl) (hb hby at_244) (fun _ _ => ⟨rfl, e88, (by decide : 1 + 0 ≤ _), (by decide : 36 + 0 ≤ _)⟩)
        dsimp only [Pt.U, Pt.locs, Pt.cells, Pt.slots] at X89 l89 y89 z89 st89 hQ89
        rw [l89, y89, z89] at X89
        clear l89 y89 z89
        obtain ⟨rfl, Nq89, e89⟩ := hQ89
        have N89 := Fr.app N88 Nq89
        refine oS (fun t k => st89 t k) ?_
        show oG _ _ _ _ _ _ _ (T89.setTop (mkF m 247 #[.val (.int p1), .val (.int p2), .val (.int p3), .val (.int 0), .val (.int 0), .val (.int 1), .val (.ref b1), .val (.int 1), .val (.ref (w 3)), .unset] [(.ref (w 3)), (.ref (w 1)), (.ref (w 0))]))
        try clear st89 X88 e88
        obtain ⟨cq90, kq90, q90a, q90b, q90c⟩ := isOf hZ e89 ((wE0 W).ext O73.2)
        obtain ⟨_, _, ⟨T90, L90, k90, n90⟩, -, X90, ⟨Lc90, hQ90, l90, y90, z90⟩, st90⟩ := X89.virtualBack hx (y := mY8) (z := mY8) hown (mvT hZ (oW hw 17 rfl)) (mvT hZ (oW hw 18 rfl)) (notFace_of_selects (args := #[]) (mvT hZ (oW hw 20 rfl))) (mvT hZ (oW hw 20 rfl)) (mvT hZ (oW hw 19 rfl)) (by decide) (backOf (W := 0) (rm_ty_001 l Z a0 hw []  w h73 n0 O73 W ) hZ (oW hw 21 rfl) (oW hw 7 rfl) (by decide) (by decide)) q90a q90c (g := (mkF m 247 #[.val (.int p1), .val (.int p2), .val (.int p3), .val (.int 0), .val (.int 0), .val (.int 1), .val (.ref b1), .val (.int 1), .val (.ref (w 3)), .unset] [(.ref (w 3)), (.ref (w 1)), (.ref (w 0))])) rfl (by rw [hml]; rfl) (Steps.refl _) (argsL := [(.ref (w 1)), (.ref (w 3))]) (rest := []) (lenOf pd_6 rfl) rfl (by show 2 * 0 + _ ≤ _; exact Nat.le_of_eq rfl) (hb hby at_247) (fun _ _ => ⟨rfl, e89, (by decide : 1 + 1 ≤ _), (by decide : 36 + 1 ≤ _)⟩)
        dsimp only [Pt.U, Pt.locs, Pt.cells, Pt.slots] at X90 l90 y90 z90 st90 hQ90
        rw [l90, y90, z90] at X90
        clear l90 y90 z90
        obtain ⟨r90, rfl, Nq90, K90, sr90, P90_0, P90_1⟩ := hQ90
        have N90 := Fr.app N89 Nq90
        have O90 := O73.keep K90 (fun x q => absurd q List.not_mem_nil)
        have gr90 : n0 ≤ r90 := Nat.le_trans (O73.1 ▸ O73.2.1) sr90
        have ne_b1_r90 : b1 ≠ r90 := Nat.ne_of_lt (Nat.lt_of_lt_of_le V73.lt sr90)
        refine oS (fun t k => st90.trans k) ?_
        show oG _ _ _ _ _ _ _ (T90.setTop (mkF m 250 #[.val (.int p1), .val (.int p2), .val (.int p3), .val (.int 0), .val (.int 0), .val (.int 1), .val (.ref b1), .val (.int 1), .val (.ref (w 3)), .unset] [(.ref r90)]))
        try clear st90 X89 e89
        refine oS (fun t k => XS.aconstNull X90.here hx rfl (hb hby at_250) k) ?_
        obtain ⟨cq91, kq91, q91a, q91b, q91c⟩ := isOf hZ rfl P90_0
        obtain ⟨_, _, ⟨T91, L91, k91, n91⟩, -, X91, ⟨Lc91, hQ91, l91, y91, z91⟩, st91⟩ := X90.virtualBack hx (y := mY7) (z := mY7) hown (mvT hZ (oW hw 39 rfl)) (mvT hZ (oW hw 40 rfl)) (notFace_of_selects (args := #[]) (mvT hZ (oW hw 42 rfl))) (mvT hZ (oW hw 42 rfl)) (mvT hZ (oW hw 41 rfl)) (by decide) (backOf (W := 0) (rm_oe l Z a0 hw [] r90 (w 3)  T90.heap n0 O90  P90_1) hZ (oW hw 43 rfl) (oW hw 36 rfl) (by decide) (by decide)) q91a q91c (g := (mkF m 251 #[.val (.int p1), .val (.int p2), .val (.int p3), .val (.int 0), .val (.int 0), .val (.int 1), .val (.ref b1), .val (.int 1), .val (.ref (w 3)), .unset] [.null, (.ref r90)])) rfl (by rw [hml]; rfl) (Steps.refl _) (argsL := [.null]) (rest := []) (lenOf pd_0 rfl) rfl (by show 2 * 0 + _ ≤ _; exact Nat.le_of_eq rfl) (hb hby at_251) (fun _ _ => ⟨rfl, rfl, (by decide : 2 + 0 ≤ _), (by decide : 37 + 0 ≤ _)⟩)
        dsimp only [Pt.U, Pt.locs, Pt.cells, Pt.slots] at X91 l91 y91 z91 st91 hQ91
        rw [l91, y91, z91] at X91
        clear l91 y91 z91
        obtain ⟨rfl, Nq91, e91⟩ := hQ91
        have N91 := Fr.app N90 Nq91
        refine oS (fun t k => st91.trans k) ?_
        show oG _ _ _ _ _ _ _ (T91.setTop (mkF m 254 #[.val (.int p1), .val (.int p2), .val (.int p3), .val (.int 0), .val (.int 0), .val (.int 1), .val (.ref b1), .val (.int 1), .val (.ref (w 3)), .unset] [(.ref (w 3))]))
        try clear st91 X90 e90
        obtain ⟨T92, X92, e92, st92⟩ := castY X91 hx hZ hown (oW hw 64 rfl) e91 (Ins.self ((wE3 W).ext O90.2)) (g := (mkF m 254 #[.val (.int p1), .val (.int p2), .val (.int p3), .val (.int 0), .val (.int 0), .val (.int 1), .val (.ref b1), .val (.int 1), .val (.ref (w 3)), .unset] [(.ref (w 3))])) rfl rfl (hb hby at_254)
        refine oS (fun t k => st92 t k) ?_
        try clear st92 X91 e91
        refine oS (fun t k => XS.astore X92.here hx rfl (hb hby at_257) rfl rfl (l' := #[.val (.int p1), .val (.int p2), .val (.int p3), .val (.int 0), .val (.int 0), .val (.int 1), .val (.ref b1), .val (.int 1), .val (.ref (w 3)), .val (.ref (w 3))]) rfl k) ?_
        refine oS (fun t k => XS.aload X92.here hx rfl (hb hby at_259) rfl rfl k) ?_
        refine oS (fun t k => XS.aload X92.here hx rfl (hb hby at_261) rfl rfl k) ?_
        refine oS (fun t k => Jvm.RoadKit.acmp (g := (mkF m 263 #[.val (.int p1), .val (.int p2), .val (.int p3), .val (.int 0), .val (.int 0), .val (.int 1), .val (.ref b1), .val (.int 1), .val (.ref (w 3)), .val (.ref (w 3))] [(.ref (w 3)), (.ref (w 3))])) X92 hx rfl rfl rfl (pc0 := 263) (pc' := 266) (same := true) rfl (hb hby at_263) rfl (decide_eq_true rfl) (by decide) (by decide) k) ?_
        show oG _ _ _ _ _ _ _ (T92.setTop (mkF m 266 #[.val (.int p1), .val (.int p2), .val (.int p3), .val (.int 0), .val (.int 0), .val (.int 1), .val (.ref b1), .val (.int 1), .val (.ref (w 3)), .val (.ref (w 3))] []))
        refine oS (fun t k => oIc li_1 X92.here hx rfl (hb hby at_266) k) ?_
        refine oS (fun t k => XS.goto X92.here hx rfl (pc0 := 267) (pc' := 271) rfl (hb hby at_267) (by decide) (by decide) k) ?_
        exact own_ret (v := some (.int 1)) X92 (fun h => by rw [Bd.returns] at h; cases h) Bd.notSynchronized (fun fs hr => retN X92 hx (t := .boolean) Bd.returns (by simp) (hb hby at_271) hr) (by rw [e92]; exact ⟨rfl, N91⟩) (by decide) (by decide)
      · rw [hs76]
        show oG _ _ _ _ _ _ _ (T73.setTop (mkF m 200 #[.val (.int p1), .val (.int p2), .val (.int p3), .val (.int 0), .val (.int 0), .val (.int 2), .val (.ref b1), .unset, .unset, .unset] []))
        refine oS (fun t k => XS.aload X73.here hx rfl (hb hby at_200) rfl rfl k) ?_
        refine oS (fun t k => XS.iloadN X73.here hx rfl (hb hby at_202) rfl k) ?_
        show oG _ _ _ _ _ _ _ (T73.setTop (mkF m 203 #[.val (.int p1), .val (.int p2), .val (.int p3), .val (.int 0), .val (.int 0), .val (.int 2), .val (.ref b1), .unset, .unset, .unset] [(.int 0), (.ref b1)]))
        refine oS (fun t k => oBp lb_9 X73.here hx rfl (hb hby at_203) k) ?_
        refine oS (S' := (T73.setTop (mkF m 206 #[.val (.int p1), .val (.int p2), .val (.int p3), .val (.int 0), .val (.int 0), .val (.int 2), .val (.ref b1), .unset, .unset, .unset] [(.int 0), (.ref b1)]))) (fun t k => XS.imul X73.here hx rfl (hb hby at_205) rfl (by rw [show (0 : Int32) * (9 : Int32) = (0 : Int32) from by decide]; exact k)) ?_
        refine oS (fun t k => XS.iload X73.here hx rfl (hb hby at_206) rfl k) ?_
        refine oS (fun t k => oIc li_3 X73.here hx rfl (hb hby at_208) k) ?_
        refine oS (S' := (T73.setTop (mkF m 210 #[.val (.int p1), .val (.int p2), .val (.int p3), .val (.int 0), .val (.int 0), .val (.int 2), .val (.ref b1), .unset, .unset, .unset] [(.int 0), (.int 0), (.ref b1)]))) (fun t k => XS.imul X73.here hx rfl (hb hby at_209) rfl (by rw [show (0 : Int32) * (3 : Int32) = (0 : Int32) from by decide]; exact k)) ?_
        refine oS (S' := (T73.setTop (mkF m 211 #[.val (.int p1), .val (.int p2), .val (.int p3), .val (.int 0), .val (.int 0), .val (.int 2), .val (.ref b1), .unset, .unset, .unset] [(.int 0), (.ref b1)]))) (fun t k => XS.iadd X73.here hx rfl (hb hby at_210) rfl (by rw [show (0 : Int32) + (0 : Int32) = (0 : Int32) from by decide]; exact k)) ?_
        refine oS (fun t k => XS.iload X73.here hx rfl (hb hby at_211) rfl k) ?_
        refine oS (S' := (T73.setTop (mkF m 214 #[.val (.int p1), .val (.int p2), .val (.int p3), .val (.int 0), .val (.int 0), .val (.int 2), .val (.ref b1), .unset, .unset, .unset] [(.int 2), (.ref b1)]))) (fun t k => XS.iadd X73.here hx rfl (hb hby at_213) rfl (by rw [show (0 : Int32) + (2 : Int32) = (2 : Int32) from by decide]; exact k)) ?_
        obtain ⟨cl93, Ar93, qk93, Sz93, Ng93, Ha93, Gf93⟩ := id V73
        have hin93 : ¬ ((2 : Int32) < 0 ∨ cl93.slots.size ≤ ((2 : Int32)).toNatClampNeg) := (inb_of Sz93 ⟨by decide, by decide⟩)
        have hat93 : cl93.slots[((2 : Int32)).toNatClampNeg]? = some (.int (-1)) := Ha93.at hin93 rfl
        refine oS (fun t k => X73.iaload hx (j := (2 : Int32)) (v := (.int (-1))) (by rw [e73]; exact Ar93.1) (State.isArrayOf_alike hZ.alike Ar93.2.1) Ar93.2.2 hin93 hat93 (g := (mkF m 214 #[.val (.int p1), .val (.int p2), .val (.int p3), .val (.int 0), .val (.int 0), .val (.int 2), .val (.ref b1), .unset, .unset, .unset] [(.int 2), (.ref b1)])) rfl rfl (hb hby at_214) t k) ?_
        refine oS (fun t k => XS.istore X73.here hx rfl (hb hby at_215) rfl (l' := #[.val (.int p1), .val (.int p2), .val (.int p3), .val (.int 0), .val (.int 0), .val (.int 2), .val (.ref b1), .val (.int (-1)), .unset, .unset]) rfl k) ?_
        show oG _ _ _ _ _ _ _ (T73.setTop (mkF m 217 #[.val (.int p1), .val (.int p2), .val (.int p3), .val (.int 0), .val (.int 0), .val (.int 2), .val (.ref b1), .val (.int (-1)), .unset, .unset] []))
        refine oS (fun t k => XS.iload X73.here hx rfl (hb hby at_217) rfl k) ?_
        refine oS (fun t k => XS.ifNo X73.here hx rfl (hb hby at_219) rfl ((if0 _ _).trans (tlt (by decide)).2.1) k) ?_
        refine oS (fun t k => XS.aconstNull X73.here hx rfl (hb hby at_222) k) ?_
        refine oS (fun t k => XS.goto X73.here hx rfl (pc0 := 223) (pc' := 231) rfl (hb hby at_223) (by decide) (by decide) k) ?_
        refine oS (fun t k => XS.astore X73.here hx rfl (hb hby at_231) rfl rfl (l' := #[.val (.int p1), .val (.int p2), .val (.int p3), .val (.int 0), .val (.int 0), .val (.int 2), .val (.ref b1), .val (.int (-1)), .val .null, .unset]) rfl k) ?_
        show oG _ _ _ _ _ _ _ (T73.setTop (mkF m 233 #[.val (.int p1), .val (.int p2), .val (.int p3), .val (.int 0), .val (.int 0), .val (.int 2), .val (.ref b1), .val (.int (-1)), .val .null, .unset] []))
        refine oS (fun t k => XS.iloadN X73.here hx rfl (hb hby at_233) rfl k) ?_
        obtain ⟨_, _, ⟨T94, L94, k94, n94⟩, -, X94, ⟨Lc94, hQ94, l94, y94, z94⟩, st94⟩ := Jvm.LawKit.callS X73 hx (y := mY0) hown (mvT hZ (oW hw 2 rfl)) (mvT hZ (oW hw 3 rfl)) (mvT hZ (oW hw 4 rfl)) (mvT hZ (oW hw 5 rfl)) (by decide) (backOf (W := 0) (rm_op_0 l Z a0 hw []  w h73 n0 O73 W ) hZ (oW hw 5 rfl) (oW hw 4 rfl) (by decide) (by decide)) (g := (mkF m 234 #[.val (.int p1), .val (.int p2), .val (.int p3), .val (.int 0), .val (.int 0), .val (.int 2), .val (.ref b1), .val (.int (-1)), .val .null, .unset] [(.int 0)])) rfl (by rw [hml]; rfl) (argsL := [(.int 0)]) (rest := []) (lenOf pd_5 rfl) rfl (by show 2 * 0 + _ ≤ _; exact Nat.le_of_eq rfl) (hb hby at_234) (fun _ _ => ⟨rfl, e73, (by decide : 1 + 0 ≤ _), (by decide : 36 + 0 ≤ _)⟩)
        dsimp only [Pt.U, Pt.locs, Pt.cells, Pt.slots] at X94 l94 y94 z94 st94 hQ94
        rw [l94, y94, z94] at X94
        clear l94 y94 z94
        obtain ⟨rfl, Nq94, e94⟩ := hQ94
        have N94 := Fr.app N73 Nq94
        refine oS (fun t k => st94 t k) ?_
        show oG _ _ _ _ _ _ _ (T94.setTop (mkF m 237 #[.val (.int p1), .val (.int p2), .val (.int p3), .val (.int 0), .val (.int 0), .val (.int 2), .val (.ref b1), .val (.int (-1)), .val .null, .unset] [(.ref (w 0))]))
        try clear st94 X73 e73
        try clear T73
        refine oS (fun t k => XS.iload X94.here hx rfl (hb hby at_237) rfl k) ?_
        obtain ⟨_, _, ⟨T95, L95, k95, n95⟩, -, X95, ⟨Lc95, hQ95, l95, y95, z95⟩, st95⟩ := Jvm.LawKit.callS X94 hx (y := mY2) hown (mvT hZ (oW hw 9 rfl)) (mvT hZ (oW hw 10 rfl)) (mvT hZ (oW hw 4 rfl)) (mvT hZ (oW hw 11 rfl)) (by decide) (backOf (W := 1) (rm_vt_0 l Z a0 hw []  w h73 n0 O73 W ) hZ (oW hw 11 rfl) (oW hw 4 rfl) (by decide) (by decide)) (g := (mkF m 239 #[.val (.int p1), .val (.int p2), .val (.int p3), .val (.int 0), .val (.int 0), .val (.int 2), .val (.ref b1), .val (.int (-1)), .val .null, .unset] [(.int 0), (.ref (w 0))])) rfl (by rw [hml]; rfl) (argsL := [(.int 0)]) (rest := [(.ref (w 0))]) (lenOf pd_4 rfl) rfl (by show 2 * 0 + _ ≤ _; exact Nat.le_of_eq rfl) (hb hby at_239) (fun _ _ => ⟨rfl, e94, (by decide : 1 + 0 ≤ _), (by decide : 36 + 0 ≤ _)⟩)
        dsimp only [Pt.U, Pt.locs, Pt.cells, Pt.slots] at X95 l95 y95 z95 st95 hQ95
        rw [l95, y95, z95] at X95
        clear l95 y95 z95
        obtain ⟨rfl, Nq95, e95⟩ := hQ95
        have N95 := Fr.app N94 Nq95
        refine oS (fun t k => st95 t k) ?_
        show oG _ _ _ _ _ _ _ (T95.setTop (mkF m 242 #[.val (.int p1), .val (.int p2), .val (.int p3), .val (.int 0), .val (.int 0), .val (.int 2), .val (.ref b1), .val (.int (-1)), .val .null, .unset] [(.ref (w 1)), (.ref (w 0))]))
        try clear st95 X94 e94
        refine oS (fun t k => XS.iload X95.here hx rfl (hb hby at_242) rfl k) ?_
        obtain ⟨_, _, ⟨T96, L96, k96, n96⟩, -, X96, ⟨Lc96, hQ96, l96, y96, z96⟩, st96⟩ := Jvm.LawKit.callS X95 hx (y := mY2) hown (mvT hZ (oW hw 9 rfl)) (mvT hZ (oW hw 10 rfl)) (mvT hZ (oW hw 4 rfl)) (mvT hZ (oW hw 11 rfl)) (by decide) (backOf (W := 2) (rm_vt_2 l Z a0 hw []  w h73 n0 O73 W ) hZ (oW hw 11 rfl) (oW hw 4 rfl) (by decide) (by decide)) (g := (mkF m 244 #[.val (.int p1), .val (.int p2), .val (.int p3), .val (.int 0), .val (.int 0), .val (.int 2), .val (.ref b1), .val (.int (-1)), .val .null, .unset] [(.int 2), (.ref (w 1)), (.ref (w 0))])) rfl (by rw [hml]; rfl) (argsL := [(.int 2)]) (rest := [(.ref (w 1)), (.ref (w 0))]) (lenOf pd_4 rfl) rfl (by show 2 * 0 + _ ≤ _; exact Nat.le_of_eq rfl) (hb hby at_244) (fun _ _ => ⟨rfl, e95, (by decide : 1 + 0 ≤ _), (by decide : 36 + 0 ≤ _)⟩)
        dsimp only [Pt.U, Pt.locs, Pt.cells, Pt.slots] at X96 l96 y96 z96 st96 hQ96
        rw [l96, y96, z96] at X96
        clear l96 y96 z96
        obtain ⟨rfl, Nq96, e96⟩ := hQ96
        have N96 := Fr.app N95 Nq96
        refine oS (fun t k => st96 t k) ?_
        show oG _ _ _ _ _ _ _ (T96.setTop (mkF m 247 #[.val (.int p1), .val (.int p2), .val (.int p3), .val (.int 0), .val (.int 0), .val (.int 2), .val (.ref b1), .val (.int (-1)), .val .null, .unset] [(.ref (w 2)), (.ref (w 1)), (.ref (w 0))]))
        try clear st96 X95 e95
        obtain ⟨cq97, kq97, q97a, q97b, q97c⟩ := isOf hZ e96 ((wE0 W).ext O73.2)
        obtain ⟨_, _, ⟨T97, L97, k97, n97⟩, -, X97, ⟨Lc97, hQ97, l97, y97, z97⟩, st97⟩ := X96.virtualBack hx (y := mY8) (z := mY8) hown (mvT hZ (oW hw 17 rfl)) (mvT hZ (oW hw 18 rfl)) (notFace_of_selects (args := #[]) (mvT hZ (oW hw 20 rfl))) (mvT hZ (oW hw 20 rfl)) (mvT hZ (oW hw 19 rfl)) (by decide) (backOf (W := 0) (rm_ty_002 l Z a0 hw []  w h73 n0 O73 W ) hZ (oW hw 21 rfl) (oW hw 7 rfl) (by decide) (by decide)) q97a q97c (g := (mkF m 247 #[.val (.int p1), .val (.int p2), .val (.int p3), .val (.int 0), .val (.int 0), .val (.int 2), .val (.ref b1), .val (.int (-1)), .val .null, .unset] [(.ref (w 2)), (.ref (w 1)), (.ref (w 0))])) rfl (by rw [hml]; rfl) (Steps.refl _) (argsL := [(.ref (w 1)), (.ref (w 2))]) (rest := []) (lenOf pd_6 rfl) rfl (by show 2 * 0 + _ ≤ _; exact Nat.le_of_eq rfl) (hb hby at_247) (fun _ _ => ⟨rfl, e96, (by decide : 1 + 0 ≤ _), (by decide : 36 + 0 ≤ _)⟩)
        dsimp only [Pt.U, Pt.locs, Pt.cells, Pt.slots] at X97 l97 y97 z97 st97 hQ97
        rw [l97, y97, z97] at X97
        clear l97 y97 z97
        obtain ⟨rfl, Nq97, e97⟩ := hQ97
        have N97 := Fr.app N96 Nq97
        refine oS (fun t k => st97.trans k) ?_
        show oG _ _ _ _ _ _ _ (T97.setTop (mkF m 250 #[.val (.int p1), .val (.int p2), .val (.int p3), .val (.int 0), .val (.int 0), .val (.int 2), .val (.ref b1), .val (.int (-1)), .val .null, .unset] [(.ref (w 7))]))
        try clear st97 X96 e96
        refine oS (fun t k => XS.aconstNull X97.here hx rfl (hb hby at_250) k) ?_
        obtain ⟨cq98, kq98, q98a, q98b, q98c⟩ := isOf hZ e97 ((wE7 W).ext O73.2)
        obtain ⟨_, _, ⟨T98, L98, k98, n98⟩, -, X98, ⟨Lc98, hQ98, l98, y98, z98⟩, st98⟩ := X97.virtualBack hx (y := mY7) (z := mY7) hown (mvT hZ (oW hw 39 rfl)) (mvT hZ (oW hw 40 rfl)) (notFace_of_selects (args := #[]) (mvT hZ (oW hw 42 rfl))) (mvT hZ (oW hw 42 rfl)) (mvT hZ (oW hw 41 rfl)) (by decide) (backOf (W := 0) (rm_oe0 l Z a0 hw [] (w 7)  h73 n0 O73  ((wF7_value W).ext O73.2)) hZ (oW hw 43 rfl) (oW hw 36 rfl) (by decide) (by decide)) q98a q98c (g := (mkF m 251 #[.val (.int p1), .val (.int p2), .val (.int p3), .val (.int 0), .val (.int 0), .val (.int 2), .val (.ref b1), .val (.int (-1)), .val .null, .unset] [.null, (.ref (w 7))])) rfl (by rw [hml]; rfl) (Steps.refl _) (argsL := [.null]) (rest := []) (lenOf pd_0 rfl) rfl (by show 2 * 0 + _ ≤ _; exact Nat.le_of_eq rfl) (hb hby at_251) (fun _ _ => ⟨rfl, e97, (by decide : 1 + 0 ≤ _), (by decide : 36 + 0 ≤ _)⟩)
        dsimp only [Pt.U, Pt.locs, Pt.cells, Pt.slots] at X98 l98 y98 z98 st98 hQ98
        rw [l98, y98, z98] at X98
        clear l98 y98 z98
        obtain ⟨rfl, Nq98, e98⟩ := hQ98
        have N98 := Fr.app N97 Nq98
        refine oS (fun t k => st98.trans k) ?_
        show oG _ _ _ _ _ _ _ (T98.setTop (mkF m 254 #[.val (.int p1), .val (.int p2), .val (.int p3), .val (.int 0), .val (.int 0), .val (.int 2), .val (.ref b1), .val (.int (-1)), .val .null, .unset] [.null]))
        try clear st98 X97 e97
        refine oS (fun t k => X98.checkcastNull hx (g := (mkF m 254 #[.val (.int p1), .val (.int p2), .val (.int p3), .val (.int 0), .val (.int 0), .val (.int 2), .val (.ref b1), .val (.int (-1)), .val .null, .unset] [.null])) rfl rfl (hb hby at_254) t k) ?_
        refine oS (fun t k => XS.astore X98.here hx rfl (hb hby at_257) rfl rfl (l' := #[.val (.int p1), .val (.int p2), .val (.int p3), .val (.int 0), .val (.int 0), .val (.int 2), .val (.ref b1), .val (.int (-1)), .val .null, .val .null]) rfl k) ?_
        refine oS (fun t k => XS.aload X98.here hx rfl (hb hby at_259) rfl rfl k) ?_
        refine oS (fun t k => XS.aload X98.here hx rfl (hb hby at_261) rfl rfl k) ?_
        refine oS (fun t k => Jvm.RoadKit.acmp (g := (mkF m 263 #[.val (.int p1), .val (.int p2), .val (.int p3), .val (.int 0), .val (.int 0), .val (.int 2), .val (.ref b1), .val (.int (-1)), .val .null, .val .null] [.null, .null])) X98 hx rfl rfl rfl (pc0 := 263) (pc' := 266) (same := true) rfl (hb hby at_263) rfl (decide_eq_true rfl) (by decide) (by decide) k) ?_
        show oG _ _ _ _ _ _ _ (T98.setTop (mkF m 266 #[.val (.int p1), .val (.int p2), .val (.int p3), .val (.int 0), .val (.int 0), .val (.int 2), .val (.ref b1), .val (.int (-1)), .val .null, .val .null] []))
        refine oS (fun t k => oIc li_1 X98.here hx rfl (hb hby at_266) k) ?_
        refine oS (fun t k => XS.goto X98.here hx rfl (pc0 := 267) (pc' := 271) rfl (hb hby at_267) (by decide) (by decide) k) ?_
        exact own_ret (v := some (.int 1)) X98 (fun h => by rw [Bd.returns] at h; cases h) Bd.notSynchronized (fun fs hr => retN X98 hx (t := .boolean) Bd.returns (by simp) (hb hby at_271) hr) (by rw [e98]; exact ⟨rfl, N98⟩) (by decide) (by decide)
    · rw [hs75]
      show oG _ _ _ _ _ _ _ (T73.setTop (mkF m 200 #[.val (.int p1), .val (.int p2), .val (.int p3), .val (.int 0), .val (.int 1), .val (.int ((p3 &&& (2147483647 : Int32)) % (3 : Int32))), .val (.ref b1), .unset, .unset, .unset] []))
      show oG _ _ _ _ _ _ _ (T73.setTop (mkF m 200 #[.val (.int p1), .val (.int p2), .val (.int p3), .val (.int 0), .val (.int 1), .val (.int ((p3 &&& (2147483647 : Int32)) % (3 : Int32))), .val (.ref b1), .unset, .unset, .unset] []))
      rcases own_three p3 with hs99 | hs99 | hs99
      · rw [hs99]
        show oG _ _ _ _ _ _ _ (T73.setTop (mkF m 200 #[.val (.int p1), .val (.int p2), .val (.int p3), .val (.int 0), .val (.int 1), .val (.int 0), .val (.ref b1), .unset, .unset, .unset] []))
        refine oS (fun t k => XS.aload X73.here hx rfl (hb hby at_200) rfl rfl k) ?_
        refine oS (fun t k => XS.iloadN X73.here hx rfl (hb hby at_202) rfl k) ?_
        show oG _ _ _ _ _ _ _ (T73.setTop (mkF m 203 #[.val (.int p1), .val (.int p2), .val (.int p3), .val (.int 0), .val (.int 1), .val (.int 0), .val (.ref b1), .unset, .unset, .unset] [(.int 0), (.ref b1)]))
        refine oS (fun t k => oBp lb_9 X73.here hx rfl (hb hby at_203) k) ?_
        refine oS (S' := (T73.setTop (mkF m 206 #[.val (.int p1), .val (.int p2), .val (.int p3), .val (.int 0), .val (.int 1), .val (.int 0), .val (.ref b1), .unset, .unset, .unset] [(.int 0), (.ref b1)]))) (fun t k => XS.imul X73.here hx rfl (hb hby at_205) rfl (by rw [show (0 : Int32) * (9 : Int32) = (0 : Int32) from by decide]; exact k)) ?_
        refine oS (fun t k => XS.iload X73.here hx rfl (hb hby at_206) rfl k) ?_
        refine oS (fun t k => oIc li_3 X73.here hx rfl (hb hby at_208) k) ?_
        refine oS (S' := (T73.setTop (mkF m 210 #[.val (.int p1), .val (.int p2), .val (.int p3), .val (.int 0), .val (.int 1), .val (.int 0), .val (.ref b1), .unset, .unset, .unset] [(.int 3), (.int 0), (.ref b1)]))) (fun t k => XS.imul X73.here hx rfl (hb hby at_209) rfl (by rw [show (1 : Int32) * (3 : Int32) = (3 : Int32) from by decide]; exact k)) ?_
        refine oS (S' := (T73.setTop (mkF m 211 #[.val (.int p1), .val (.int p2), .val (.int p3), .val (.int 0), .val (.int 1), .val (.int 0), .val (.ref b1), .unset, .unset, .unset] [(.int 3), (.ref b1)]))) (fun t k => XS.iadd X73.here hx rfl (hb hby at_210) rfl (by rw [show (0 : Int32) + (3 : Int32) = (3 : Int32) from by decide]; exact k)) ?_
        refine oS (fun t k => XS.iload X73.here hx rfl (hb hby at_211) rfl k) ?_
        refine oS (S' := (T73.setTop (mkF m 214 #[.val (.int p1), .val (.int p2), .val (.int p3), .val (.int 0), .val (.int 1), .val (.int 0), .val (.ref b1), .unset, .unset, .unset] [(.int 3), (.ref b1)]))) (fun t k => XS.iadd X73.here hx rfl (hb hby at_213) rfl (by rw [show (3 : Int32) + (0 : Int32) = (3 : Int32) from by decide]; exact k)) ?_
        obtain ⟨cl100, Ar100, qk100, Sz100, Ng100, Ha100, Gf100⟩ := id V73
        have hin100 : ¬ ((3 : Int32) < 0 ∨ cl100.slots.size ≤ ((3 : Int32)).toNatClampNeg) := (inb_of Sz100 ⟨by decide, by decide⟩)
        have hat100 : cl100.slots[((3 : Int32)).toNatClampNeg]? = some (.int 1) := Ha100.at hin100 rfl
        refine oS (fun t k => X73.iaload hx (j := (3 : Int32)) (v := (.int 1)) (by rw [e73]; exact Ar100.1) (State.isArrayOf_alike hZ.alike Ar100.2.1) Ar100.2.2 hin100 hat100 (g := (mkF m 214 #[.val (.int p1), .val (.int p2), .val (.int p3), .val (.int 0), .val (.int 1), .val (.int 0), .val (.ref b1), .unset, .unset, .unset] [(.int 3), (.ref b1)])) rfl rfl (hb hby at_214) t k) ?_
        refine oS (fun t k => XS.istore X73.here hx rfl (hb hby at_215) rfl (l' := #[.val (.int p1), .val (.int p2), .val (.int p3), .val (.int 0), .val (.int 1), .val (.int 0), .val (.ref b1), .val (.int 1), .unset, .unset]) rfl k) ?_
        show oG _ _ _ _ _ _ _ (T73.setTop (mkF m 217 #[.val (.int p1), .val (.int p2), .val (.int p3), .val (.int 0), .val (.int 1), .val (.int 0), .val (.ref b1), .val (.int 1), .unset, .unset] []))
        refine oS (fun t k => XS.iload X73.here hx rfl (hb hby at_217) rfl k) ?_
        refine oS (fun t k => XS.ifYes X73.here hx rfl (pc0 := 219) (pc' := 226) rfl (hb hby at_219) rfl ((if0 _ _).trans (flt (by decide)).2.1) (by decide) (by decide) k) ?_
        refine oS (fun t k => XS.iload X73.here hx rfl (hb hby at_226) rfl k) ?_
        obtain ⟨_, _, ⟨T101, L101, k101, n101⟩, -, X101, ⟨Lc101, hQ101, l101, y101, z101⟩, st101⟩ := Jvm.LawKit.callS X73 hx (y := mY2) hown (mvT hZ (oW hw 9 rfl)) (mvT hZ (oW hw 10 rfl)) (mvT hZ (oW hw 4 rfl)) (mvT hZ (oW hw 11 rfl)) (by decide) (backOf (W := 0) (rm_vt_1 l Z a0 hw []  w h73 n0 O73 W ) hZ (oW hw 11 rfl) (oW hw 4 rfl) (by decide) (by decide)) (g := (mkF m 228 #[.val (.int p1), .val (.int p2), .val (.int p3), .val (.int 0), .val (.int 1), .val (.int 0), .val (.ref b1), .val (.int 1), .unset, .unset] [(.int 1)])) rfl (by rw [hml]; rfl) (argsL := [(.int 1)]) (rest := []) (lenOf pd_4 rfl) rfl (by show 2 * 0 + _ ≤ _; exact Nat.le_of_eq rfl) (hb hby at_228) (fun _ _ => ⟨rfl, e73, (by decide : 1 + 0 ≤ _), (by decide : 36 + 0 ≤ _)⟩)
        dsimp only [Pt.U, Pt.locs, Pt.cells, Pt.slots] at X101 l101 y101 z101 st101 hQ101
        rw [l101, y101, z101] at X101
        clear l101 y101 z101
        obtain ⟨rfl, Nq101, e101⟩ := hQ101
        have N101 := Fr.app N73 Nq101
        refine oS (fun t k => st101 t k) ?_
        show oG _ _ _ _ _ _ _ (T101.setTop (mkF m 231 #[.val (.int p1), .val (.int p2), .val (.int p3), .val (.int 0), .val (.int 1), .val (.int 0), .val (.ref b1), .val (.int 1), .unset, .unset] [(.ref (w 3))]))
        try clear st101 X73 e73
        try clear T73
        refine oS (fun t k => XS.astore X101.here hx rfl (hb hby at_231) rfl rfl (l' := #[.val (.int p1), .val (.int p2), .val (.int p3), .val (.int 0), .val (.int 1), .val (.int 0), .val (.ref b1), .val (.int 1), .val (.ref (w 3)), .unset]) rfl k) ?_
        refine oS (fun t k => XS.iloadN X101.here hx rfl (hb hby at_233) rfl k) ?_
        obtain ⟨_, _, ⟨T102, L102, k102, n102⟩, -, X102, ⟨Lc102, hQ102, l102, y102, z102⟩, st102⟩ := Jvm.LawKit.callS X101 hx (y := mY0) hown (mvT hZ (oW hw 2 rfl)) (mvT hZ (oW hw 3 rfl)) (mvT hZ (oW hw 4 rfl)) (mvT hZ (oW hw 5 rfl)) (by decide) (backOf (W := 0) (rm_op_0 l Z a0 hw []  w h73 n0 O73 W ) hZ (oW hw 5 rfl) (oW hw 4 rfl) (by decide) (by decide)) (g := (mkF m 234 #[.val (.int p1), .val (.int p2), .val (.int p3), .val (.int 0), .val (.int 1), .val (.int 0), .val (.ref b1), .val (.int 1), .val (.ref (w 3)), .unset] [(.int 0)])) rfl (by rw [hml]; rfl) (argsL := [(.int 0)]) (rest := []) (lenOf pd_5 rfl) rfl (by show 2 * 0 + _ ≤ _; exact Nat.le_of_eq rfl) (hb hby at_234) (fun _ _ => ⟨rfl, e101, (by decide : 1 + 0 ≤ _), (by decide : 36 + 0 ≤ _)⟩)
        dsimp only [Pt.U, Pt.locs, Pt.cells, Pt.slots] at X102 l102 y102 z102 st102 hQ102
        rw [l102, y102, z102] at X102
        clear l102 y102 z102
        obtain ⟨rfl, Nq102, e102⟩ := hQ102
        have N102 := Fr.app N101 Nq102
        refine oS (fun t k => st102 t k) ?_
        show oG _ _ _ _ _ _ _ (T102.setTop (mkF m 237 #[.val (.int p1), .val (.int p2), .val (.int p3), .val (.int 0), .val (.int 1), .val (.int 0), .val (.ref b1), .val (.int 1), .val (.ref (w 3)), .unset] [(.ref (w 0))]))
        try clear st102 X101 e101
        refine oS (fun t k => XS.iload X102.here hx rfl (hb hby at_237) rfl k) ?_
        obtain ⟨_, _, ⟨T103, L103, k103, n103⟩, -, X103, ⟨Lc103, hQ103, l103, y103, z103⟩, st103⟩ := Jvm.LawKit.callS X102 hx (y := mY2) hown (mvT hZ (oW hw 9 rfl)) (mvT hZ (oW hw 10 rfl)) (mvT hZ (oW hw 4 rfl)) (mvT hZ (oW hw 11 rfl)) (by decide) (backOf (W := 1) (rm_vt_1 l Z a0 hw []  w h73 n0 O73 W ) hZ (oW hw 11 rfl) (oW hw 4 rfl) (by decide) (by decide)) (g := (mkF m 239 #[.val (.int p1), .val (.int p2), .val (.int p3), .val (.int 0), .val (.int 1), .val (.int 0), .val (.ref b1), .val (.int 1), .val (.ref (w 3)), .unset] [(.int 1), (.ref (w 0))])) rfl (by rw [hml]; rfl) (argsL := [(.int 1)]) (rest := [(.ref (w 0))]) (lenOf pd_4 rfl) rfl (by show 2 * 0 + _ ≤ _; exact Nat.le_of_eq rfl) (hb hby at_239) (fun _ _ => ⟨rfl, e102, (by decide : 1 + 0 ≤ _), (by decide : 36 + 0 ≤ _)⟩)
        dsimp only [Pt.U, Pt.locs, Pt.cells, Pt.slots] at X103 l103 y103 z103 st103 hQ103
        rw [l103, y103, z103] at X103
        clear l103 y103 z103
        obtain ⟨rfl, Nq103, e103⟩ := hQ103
        have N103 := Fr.app N102 Nq103
        refine oS (fun t k => st103 t k) ?_
        show oG _ _ _ _ _ _ _ (T103.setTop (mkF m 242 #[.val (.int p1), .val (.int p2), .val (.int p3), .val (.int 0), .val (.int 1), .val (.int 0), .val (.ref b1), .val (.int 1), .val (.ref (w 3)), .unset] [(.ref (w 3)), (.ref (w 0))]))
        try clear st103 X102 e102
        refine oS (fun t k => XS.iload X103.here hx rfl (hb hby at_242) rfl k) ?_
        obtain ⟨_, _, ⟨T104, L104, k104, n104⟩, -, X104, ⟨Lc104, hQ104, l104, y104, z104⟩, st104⟩ := Jvm.LawKit.callS X103 hx (y := mY2) hown (mvT hZ (oW hw 9 rfl)) (mvT hZ (oW hw 10 rfl)) (mvT hZ (oW hw 4 rfl)) (mvT hZ (oW hw 11 rfl)) (by decide) (backOf (W := 2) (rm_vt_0 l Z a0 hw []  w h73 n0 O73 W ) hZ (oW hw 11 rfl) (oW hw 4 rfl) (by decide) (by decide)) (g := (mkF m 244 #[.val (.int p1), .val (.int p2), .val (.int p3), .val (.int 0), .val (.int 1), .val (.int 0), .val (.ref b1), .val (.int 1), .val (.ref (w 3)), .unset] [(.int 0), (.ref (w 3)), (.ref (w 0))])) rfl (by rw [hml]; rfl) (argsL := [(.int 0)]) (rest := [(.ref (w 3)), (.ref (w 0))]) (lenOf pd_4 rfl) rfl (by show 2 * 0 + _ ≤ _; exact Nat.le_of_eq rfl) (hb hby at_244) (fun _ _ => ⟨rfl, e103, (by decide : 1 + 0 ≤ _), (by decide : 36 + 0 ≤ _)⟩)
        dsimp only [Pt.U, Pt.locs, Pt.cells, Pt.slots] at X104 l104 y104 z104 st104 hQ104
        rw [l104, y104, z104] at X104
        clear l104 y104 z104
        obtain ⟨rfl, Nq104, e104⟩ := hQ104
        have N104 := Fr.app N103 Nq104
        refine oS (fun t k => st104 t k) ?_
        show oG _ _ _ _ _ _ _ (T104.setTop (mkF m 247 #[.val (.int p1), .val (.int p2), .val (.int p3), .val (.int 0), .val (.int 1), .val (.int 0), .val (.ref b1), .val (.int 1), .val (.ref (w 3)), .unset] [(.ref (w 1)), (.ref (w 3)), (.ref (w 0))]))
        try clear st104 X103 e103
        obtain ⟨cq105, kq105, q105a, q105b, q105c⟩ := isOf hZ e104 ((wE0 W).ext O73.2)
        obtain ⟨_, _, ⟨T105, L105, k105, n105⟩, -, X105, ⟨Lc105, hQ105, l105, y105, z105⟩, st105⟩ := X104.virtualBack hx (y := mY8) (z := mY8) hown (mvT hZ (oW hw 17 rfl)) (mvT hZ (oW hw 18 rfl)) (notFace_of_selects (args := #[]) (mvT hZ (oW hw 20 rfl))) (mvT hZ (oW hw 20 rfl)) (mvT hZ (oW hw 19 rfl)) (by decide) (backOf (W := 0) (rm_ty_010 l Z a0 hw []  w h73 n0 O73 W ) hZ (oW hw 21 rfl) (oW hw 7 rfl) (by decide) (by decide)) q105a q105c (g := (mkF m 247 #[.val (.int p1), .val (.int p2), .val (.int p3), .val (.int 0), .val (.int 1), .val (.int 0), .val (.ref b1), .val (.int 1), .val (.ref (w 3)), .unset] [(.ref (w 1)), (.ref (w 3)), (.ref (w 0))])) rfl (by rw [hml]; rfl) (Steps.refl _) (argsL := [(.ref (w 3)), (.ref (w 1))]) (rest := []) (lenOf pd_6 rfl) rfl (by show 2 * 0 + _ ≤ _; exact Nat.le_of_eq rfl) (hb hby at_247) (fun _ _ => ⟨rfl, e104, (by decide : 1 + 1 ≤ _), (by decide : 36 + 1 ≤ _)⟩)
        dsimp only [Pt.U, Pt.locs, Pt.cells, Pt.slots] at X105 l105 y105 z105 st105 hQ105
        rw [l105, y105, z105] at X105
        clear l105 y105 z105
        obtain ⟨r105, rfl, Nq105, K105, sr105, P105_0, P105_1⟩ := hQ105
        have N105 := Fr.app N104 Nq105
        have O105 := O73.keep K105 (fun x q => absurd q List.not_mem_nil)
        have gr105 : n0 ≤ r105 := Nat.le_trans (O73.1 ▸ O73.2.1) sr105
        have ne_b1_r105 : b1 ≠ r105 := Nat.ne_of_lt (Nat.lt_of_lt_of_le V73.lt sr105)
        refine oS (fun t k => st105.trans k) ?_
        show oG _ _ _ _ _ _ _ (T105.setTop (mkF m 250 #[.val (.int p1), .val (.int p2), .val (.int p3), .val (.int 0), .val (.int 1), .val (.int 0), .val (.ref b1), .val (.int 1), .val (.ref (w 3)), .unset] [(.ref r105)]))
        try clear st105 X104 e104
        refine oS (fun t k => XS.aconstNull X105.here hx rfl (hb hby at_250) k) ?_
        obtain ⟨cq106, kq106, q106a, q106b, q106c⟩ := isOf hZ rfl P105_0
        obtain ⟨_, _, ⟨T106, L106, k106, n106⟩, -, X106, ⟨Lc106, hQ106, l106, y106, z106⟩, st106⟩ := X105.virtualBack hx (y := mY7) (z := mY7) hown (mvT hZ (oW hw 39 rfl)) (mvT hZ (oW hw 40 rfl)) (notFace_of_selects (args := #[]) (mvT hZ (oW hw 42 rfl))) (mvT hZ (oW hw 42 rfl)) (mvT hZ (oW hw 41 rfl)) (by decide) (backOf (W := 0) (rm_oe l Z a0 hw [] r105 (w 3)  T105.heap n0 O105  P105_1) hZ (oW hw 43 rfl) (oW hw 36 rfl) (by decide) (by decide)) q106a q106c (g := (mkF m 251 #[.val (.int p1), .val (.int p2), .val (.int p3), .val (.int 0), .val (.int 1), .val (.int 0), .val (.ref b1), .val (.int 1), .val (.ref (w 3)), .unset] [.null, (.ref r105)])) rfl (by rw [hml]; rfl) (Steps.refl _) (argsL := [.null]) (rest := []) (lenOf pd_0 rfl) rfl (by show 2 * 0 + _ ≤ _; exact Nat.le_of_eq rfl) (hb hby at_251) (fun _ _ => ⟨rfl, rfl, (by decide : 2 + 0 ≤ _), (by decide : 37 + 0 ≤ _)⟩)
        dsimp only [Pt.U, Pt.locs, Pt.cells, Pt.slots] at X106 l106 y106 z106 st106 hQ106
        rw [l106, y106, z106] at X106
        clear l106 y106 z106
        obtain ⟨rfl, Nq106, e106⟩ := hQ106
        have N106 := Fr.app N105 Nq106
        refine oS (fun t k => st106.trans k) ?_
        show oG _ _ _ _ _ _ _ (T106.setTop (mkF m 254 #[.val (.int p1), .val (.int p2), .val (.int p3), .val (.int 0), .val (.int 1), .val (.int 0), .val (.ref b1), .val (.int 1), .val (.ref (w 3)), .unset] [(.ref (w 3))]))
        try clear st106 X105 e105
        obtain ⟨T107, X107, e107, st107⟩ := castY X106 hx hZ hown (oW hw 64 rfl) e106 (Ins.self ((wE3 W).ext O105.2)) (g := (mkF m 254 #[.val (.int p1), .val (.int p2), .val (.int p3), .val (.int 0), .val (.int 1), .val (.int 0), .val (.ref b1), .val (.int 1), .val (.ref (w 3)), .unset] [(.ref (w 3))])) rfl rfl (hb hby at_254)
        refine oS (fun t k => st107 t k) ?_
        try clear st107 X106 e106
        refine oS (fun t k => XS.astore X107.here hx rfl (hb hby at_257) rfl rfl (l' := #[.val (.int p1), .val (.int p2), .val (.int p3), .val (.int 0), .val (.int 1), .val (.int 0), .val (.ref b1), .val (.int 1), .val (.ref (w 3)), .val (.ref (w 3))]) rfl k) ?_
        refine oS (fun t k => XS.aload X107.here hx rfl (hb hby at_259) rfl rfl k) ?_
        refine oS (fun t k => XS.aload X107.here hx rfl (hb hby at_261) rfl rfl k) ?_
        refine oS (fun t k => Jvm.RoadKit.acmp (g := (mkF m 263 #[.val (.int p1), .val (.int p2), .val (.int p3), .val (.int 0), .val (.int 1), .val (.int 0), .val (.ref b1), .val (.int 1), .val (.ref (w 3)), .val (.ref (w 3))] [(.ref (w 3)), (.ref (w 3))])) X107 hx rfl rfl rfl (pc0 := 263) (pc' := 266) (same := true) rfl (hb hby at_263) rfl (decide_eq_true rfl) (by decide) (by decide) k) ?_
        show oG _ _ _ _ _ _ _ (T107.setTop (mkF m 266 #[.val (.int p1), .val (.int p2), .val (.int p3), .val (.int 0), .val (.int 1), .val (.int 0), .val (.ref b1), .val (.int 1), .val (.ref (w 3)), .val (.ref (w 3))] []))
        refine oS (fun t k => oIc li_1 X107.here hx rfl (hb hby at_266) k) ?_
        refine oS (fun t k => XS.goto X107.here hx rfl (pc0 := 267) (pc' := 271) rfl (hb hby at_267) (by decide) (by decide) k) ?_
        exact own_ret (v := some (.int 1)) X107 (fun h => by rw [Bd.returns] at h; cases h) Bd.notSynchronized (fun fs hr => retN X107 hx (t := .boolean) Bd.returns (by simp) (hb hby at_271) hr) (by rw [e107]; exact ⟨rfl, N106⟩) (by decide) (by decide)
      · rw [hs99]
        show oG _ _ _ _ _ _ _ (T73.setTop (mkF m 200 #[.val (.int p1), .val (.int p2), .val (.int p3), .val (.int 0), .val (.int 1), .val (.int 1), .val (.ref b1), .unset, .unset, .unset] []))
        refine oS (fun t k => XS.aload X73.here hx rfl (hb hby at_200) rfl rfl k) ?_
        refine oS (fun t k => XS.iloadN X73.here hx rfl (hb hby at_202) rfl k) ?_
        show oG _ _ _ _ _ _ _ (T73.setTop (mkF m 203 #[.val (.int p1), .val (.int p2), .val (.int p3), .val (.int 0), .val (.int 1), .val (.int 1), .val (.ref b1), .unset, .unset, .unset] [(.int 0), (.ref b1)]))
        refine oS (fun t k => oBp lb_9 X73.here hx rfl (hb hby at_203) k) ?_
        refine oS (S' := (T73.setTop (mkF m 206 #[.val (.int p1), .val (.int p2), .val (.int p3), .val (.int 0), .val (.int 1), .val (.int 1), .val (.ref b1), .unset, .unset, .unset] [(.int 0), (.ref b1)]))) (fun t k => XS.imul X73.here hx rfl (hb hby at_205) rfl (by rw [show (0 : Int32) * (9 : Int32) = (0 : Int32) from by decide]; exact k)) ?_
        refine oS (fun t k => XS.iload X73.here hx rfl (hb hby at_206) rfl k) ?_
        refine oS (fun t k => oIc li_3 X73.here hx rfl (hb hby at_208) k) ?_
        refine oS (S' := (T73.setTop (mkF m 210 #[.val (.int p1), .val (.int p2), .val (.int p3), .val (.int 0), .val (.int 1), .val (.int 1), .val (.ref b1), .unset, .unset, .unset] [(.int 3), (.int 0), (.ref b1)]))) (fun t k => XS.imul X73.here hx rfl (hb hby at_209) rfl (by rw [show (1 : Int32) * (3 : Int32) = (3 : Int32) from by decide]; exact k)) ?_
        refine oS (S' := (T73.setTop (mkF m 211 #[.val (.int p1), .val (.int p2), .val (.int p3), .val (.int 0), .val (.int 1), .val (.int 1), .val (.ref b1), .unset, .unset, .unset] [(.int 3), (.ref b1)]))) (fun t k => XS.iadd X73.here hx rfl (hb hby at_210) rfl (by rw [show (0 : Int32) + (3 : Int32) = (3 : Int32) from by decide]; exact k)) ?_
        refine oS (fun t k => XS.iload X73.here hx rfl (hb hby at_211) rfl k) ?_
        refine oS (S' := (T73.setTop (mkF m 214 #[.val (.int p1), .val (.int p2), .val (.int p3), .val (.int 0), .val (.int 1), .val (.int 1), .val (.ref b1), .unset, .unset, .unset] [(.int 4), (.ref b1)]))) (fun t k => XS.iadd X73.here hx rfl (hb hby at_213) rfl (by rw [show (3 : Int32) + (1 : Int32) = (4 : Int32) from by decide]; exact k)) ?_
        obtain ⟨cl108, Ar108, qk108, Sz108, Ng108, Ha108, Gf108⟩ := id V73
        have hin108 : ¬ ((4 : Int32) < 0 ∨ cl108.slots.size ≤ ((4 : Int32)).toNatClampNeg) := (inb_of Sz108 ⟨by decide, by decide⟩)
        have hat108 : cl108.slots[((4 : Int32)).toNatClampNeg]? = some (.int (-1)) := Ha108.at hin108 rfl
        refine oS (fun t k => X73.iaload hx (j := (4 : Int32)) (v := (.int (-1))) (by rw [e73]; exact Ar108.1) (State.isArrayOf_alike hZ.alike Ar108.2.1) Ar108.2.2 hin108 hat108 (g := (mkF m 214 #[.val (.int p1), .val (.int p2), .val (.int p3), .val (.int 0), .val (.int 1), .val (.int 1), .val (.ref b1), .unset, .unset, .unset] [(.int 4), (.ref b1)])) rfl rfl (hb hby at_214) t k) ?_
        refine oS (fun t k => XS.istore X73.here hx rfl (hb hby at_215) rfl (l' := #[.val (.int p1), .val (.int p2), .val (.int p3), .val (.int 0), .val (.int 1), .val (.int 1), .val (.ref b1), .val (.int (-1)), .unset, .unset]) rfl k) ?_
        show oG _ _ _ _ _ _ _ (T73.setTop (mkF m 217 #[.val (.int p1), .val (.int p2), .val (.int p3), .val (.int 0), .val (.int 1), .val (.int 1), .val (.ref b1), .val (.int (-1)), .unset, .unset] []))
        refine oS (fun t k => XS.iload X73.here hx rfl (hb hby at_217) rfl k) ?_
        refine oS (fun t k => XS.ifNo X73.here hx rfl (hb hby at_219) rfl ((if0 _ _).trans (tlt (by decide)).2.1) k) ?_
        refine oS (fun t k => XS.aconstNull X73.here hx rfl (hb hby at_222) k) ?_
        refine oS (fun t k => XS.goto X73.here hx rfl (pc0 := 223) (pc' := 231) rfl (hb hby at_223) (by decide) (by decide) k) ?_
        refine oS (fun t k => XS.astore X73.here hx rfl (hb hby at_231) rfl rfl (l' := #[.val (.int p1), .val (.int p2), .val (.int p3), .val (.int 0), .val (.int 1), .val (.int 1), .val (.ref b1), .val (.int (-1)), .val .null, .unset]) rfl k) ?_
        show oG _ _ _ _ _ _ _ (T73.setTop (mkF m 233 #[.val (.int p1), .val (.int p2), .val (.int p3), .val (.int 0), .val (.int 1), .val (.int 1), .val (.ref b1), .val (.int (-1)), .val .null, .unset] []))
        refine oS (fun t k => XS.iloadN X73.here hx rfl (hb hby at_233) rfl k) ?_
        obtain ⟨_, _, ⟨T109, L109, k109, n109⟩, -, X109, ⟨Lc109, hQ109, l109, y109, z109⟩, st109⟩ := Jvm.LawKit.callS X73 hx (y := mY0) hown (mvT hZ (oW hw 2 rfl)) (mvT hZ (oW hw 3 rfl)) (mvT hZ (oW hw 4 rfl)) (mvT hZ (oW hw 5 rfl)) (by decide) (backOf (W := 0) (rm_op_0 l Z a0 hw []  w h73 n0 O73 W ) hZ (oW hw 5 rfl) (oW hw 4 rfl) (by decide) (by decide)) (g := (mkF m 234 #[.val (.int p1), .val (.int p2), .val (.int p3), .val (.int 0), .val (.int 1), .val (.int 1), .val (.ref b1), .val (.int (-1)), .val .null, .unset] [(.int 0)])) rfl (by rw [hml]; rfl) (argsL := [(.int 0)]) (rest := []) (lenOf pd_5 rfl) rfl (by show 2 * 0 + _ ≤ _; exact Nat.le_of_eq rfl) (hb hby at_234) (fun _ _ => ⟨rfl, e73, (by decide : 1 + 0 ≤ _), (by decide : 36 + 0 ≤ _)⟩)
        dsimp only [Pt.U, Pt.locs, Pt.cells, Pt.slots] at X109 l109 y109 z109 st109 hQ109
        rw [l109, y109, z109] at X109
        clear l109 y109 z109
        obtain ⟨rfl, Nq109, e109⟩ := hQ109
        have N109 := Fr.app N73 Nq109
        refine oS (fun t k => st109 t k) ?_
        show oG _ _ _ _ _ _ _ (T109.setTop (mkF m 237 #[.val (.int p1), .val (.int p2), .val (.int p3), .val (.int 0), .val (.int 1), .val (.int 1), .val (.ref b1), .val (.int (-1)), .val .null, .unset] [(.ref (w 0))]))
        try clear st109 X73 e73
        try clear T73
        refine oS (fun t k => XS.iload X109.here hx rfl (hb hby at_237) rfl k) ?_
        obtain ⟨_, _, ⟨T110, L110, k110, n110⟩, -, X110, ⟨Lc110, hQ110, l110, y110, z110⟩, st110⟩ := Jvm.LawKit.callS X109 hx (y := mY2) hown (mvT hZ (oW hw 9 rfl)) (mvT hZ (oW hw 10 rfl)) (mvT hZ (oW hw 4 rfl)) (mvT hZ (oW hw 11 rfl)) (by decide) (backOf (W := 1) (rm_vt_1 l Z a0 hw []  w h73 n0 O73 W ) hZ (oW hw 11 rfl) (oW hw 4 rfl) (by decide) (by decide)) (g := (mkF m 239 #[.val (.int p1), .val (.int p2), .val (.int p3), .val (.int 0), .val (.int 1), .val (.int 1), .val (.ref b1), .val (.int (-1)), .val .null, .unset] [(.int 1), (.ref (w 0))])) rfl (by rw [hml]; rfl) (argsL := [(.int 1)]) (rest := [(.ref (w 0))]) (lenOf pd_4 rfl) rfl (by show 2 * 0 + _ ≤ _; exact Nat.le_of_eq rfl) (hb hby at_239) (fun _ _ => ⟨rfl, e109, (by decide : 1 + 0 ≤ _), (by decide : 36 + 0 ≤ _)⟩)
        dsimp only [Pt.U, Pt.locs, Pt.cells, Pt.slots] at X110 l110 y110 z110 st110 hQ110
        rw [l110, y110, z110] at X110
        clear l110 y110 z110
        obtain ⟨rfl, Nq110, e110⟩ := hQ110
        have N110 := Fr.app N109 Nq110
        refine oS (fun t k => st110 t k) ?_
        show oG _ _ _ _ _ _ _ (T110.setTop (mkF m 242 #[.val (.int p1), .val (.int p2), .val (.int p3), .val (.int 0), .val (.int 1), .val (.int 1), .val (.ref b1), .val (.int (-1)), .val .null, .unset] [(.ref (w 3)), (.ref (w 0))]))
        try clear st110 X109 e109
        refine oS (fun t k => XS.iload X110.here hx rfl (hb hby at_242) rfl k) ?_
        obtain ⟨_, _, ⟨T111, L111, k111, n111⟩, -, X111, ⟨Lc111, hQ111, l111, y111, z111⟩, st111⟩ := Jvm.LawKit.callS X110 hx (y := mY2) hown (mvT hZ (oW hw 9 rfl)) (mvT hZ (oW hw 10 rfl)) (mvT hZ (oW hw 4 rfl)) (mvT hZ (oW hw 11 rfl)) (by decide) (backOf (W := 2) (rm_vt_1 l Z a0 hw []  w h73 n0 O73 W ) hZ (oW hw 11 rfl) (oW hw 4 rfl) (by decide) (by decide)) (g := (mkF m 244 #[.val (.int p1), .val (.int p2), .val (.int p3), .val (.int 0), .val (.int 1), .val (.int 1), .val (.ref b1), .val (.int (-1)), .val .null, .unset] [(.int 1), (.ref (w 3)), (.ref (w 0))])) rfl (by rw [hml]; rfl) (argsL := [(.int 1)]) (rest := [(.ref (w 3)), (.ref (w 0))]) (lenOf pd_4 rfl) rfl (by show 2 * 0 + _ ≤ _; exact Nat.le_of_eq rfl) (hb hby at_244) (fun _ _ => ⟨rfl, e110, (by decide : 1 + 0 ≤ _), (by decide : 36 + 0 ≤ _)⟩)
        dsimp only [Pt.U, Pt.locs, Pt.cells, Pt.slots] at X111 l111 y111 z111 st111 hQ111
        rw [l111, y111, z111] at X111
        clear l111 y111 z111
        obtain ⟨rfl, Nq111, e111⟩ := hQ111
        have N111 := Fr.app N110 Nq111
        refine oS (fun t k => st111 t k) ?_
        show oG _ _ _ _ _ _ _ (T111.setTop (mkF m 247 #[.val (.int p1), .val (.int p2), .val (.int p3), .val (.int 0), .val (.int 1), .val (.int 1), .val (.ref b1), .val (.int (-1)), .val .null, .unset] [(.ref (w 3)), (.ref (w 3)), (.ref (w 0))]))
        try clear st111 X110 e110
        obtain ⟨cq112, kq112, q112a, q112b, q112c⟩ := isOf hZ e111 ((wE0 W).ext O73.2)
        obtain ⟨_, _, ⟨T112, L112, k112, n112⟩, -, X112, ⟨Lc112, hQ112, l112, y112, z112⟩, st112⟩ := X111.virtualBack hx (y := mY8) (z := mY8) hown (mvT hZ (oW hw 17 rfl)) (mvT hZ (oW hw 18 rfl)) (notFace_of_selects (args := #[]) (mvT hZ (oW hw 20 rfl))) (mvT hZ (oW hw 20 rfl)) (mvT hZ (oW hw 19 rfl)) (by decide) (backOf (W := 0) (rm_ty_011 l Z a0 hw []  w h73 n0 O73 W ) hZ (oW hw 21 rfl) (oW hw 7 rfl) (by decide) (by decide)) q112a q112c (g := (mkF m 247 #[.val (.int p1), .val (.int p2), .val (.int p3), .val (.int 0), .val (.int 1), .val (.int 1), .val (.ref b1), .val (.int (-1)), .val .null, .unset] [(.ref (w 3)), (.ref (w 3)), (.ref (w 0))])) rfl (by rw [hml]; rfl) (Steps.refl _) (argsL := [(.ref (w 3)), (.ref (w 3))]) (rest := []) (lenOf pd_6 rfl) rfl (by show 2 * 0 + _ ≤ _; exact Nat.le_of_eq rfl) (hb hby at_247) (fun _ _ => ⟨rfl, e111, (by decide : 1 + 0 ≤ _), (by decide : 36 + 0 ≤ _)⟩)
        dsimp only [Pt.U, Pt.locs, Pt.cells, Pt.slots] at X112 l112 y112 z112 st112 hQ112
        rw [l112, y112, z112] at X112
        clear l112 y112 z112
        obtain ⟨rfl, Nq112, e112⟩ := hQ112
        have N112 := Fr.app N111 Nq112
        refine oS (fun t k => st112.trans k) ?_
        show oG _ _ _ _ _ _ _ (T112.setTop (mkF m 250 #[.val (.int p1), .val (.int p2), .val (.int p3), .val (.int 0), .val (.int 1), .val (.int 1), .val (.ref b1), .val (.int (-1)), .val .null, .unset] [(.ref (w 7))]))
        try clear st112 X111 e111
        refine oS (fun t k => XS.aconstNull X112.here hx rfl (hb hby at_250) k) ?_
        obtain ⟨cq113, kq113, q113a, q113b, q113c⟩ := isOf hZ e112 ((wE7 W).ext O73.2)
        obtain ⟨_, _, ⟨T113, L113, k113, n113⟩, -, X113, ⟨Lc113, hQ113, l113, y113, z113⟩, st113⟩ := X112.virtualBack hx (y := mY7) (z := mY7) hown (mvT hZ (oW hw 39 rfl)) (mvT hZ (oW hw 40 rfl)) (notFace_of_selects (args := #[]) (mvT hZ (oW hw 42 rfl))) (mvT hZ (oW hw 42 rfl)) (mvT hZ (oW hw 41 rfl)) (by decide) (backOf (W := 0) (rm_oe0 l Z a0 hw [] (w 7)  h73 n0 O73  ((wF7_value W).ext O73.2)) hZ (oW hw 43 rfl) (oW hw 36 rfl) (by decide) (by decide)) q113a q113c (g := (mkF m 251 #[.val (.int p1), .val (.int p2), .val (.int p3), .val (.int 0), .val (.int 1), .val (.int 1), .val (.ref b1), .val (.int (-1)), .val .null, .unset] [.null, (.ref (w 7))])) rfl (by rw [hml]; rfl) (Steps.refl _) (argsL := [.null]) (rest := []) (lenOf pd_0 rfl) rfl (by show 2 * 0 + _ ≤ _; exact Nat.le_of_eq rfl) (hb hby at_251) (fun _ _ => ⟨rfl, e112, (by decide : 1 + 0 ≤ _), (by decide : 36 + 0 ≤ _)⟩)
        dsimp only [Pt.U, Pt.locs, Pt.cells, Pt.slots] at X113 l113 y113 z113 st113 hQ113
        rw [l113, y113, z113] at X113
        clear l113 y113 z113
        obtain ⟨rfl, Nq113, e113⟩ := hQ113
        have N113 := Fr.app N112 Nq113
        refine oS (fun t k => st113.trans k) ?_
        show oG _ _ _ _ _ _ _ (T113.setTop (mkF m 254 #[.val (.int p1), .val (.int p2), .val (.int p3), .val (.int 0), .val (.int 1), .val (.int 1), .val (.ref b1), .val (.int (-1)), .val .null, .unset] [.null]))
        try clear st113 X112 e112
        refine oS (fun t k => X113.checkcastNull hx (g := (mkF m 254 #[.val (.int p1), .val (.int p2), .val (.int p3), .val (.int 0), .val (.int 1), .val (.int 1), .val (.ref b1), .val (.int (-1)), .val .null, .unset] [.null])) rfl rfl (hb hby at_254) t k) ?_
        refine oS (fun t k => XS.astore X113.here hx rfl (hb hby at_257) rfl rfl (l' := #[.val (.int p1), .val (.int p2), .val (.int p3), .val (.int 0), .val (.int 1), .val (.int 1), .val (.ref b1), .val (.int (-1)), .val .null, .val .null]) rfl k) ?_
        refine oS (fun t k => XS.aload X113.here hx rfl (hb hby at_259) rfl rfl k) ?_
        refine oS (fun t k => XS.aload X113.here hx rfl (hb hby at_261) rfl rfl k) ?_
        refine oS (fun t k => Jvm.RoadKit.acmp (g := (mkF m 263 #[.val (.int p1), .val (.int p2), .val (.int p3), .val (.int 0), .val (.int 1), .val (.int 1), .val (.ref b1), .val (.int (-1)), .val .null, .val .null] [.null, .null])) X113 hx rfl rfl rfl (pc0 := 263) (pc' := 266) (same := true) rfl (hb hby at_263) rfl (decide_eq_true rfl) (by decide) (by decide) k) ?_
        show oG _ _ _ _ _ _ _ (T113.setTop (mkF m 266 #[.val (.int p1), .val (.int p2), .val (.int p3), .val (.int 0), .val (.int 1), .val (.int 1), .val (.ref b1), .val (.int (-1)), .val .null, .val .null] []))
        refine oS (fun t k => oIc li_1 X113.here hx rfl (hb hby at_266) k) ?_
        refine oS (fun t k => XS.goto X113.here hx rfl (pc0 := 267) (pc' := 271) rfl (hb hby at_267) (by decide) (by decide) k) ?_
        exact own_ret (v := some (.int 1)) X113 (fun h => by rw [Bd.returns] at h; cases h) Bd.notSynchronized (fun fs hr => retN X113 hx (t := .boolean) Bd.returns (by simp) (hb hby at_271) hr) (by rw [e113]; exact ⟨rfl, N113⟩) (by decide) (by decide)
      · rw [hs99]
        show oG _ _ _ _ _ _ _ (T73.setTop (mkF m 200 #[.val (.int p1), .val (.int p2), .val (.int p3), .val (.int 0), .val (.int 1), .val (.int 2), .val (.ref b1), .unset, .unset, .unset] []))
        refine oS (fun t k => XS.aload X73.here hx rfl (hb hby at_200) rfl rfl k) ?_
        refine oS (fun t k => XS.iloadN X73.here hx rfl (hb hby at_202) rfl k) ?_
        show oG _ _ _ _ _ _ _ (T73.setTop (mkF m 203 #[.val (.int p1), .val (.int p2), .val (.int p3), .val (.int 0), .val (.int 1), .val (.int 2), .val (.ref b1), .unset, .unset, .unset] [(.int 0), (.ref b1)]))
        refine oS (fun t k => oBp lb_9 X73.here hx rfl (hb hby at_203) k) ?_
        refine oS (S' := (T73.setTop (mkF m 206 #[.val (.int p1), .val (.int p2), .val (.int p3), .val (.int 0), .val (.int 1), .val (.int 2), .val (.ref b1), .unset, .unset, .unset] [(.int 0), (.ref b1)]))) (fun t k => XS.imul X73.here hx rfl (hb hby at_205) rfl (by rw [show (0 : Int32) * (9 : Int32) = (0 : Int32) from by decide]; exact k)) ?_
        refine oS (fun t k => XS.iload X73.here hx rfl (hb hby at_206) rfl k) ?_
        refine oS (fun t k => oIc li_3 X73.here hx rfl (hb hby at_208) k) ?_
        refine oS (S' := (T73.setTop (mkF m 210 #[.val (.int p1), .val (.int p2), .val (.int p3), .val (.int 0), .val (.int 1), .val (.int 2), .val (.ref b1), .unset, .unset, .unset] [(.int 3), (.int 0), (.ref b1)]))) (fun t k => XS.imul X73.here hx rfl (hb hby at_209) rfl (by rw [show (1 : Int32) * (3 : Int32) = (3 : Int32) from by decide]; exact k)) ?_
        refine oS (S' := (T73.setTop (mkF m 211 #[.val (.int p1), .val (.int p2), .val (.int p3), .val (.int 0), .val (.int 1), .val (.int 2), .val (.ref b1), .unset, .unset, .unset] [(.int 3), (.ref b1)]))) (fun t k => XS.iadd X73.here hx rfl (hb hby at_210) rfl (by rw [show (0 : Int32) + (3 : Int32) = (3 : Int32) from by decide]; exact k)) ?_
        refine oS (fun t k => XS.iload X73.here hx rfl (hb hby at_211) rfl k) ?_
        refine oS (S' := (T73.setTop (mkF m 214 #[.val (.int p1), .val (.int p2), .val (.int p3), .val (.int 0), .val (.int 1), .val (.int 2), .val (.ref b1), .unset, .unset, .unset] [(.int 5), (.ref b1)]))) (fun t k => XS.iadd X73.here hx rfl (hb hby at_213) rfl (by rw [show (3 : Int32) + (2 : Int32) = (5 : Int32) from by decide]; exact k)) ?_
        obtain ⟨cl114, Ar114, qk114, Sz114, Ng114, Ha114, Gf114⟩ := id V73
        have hin114 : ¬ ((5 : Int32) < 0 ∨ cl114.slots.size ≤ ((5 : Int32)).toNatClampNeg) := (inb_of Sz114 ⟨by decide, by decide⟩)
        have hat114 : cl114.slots[((5 : Int32)).toNatClampNeg]? = some (.int (-1)) := Ha114.at hin114 rfl
        refine oS (fun t k => X73.iaload hx (j := (5 : Int32)) (v := (.int (-1))) (by rw [e73]; exact Ar114.1) (State.isArrayOf_alike hZ.alike Ar114.2.1) Ar114.2.2 hin114 hat114 (g := (mkF m 214 #[.val (.int p1), .val (.int p2), .val (.int p3), .val (.int 0), .val (.int 1), .val (.int 2), .val (.ref b1), .unset, .unset, .unset] [(.int 5), (.ref b1)])) rfl rfl (hb hby at_214) t k) ?_
        refine oS (fun t k => XS.istore X73.here hx rfl (hb hby at_215) rfl (l' := #[.val (.int p1), .val (.int p2), .val (.int p3), .val (.int 0), .val (.int 1), .val (.int 2), .val (.ref b1), .val (.int (-1)), .unset, .unset]) rfl k) ?_
        show oG _ _ _ _ _ _ _ (T73.setTop (mkF m 217 #[.val (.int p1), .val (.int p2), .val (.int p3), .val (.int 0), .val (.int 1), .val (.int 2), .val (.ref b1), .val (.int (-1)), .unset, .unset] []))
        refine oS (fun t k => XS.iload X73.here hx rfl (hb hby at_217) rfl k) ?_
        refine oS (fun t k => XS.ifNo X73.here hx rfl (hb hby at_219) rfl ((if0 _ _).trans (tlt (by decide)).2.1) k) ?_
        refine oS (fun t k => XS.aconstNull X73.here hx rfl (hb hby at_222) k) ?_
        refine oS (fun t k => XS.goto X73.here hx rfl (pc0 := 223) (pc' := 231) rfl (hb hby at_223) (by decide) (by decide) k) ?_
        refine oS (fun t k => XS.astore X73.here hx rfl (hb hby at_231) rfl rfl (l' := #[.val (.int p1), .val (.int p2), .val (.int p3), .val (.int 0), .val (.int 1), .val (.int 2), .val (.ref b1), .val (.int (-1)), .val .null, .unset]) rfl k) ?_
        show oG _ _ _ _ _ _ _ (T73.setTop (mkF m 233 #[.val (.int p1), .val (.int p2), .val (.int p3), .val (.int 0), .val (.int 1), .val (.int 2), .val (.ref b1), .val (.int (-1)), .val .null, .unset] []))
        refine oS (fun t k => XS.iloadN X73.here hx rfl (hb hby at_233) rfl k) ?_
        obtain ⟨_, _, ⟨T115, L115, k115, n115⟩, -, X115, ⟨Lc115, hQ115, l115, y115, z115⟩, st115⟩ := Jvm.LawKit.callS X73 hx (y := mY0) hown (mvT hZ (oW hw 2 rfl)) (mvT hZ (oW hw 3 rfl)) (mvT hZ (oW hw 4 rfl)) (mvT hZ (oW hw 5 rfl)) (by decide) (backOf (W := 0) (rm_op_0 l Z a0 hw []  w h73 n0 O73 W ) hZ (oW hw 5 rfl) (oW hw 4 rfl) (by decide) (by decide)) (g := (mkF m 234 #[.val (.int p1), .val (.int p2), .val (.int p3), .val (.int 0), .val (.int 1), .val (.int 2), .val (.ref b1), .val (.int (-1)), .val .null, .unset] [(.int 0)])) rfl (by rw [hml]; rfl) (argsL := [(.int 0)]) (rest := []) (lenOf pd_5 rfl) rfl (by show 2 * 0 + _ ≤ _; exact Nat.le_of_eq rfl) (hb hby at_234) (fun _ _ => ⟨rfl, e73, (by decide : 1 + 0 ≤ _), (by decide : 36 + 0 ≤ _)⟩)
        dsimp only [Pt.U, Pt.locs, Pt.cells, Pt.slots] at X115 l115 y115 z115 st115 hQ115
        rw [l115, y115, z115] at X115
        clear l115 y115 z115
        obtain ⟨rfl, Nq115, e115⟩ := hQ115
        have N115 := Fr.app N73 Nq115
        refine oS (fun t k => st115 t k) ?_
        show oG _ _ _ _ _ _ _ (T115.setTop (mkF m 237 #[.val (.int p1), .val (.int p2), .val (.int p3), .val (.int 0), .val (.int 1), .val (.int 2), .val (.ref b1), .val (.int (-1)), .val .null, .unset] [(.ref (w 0))]))
        try clear st115 X73 e73
        try clear T73
        refine oS (fun t k => XS.iload X115.here hx rfl (hb hby at_237) rfl k) ?_
        obtain ⟨_, _, ⟨T116, L116, k116, n116⟩, -, X116, ⟨Lc116, hQ116, l116, y116, z116⟩, st116⟩ := Jvm.LawKit.callS X115 hx (y := mY2) hown (mvT hZ (oW hw 9 rfl)) (mvT hZ (oW hw 10 rfl)) (mvT hZ (oW hw 4 rfl)) (mvT hZ (oW hw 11 rfl)) (by decide) (backOf (W := 1) (rm_vt_1 l Z a0 hw []  w h73 n0 O73 W ) hZ (oW hw 11 rfl) (oW hw 4 rfl) (by decide) (by decide)) (g := (mkF m 239 #[.val (.int p1), .val (.int p2), .val (.int p3), .val (.int 0), .val (.int 1), .val (.int 2), .val (.ref b1), .val (.int (-1)), .val .null, .unset] [(.int 1), (.ref (w 0))])) rfl (by rw [hml]; rfl) (argsL := [(.int 1)]) (rest := [(.ref (w 0))]) (lenOf pd_4 rfl) rfl (by show 2 * 0 + _ ≤ _; exact Nat.le_of_eq rfl) (hb hby at_239) (fun _ _ => ⟨rfl, e115, (by decide : 1 + 0 ≤ _), (by decide : 36 + 0 ≤ _)⟩)
        dsimp only [Pt.U, Pt.locs, Pt.cells, Pt.slots] at X116 l116 y116 z116 st116 hQ116
        rw [l116, y116, z116] at X116
        clear l116 y116 z116
        obtain ⟨rfl, Nq116, e116⟩ := hQ116
        have N116 := Fr.app N115 Nq116
        refine oS (fun t k => st116 t k) ?_
        show oG _ _ _ _ _ _ _ (T116.setTop (mkF m 242 #[.val (.int p1), .val (.int p2), .val (.int p3), .val (.int 0), .val (.int 1), .val (.int 2), .val (.ref b1), .val (.int (-1)), .val .null, .unset] [(.ref (w 3)), (.ref (w 0))]))
        try clear st116 X115 e115
        refine oS (fun t k => XS.iload X116.here hx rfl (hb hby at_242) rfl k) ?_
        obtain ⟨_, _, ⟨T117, L117, k117, n117⟩, -, X117, ⟨Lc117, hQ117, l117, y117, z117⟩, st117⟩ := Jvm.LawKit.callS X116 hx (y := mY2) hown (mvT hZ (oW hw 9 rfl)) (mvT hZ (oW hw 10 rfl)) (mvT hZ (oW hw 4 rfl)) (mvT hZ (oW hw 11 rfl)) (by decide) (backOf (W := 2) (rm_vt_2 l Z a0 hw []  w h73 n0 O73 W ) hZ (oW hw 11 rfl) (oW hw 4 rfl) (by decide) (by decide)) (g := (mkF m 244 #[.val (.int p1), .val (.int p2), .val (.int p3), .val (.int 0), .val (.int 1), .val (.int 2), .val (.ref b1), .val (.int (-1)), .val .null, .unset] [(.int 2), (.ref (w 3)), (.ref (w 0))])) rfl (by rw [hml]; rfl) (argsL := [(.int 2)]) (rest := [(.ref (w 3)), (.ref (w 0))]) (lenOf pd_4 rfl) rfl (by show 2 * 0 + _ ≤ _; exact Nat.le_of_eq rfl) (hb hby at_244) (fun _ _ => ⟨rfl, e116, (by decide : 1 + 0 ≤ _), (by decide : 36 + 0 ≤ _)⟩)
        dsimp only [Pt.U, Pt.locs, Pt.cells, Pt.slots] at X117 l117 y117 z117 st117 hQ117
        rw [l117, y117, z117] at X117
        clear l117 y117 z117
        obtain ⟨rfl, Nq117, e117⟩ := hQ117
        have N117 := Fr.app N116 Nq117
        refine oS (fun t k => st117 t k) ?_
        show oG _ _ _ _ _ _ _ (T117.setTop (mkF m 247 #[.val (.int p1), .val (.int p2), .val (.int p3), .val (.int 0), .val (.int 1), .val (.int 2), .val (.ref b1), .val (.int (-1)), .val .null, .unset] [(.ref (w 2)), (.ref (w 3)), (.ref (w 0))]))
        try clear st117 X116 e116
        obtain ⟨cq118, kq118, q118a, q118b, q118c⟩ := isOf hZ e117 ((wE0 W).ext O73.2)
        obtain ⟨_, _, ⟨T118, L118, k118, n118⟩, -, X118, ⟨Lc118, hQ118, l118, y118, z118⟩, st118⟩ := X117.virtualBack hx (y := mY8) (z := mY8) hown (mvT hZ (oW hw 17 rfl)) (mvT hZ (oW hw 18 rfl)) (notFace_of_selects (args := #[]) (mvT hZ (oW hw 20 rfl))) (mvT hZ (oW hw 20 rfl)) (mvT hZ (oW hw 19 rfl)) (by decide) (backOf (W := 0) (rm_ty_012 l Z a0 hw []  w h73 n0 O73 W ) hZ (oW hw 21 rfl) (oW hw 7 rfl) (by decide) (by decide)) q118a q118c (g := (mkF m 247 #[.val (.int p1), .val (.int p2), .val (.int p3), .val (.int 0), .val (.int 1), .val (.int 2), .val (.ref b1), .val (.int (-1)), .val .null, .unset] [(.ref (w 2)), (.ref (w 3)), (.ref (w 0))])) rfl (by rw [hml]; rfl) (Steps.refl _) (argsL := [(.ref (w 3)), (.ref (w 2))]) (rest := []) (lenOf pd_6 rfl) rfl (by show 2 * 0 + _ ≤ _; exact Nat.le_of_eq rfl) (hb hby at_247) (fun _ _ => ⟨rfl, e117, (by decide : 1 + 0 ≤ _), (by decide : 36 + 0 ≤ _)⟩)
        dsimp only [Pt.U, Pt.locs, Pt.cells, Pt.slots] at X118 l118 y118 z118 st118 hQ118
        rw [l118, y118, z118] at X118
        clear l118 y118 z118
        obtain ⟨rfl, Nq118, e118⟩ := hQ118
        have N118 := Fr.app N117 Nq118
        refine oS (fun t k => st118.trans k) ?_
        show oG _ _ _ _ _ _ _ (T118.setTop (mkF m 250 #[.val (.int p1), .val (.int p2), .val (.int p3), .val (.int 0), .val (.int 1), .val (.int 2), .val (.ref b1), .val (.int (-1)), .val .null, .unset] [(.ref (w 7))]))
        try clear st118 X117 e117
        refine oS (fun t k => XS.aconstNull X118.here hx rfl (hb hby at_250) k) ?_
        obtain ⟨cq119, kq119, q119a, q119b, q119c⟩ := isOf hZ e118 ((wE7 W).ext O73.2)
        obtain ⟨_, _, ⟨T119, L119, k119, n119⟩, -, X119, ⟨Lc119, hQ119, l119, y119, z119⟩, st119⟩ := X118.virtualBack hx (y := mY7) (z := mY7) hown (mvT hZ (oW hw 39 rfl)) (mvT hZ (oW hw 40 rfl)) (notFace_of_selects (args := #[]) (mvT hZ (oW hw 42 rfl))) (mvT hZ (oW hw 42 rfl)) (mvT hZ (oW hw 41 rfl)) (by decide) (backOf (W := 0) (rm_oe0 l Z a0 hw [] (w 7)  h73 n0 O73  ((wF7_value W).ext O73.2)) hZ (oW hw 43 rfl) (oW hw 36 rfl) (by decide) (by decide)) q119a q119c (g := (mkF m 251 #[.val (.int p1), .val (.int p2), .val (.int p3), .val (.int 0), .val (.int 1), .val (.int 2), .val (.ref b1), .val (.int (-1)), .val .null, .unset] [.null, (.ref (w 7))])) rfl (by rw [hml]; rfl) (Steps.refl _) (argsL := [.null]) (rest := []) (lenOf pd_0 rfl) rfl (by show 2 * 0 + _ ≤ _; exact Nat.le_of_eq rfl) (hb hby at_251) (fun _ _ => ⟨rfl, e118, (by decide : 1 + 0 ≤ _), (by decide : 36 + 0 ≤ _)⟩)
        dsimp only [Pt.U, Pt.locs, Pt.cells, Pt.slots] at X119 l119 y119 z119 st119 hQ119
        rw [l119, y119, z119] at X119
        clear l119 y119 z119
        obtain ⟨rfl, Nq119, e119⟩ := hQ119
        have N119 := Fr.app N118 Nq119
        refine oS (fun t k => st119.trans k) ?_
        show oG _ _ _ _ _ _ _ (T119.setTop (mkF m 254 #[.val (.int p1), .val (.int p2), .val (.int p3), .val (.int 0), .val (.int 1), .val (.int 2), .val (.ref b1), .val (.int (-1)), .val .null, .unset] [.null]))
        try clear st119 X118 e118
        refine oS (fun t k => X119.checkcastNull hx (g := (mkF m 254 #[.val (.int p1), .val (.int p2), .val (.int p3), .val (.int 0), .val (.int 1), .val (.int 2), .val (.ref b1), .val (.int (-1)), .val .null, .unset] [.null])) rfl rfl (hb hby at_254) t k) ?_
        refine oS (fun t k => XS.astore X119.here hx rfl (hb hby at_257) rfl rfl (l' := #[.val (.int p1), .val (.int p2), .val (.int p3), .val (.int 0), .val (.int 1), .val (.int 2), .val (.ref b1), .val (.int (-1)), .val .null, .val .null]) rfl k) ?_
        refine oS (fun t k => XS.aload X119.here hx rfl (hb hby at_259) rfl rfl k) ?_
        refine oS (fun t k => XS.aload X119.here hx rfl (hb hby at_261) rfl rfl k) ?_
        refine oS (fun t k => Jvm.RoadKit.acmp (g := (mkF m 263 #[.val (.int p1), .val (.int p2), .val (.int p3), .val (.int 0), .val (.int 1), .val (.int 2), .val (.ref b1), .val (.int (-1)), .val .null, .val .null] [.null, .null])) X119 hx rfl rfl rfl (pc0 := 263) (pc' := 266) (same := true) rfl (hb hby at_263) rfl (decide_eq_true rfl) (by decide) (by decide) k) ?_
        show oG _ _ _ _ _ _ _ (T119.setTop (mkF m 266 #[.val (.int p1), .val (.int p2), .val (.int p3), .val (.int 0), .val (.int 1), .val (.int 2), .val (.ref b1), .val (.int (-1)), .val .null, .val .null] []))
        refine oS (fun t k => oIc li_1 X119.here hx rfl (hb hby at_266) k) ?_
        refine oS (fun t k => XS.goto X119.here hx rfl (pc0 := 267) (pc' := 271) rfl (hb hby at_267) (by decide) (by decide) k) ?_
        exact own_ret (v := some (.int 1)) X119 (fun h => by rw [Bd.returns] at h; cases h) Bd.notSynchronized (fun fs hr => retN X119 hx (t := .boolean) Bd.returns (by simp) (hb hby at_271) hr) (by rw [e119]; exact ⟨rfl, N119⟩) (by decide) (by decide)
    · rw [hs75]
      show oG _ _ _ _ _ _ _ (T73.setTop (mkF m 200 #[.val (.int p1), .val (.int p2), .val (.int p3), .val (.int 0), .val (.int 2), .val (.int ((p3 &&& (2147483647 : Int32)) % (3 : Int32))), .val (.ref b1), .unset, .unset, .unset] []))
      show oG _ _ _ _ _ _ _ (T73.setTop (mkF m 200 #[.val (.int p1), .val (.int p2), .val (.int p3), .val (.int 0), .val (.int 2), .val (.int ((p3 &&& (2147483647 : Int32)) % (3 : Int32))), .val (.ref b1), .unset, .unset, .unset] []))
      rcases own_three p3 with hs120 | hs120 | hs120
      · rw [hs120]
        show oG _ _ _ _ _ _ _ (T73.setTop (mkF m 200 #[.val (.int p1), .val (.int p2), .val (.int p3), .val (.int 0), .val (.int 2), .val (.int 0), .val (.ref b1), .unset, .unset, .unset] []))
        refine oS (fun t k => XS.aload X73.here hx rfl (hb hby at_200) rfl rfl k) ?_
        refine oS (fun t k => XS.iloadN X73.here hx rfl (hb hby at_202) rfl k) ?_
        show oG _ _ _ _ _ _ _ (T73.setTop (mkF m 203 #[.val (.int p1), .val (.int p2), .val (.int p3), .val (.int 0), .val (.int 2), .val (.int 0), .val (.ref b1), .unset, .unset, .unset] [(.int 0), (.ref b1)]))
        refine oS (fun t k => oBp lb_9 X73.here hx rfl (hb hby at_203) k) ?_
        refine oS (S' := (T73.setTop (mkF m 206 #[.val (.int p1), .val (.int p2), .val (.int p3), .val (.int 0), .val (.int 2), .val (.int 0), .val (.ref b1), .unset, .unset, .unset] [(.int 0), (.ref b1)]))) (fun t k => XS.imul X73.here hx rfl (hb hby at_205) rfl (by rw [show (0 : Int32) * (9 : Int32) = (0 : Int32) from by decide]; exact k)) ?_
        refine oS (fun t k => XS.iload X73.here hx rfl (hb hby at_206) rfl k) ?_
        refine oS (fun t k => oIc li_3 X73.here hx rfl (hb hby at_208) k) ?_
        refine oS (S' := (T73.setTop (mkF m 210 #[.val (.int p1), .val (.int p2), .val (.int p3), .val (.int 0), .val (.int 2), .val (.int 0), .val (.ref b1), .unset, .unset, .unset] [(.int 6), (.int 0), (.ref b1)]))) (fun t k => XS.imul X73.here hx rfl (hb hby at_209) rfl (by rw [show (2 : Int32) * (3 : Int32) = (6 : Int32) from by decide]; exact k)) ?_
        refine oS (S' := (T73.setTop (mkF m 211 #[.val (.int p1), .val (.int p2), .val (.int p3), .val (.int 0), .val (.int 2), .val (.int 0), .val (.ref b1), .unset, .unset, .unset] [(.int 6), (.ref b1)]))) (fun t k => XS.iadd X73.here hx rfl (hb hby at_210) rfl (by rw [show (0 : Int32) + (6 : Int32) = (6 : Int32) from by decide]; exact k)) ?_
        refine oS (fun t k => XS.iload X73.here hx rfl (hb hby at_211) rfl k) ?_
        refine oS (S' := (T73.setTop (mkF m 214 #[.val (.int p1), .val (.int p2), .val (.int p3), .val (.int 0), .val (.int 2), .val (.int 0), .val (.ref b1), .unset, .unset, .unset] [(.int 6), (.ref b1)]))) (fun t k => XS.iadd X73.here hx rfl (hb hby at_213) rfl (by rw [show (6 : Int32) + (0 : Int32) = (6 : Int32) from by decide]; exact k)) ?_
        obtain ⟨cl121, Ar121, qk121, Sz121, Ng121, Ha121, Gf121⟩ := id V73
        have hin121 : ¬ ((6 : Int32) < 0 ∨ cl121.slots.size ≤ ((6 : Int32)).toNatClampNeg) := (inb_of Sz121 ⟨by decide, by decide⟩)
        have hat121 : cl121.slots[((6 : Int32)).toNatClampNeg]? = some (.int (-1)) := Ha121.at hin121 rfl
        refine oS (fun t k => X73.iaload hx (j := (6 : Int32)) (v := (.int (-1))) (by rw [e73]; exact Ar121.1) (State.isArrayOf_alike hZ.alike Ar121.2.1) Ar121.2.2 hin121 hat121 (g := (mkF m 214 #[.val (.int p1), .val (.int p2), .val (.int p3), .val (.int 0), .val (.int 2), .val (.int 0), .val (.ref b1), .unset, .unset, .unset] [(.int 6), (.ref b1)])) rfl rfl (hb hby at_214) t k) ?_
        refine oS (fun t k => XS.istore X73.here hx rfl (hb hby at_215) rfl (l' := #[.val (.int p1), .val (.int p2), .val (.int p3), .val (.int 0), .val (.int 2), .val (.int 0), .val (.ref b1), .val (.int (-1)), .unset, .unset]) rfl k) ?_
        show oG _ _ _ _ _ _ _ (T73.setTop (mkF m 217 #[.val (.int p1), .val (.int p2), .val (.int p3), .val (.int 0), .val (.int 2), .val (.int 0), .val (.ref b1), .val (.int (-1)), .unset, .unset] []))
        refine oS (fun t k => XS.iload X73.here hx rfl (hb hby at_217) rfl k) ?_
        refine oS (fun t k => XS.ifNo X73.here hx rfl (hb hby at_219) rfl ((if0 _ _).trans (tlt (by decide)).2.1) k) ?_
        refine oS (fun t k => XS.aconstNull X73.here hx rfl (hb hby at_222) k) ?_
        refine oS (fun t k => XS.goto X73.here hx rfl (pc0 := 223) (pc' := 231) rfl (hb hby at_223) (by decide) (by decide) k) ?_
        refine oS (fun t k => XS.astore X73.here hx rfl (hb hby at_231) rfl rfl (l' := #[.val (.int p1), .val (.int p2), .val (.int p3), .val (.int 0), .val (.int 2), .val (.int 0), .val (.ref b1), .val (.int (-1)), .val .null, .unset]) rfl k) ?_
        show oG _ _ _ _ _ _ _ (T73.setTop (mkF m 233 #[.val (.int p1), .val (.int p2), .val (.int p3), .val (.int 0), .val (.int 2), .val (.int 0), .val (.ref b1), .val (.int (-1)), .val .null, .unset] []))
        refine oS (fun t k => XS.iloadN X73.here hx rfl (hb hby at_233) rfl k) ?_
        obtain ⟨_, _, ⟨T122, L122, k122, n122⟩, -, X122, ⟨Lc122, hQ122, l122, y122, z122⟩, st122⟩ := Jvm.LawKit.callS X73 hx (y := mY0) hown (mvT hZ (oW hw 2 rfl)) (mvT hZ (oW hw 3 rfl)) (mvT hZ (oW hw 4 rfl)) (mvT hZ (oW hw 5 rfl)) (by decide) (backOf (W := 0) (rm_op_0 l Z a0 hw []  w h73 n0 O73 W ) hZ (oW hw 5 rfl) (oW hw 4 rfl) (by decide) (by decide)) (g := (mkF m 234 #[.val (.int p1), .val (.int p2), .val (.int p3), .val (.int 0), .val (.int 2), .val (.int 0), .val (.ref b1), .val (.int (-1)), .val .null, .unset] [(.int 0)])) rfl (by rw [hml]; rfl) (argsL := [(.int 0)]) (rest := []) (lenOf pd_5 rfl) rfl (by show 2 * 0 + _ ≤ _; exact Nat.le_of_eq rfl) (hb hby at_234) (fun _ _ => ⟨rfl, e73, (by decide : 1 + 0 ≤ _), (by decide : 36 + 0 ≤ _)⟩)
        dsimp only [Pt.U, Pt.locs, Pt.cells, Pt.slots] at X122 l122 y122 z122 st122 hQ122
        rw [l122, y122, z122] at X122
        clear l122 y122 z122
        obtain ⟨rfl, Nq122, e122⟩ := hQ122
        have N122 := Fr.app N73 Nq122
        refine oS (fun t k => st122 t k) ?_
        show oG _ _ _ _ _ _ _ (T122.setTop (mkF m 237 #[.val (.int p1), .val (.int p2), .val (.int p3), .val (.int 0), .val (.int 2), .val (.int 0), .val (.ref b1), .val (.int (-1)), .val .null, .unset] [(.ref (w 0))]))
        try clear st122 X73 e73
        try clear T73
        refine oS (fun t k => XS.iload X122.here hx rfl (hb hby at_237) rfl k) ?_
        obtain ⟨_, _, ⟨T123, L123, k123, n123⟩, -, X123, ⟨Lc123, hQ123, l123, y123, z123⟩, st123⟩ := Jvm.LawKit.callS X122 hx (y := mY2) hown (mvT hZ (oW hw 9 rfl)) (mvT hZ (oW hw 10 rfl)) (mvT hZ (oW hw 4 rfl)) (mvT hZ (oW hw 11 rfl)) (by decide) (backOf (W := 1) (rm_vt_2 l Z a0 hw []  w h73 n0 O73 W ) hZ (oW hw 11 rfl) (oW hw 4 rfl) (by decide) (by decide)) (g := (mkF m 239 #[.val (.int p1), .val (.int p2), .val (.int p3), .val (.int 0), .val (.int 2), .val (.int 0), .val (.ref b1), .val (.int (-1)), .val .null, .unset] [(.int 2), (.ref (w 0))])) rfl (by rw [hml]; rfl) (argsL := [(.int 2)]) (rest := [(.ref (w 0))]) (lenOf pd_4 rfl) rfl (by show 2 * 0 + _ ≤ _; exact Nat.le_of_eq rfl) (hb hby at_239) (fun _ _ => ⟨rfl, e122, (by decide : 1 + 0 ≤ _), (by decide : 36 + 0 ≤ _)⟩)
        dsimp only [Pt.U, Pt.locs, Pt.cells, Pt.slots] at X123 l123 y123 z123 st123 hQ123
        rw [l123, y123, z123] at X123
        clear l123 y123 z123
        obtain ⟨rfl, Nq123, e123⟩ := hQ123
        have N123 := Fr.app N122 Nq123
        refine oS (fun t k => st123 t k) ?_
        show oG _ _ _ _ _ _ _ (T123.setTop (mkF m 242 #[.val (.int p1), .val (.int p2), .val (.int p3), .val (.int 0), .val (.int 2), .val (.int 0), .val (.ref b1), .val (.int (-1)), .val .null, .unset] [(.ref (w 2)), (.ref (w 0))]))
        try clear st123 X122 e122
        refine oS (fun t k => XS.iload X123.here hx rfl (hb hby at_242) rfl k) ?_
        obtain ⟨_, _, ⟨T124, L124, k124, n124⟩, -, X124, ⟨Lc124, hQ124, l124, y124, z124⟩, st124⟩ := Jvm.LawKit.callS X123 hx (y := mY2) hown (mvT hZ (oW hw 9 rfl)) (mvT hZ (oW hw 10 rfl)) (mvT hZ (oW hw 4 rfl)) (mvT hZ (oW hw 11 rfl)) (by decide) (backOf (W := 2) (rm_vt_0 l Z a0 hw []  w h73 n0 O73 W ) hZ (oW hw 11 rfl) (oW hw 4 rfl) (by decide) (by decide)) (g := (mkF m 244 #[.val (.int p1), .val (.int p2), .val (.int p3), .val (.int 0), .val (.int 2), .val (.int 0), .val (.ref b1), .val (.int (-1)), .val .null, .unset] [(.int 0), (.ref (w 2)), (.ref (w 0))])) rfl (by rw [hml]; rfl) (argsL := [(.int 0)]) (rest := [(.ref (w 2)), (.ref (w 0))]) (lenOf pd_4 rfl) rfl (by show 2 * 0 + _ ≤ _; exact Nat.le_of_eq rfl) (hb hby at_244) (fun _ _ => ⟨rfl, e123, (by decide : 1 + 0 ≤ _), (by decide : 36 + 0 ≤ _)⟩)
        dsimp only [Pt.U, Pt.locs, Pt.cells, Pt.slots] at X124 l124 y124 z124 st124 hQ124
        rw [l124, y124, z124] at X124
        clear l124 y124 z124
        obtain ⟨rfl, Nq124, e124⟩ := hQ124
        have N124 := Fr.app N123 Nq124
        refine oS (fun t k => st124 t k) ?_
        show oG _ _ _ _ _ _ _ (T124.setTop (mkF m 247 #[.val (.int p1), .val (.int p2), .val (.int p3), .val (.int 0), .val (.int 2), .val (.int 0), .val (.ref b1), .val (.int (-1)), .val .null, .unset] [(.ref (w 1)), (.ref (w 2)), (.ref (w 0))]))
        try clear st124 X123 e123
        obtain ⟨cq125, kq125, q125a, q125b, q125c⟩ := isOf hZ e124 ((wE0 W).ext O73.2)
        obtain ⟨_, _, ⟨T125, L125, k125, n125⟩, -, X125, ⟨Lc125, hQ125, l125, y125, z125⟩, st125⟩ := X124.virtualBack hx (y := mY8) (z := mY8) hown (mvT hZ (oW hw 17 rfl)) (mvT hZ (oW hw 18 rfl)) (notFace_of_selects (args := #[]) (mvT hZ (oW hw 20 rfl))) (mvT hZ (oW hw 20 rfl)) (mvT hZ (oW hw 19 rfl)) (by decide) (backOf (W := 0) (rm_ty_020 l Z a0 hw []  w h73 n0 O73 W ) hZ (oW hw 21 rfl) (oW hw 7 rfl) (by decide) (by decide)) q125a q125c (g := (mkF m 247 #[.val (.int p1), .val (.int p2), .val (.int p3), .val (.int 0), .val (.int 2), .val (.int 0), .val (.ref b1), .val (.int (-1)), .val .null, .unset] [(.ref (w 1)), (.ref (w 2)), (.ref (w 0))])) rfl (by rw [hml]; rfl) (Steps.refl _) (argsL := [(.ref (w 2)), (.ref (w 1))]) (rest := []) (lenOf pd_6 rfl) rfl (by show 2 * 0 + _ ≤ _; exact Nat.le_of_eq rfl) (hb hby at_247) (fun _ _ => ⟨rfl, e124, (by decide : 1 + 0 ≤ _), (by decide : 36 + 0 ≤ _)⟩)
        dsimp only [Pt.U, Pt.locs, Pt.cells, Pt.slots] at X125 l125 y125 z125 st125 hQ125
        rw [l125, y125, z125] at X125
        clear l125 y125 z125
        obtain ⟨rfl, Nq125, e125⟩ := hQ125
        have N125 := Fr.app N124 Nq125
        refine oS (fun t k => st125.trans k) ?_
        show oG _ _ _ _ _ _ _ (T125.setTop (mkF m 250 #[.val (.int p1), .val (.int p2), .val (.int p3), .val (.int 0), .val (.int 2), .val (.int 0), .val (.ref b1), .val (.int (-1)), .val .null, .unset] [(.ref (w 7))]))
        try clear st125 X124 e124
        refine oS (fun t k => XS.aconstNull X125.here hx rfl (hb hby at_250) k) ?_
        obtain ⟨cq126, kq126, q126a, q126b, q126c⟩ := isOf hZ e125 ((wE7 W).ext O73.2)
        obtain ⟨_, _, ⟨T126, L126, k126, n126⟩, -, X126, ⟨Lc126, hQ126, l126, y126, z126⟩, st126⟩ := X125.virtualBack hx (y := mY7) (z := mY7) hown (mvT hZ (oW hw 39 rfl)) (mvT hZ (oW hw 40 rfl)) (notFace_of_selects (args := #[]) (mvT hZ (oW hw 42 rfl))) (mvT hZ (oW hw 42 rfl)) (mvT hZ (oW hw 41 rfl)) (by decide) (backOf (W := 0) (rm_oe0 l Z a0 hw [] (w 7)  h73 n0 O73  ((wF7_value W).ext O73.2)) hZ (oW hw 43 rfl) (oW hw 36 rfl) (by decide) (by decide)) q126a q126c (g := (mkF m 251 #[.val (.int p1), .val (.int p2), .val (.int p3), .val (.int 0), .val (.int 2), .val (.int 0), .val (.ref b1), .val (.int (-1)), .val .null, .unset] [.null, (.ref (w 7))])) rfl (by rw [hml]; rfl) (Steps.refl _) (argsL := [.null]) (rest := []) (lenOf pd_0 rfl) rfl (by show 2 * 0 + _ ≤ _; exact Nat.le_of_eq rfl) (hb hby at_251) (fun _ _ => ⟨rfl, e125, (by decide : 1 + 0 ≤ _), (by decide : 36 + 0 ≤ _)⟩)
        dsimp only [Pt.U, Pt.locs, Pt.cells, Pt.slots] at X126 l126 y126 z126 st126 hQ126
        rw [l126, y126, z126] at X126
        clear l126 y126 z126
        obtain ⟨rfl, Nq126, e126⟩ := hQ126
        have N126 := Fr.app N125 Nq126
        refine oS (fun t k => st126.trans k) ?_
        show oG _ _ _ _ _ _ _ (T126.setTop (mkF m 254 #[.val (.int p1), .val (.int p2), .val (.int p3), .val (.int 0), .val (.int 2), .val (.int 0), .val (.ref b1), .val (.int (-1)), .val .null, .unset] [.null]))
        try clear st126 X125 e125
        refine oS (fun t k => X126.checkcastNull hx (g := (mkF m 254 #[.val (.int p1), .val (.int p2), .val (.int p3), .val (.int 0), .val (.int 2), .val (.int 0), .val (.ref b1), .val (.int (-1)), .val .null, .unset] [.null])) rfl rfl (hb hby at_254) t k) ?_
        refine oS (fun t k => XS.astore X126.here hx rfl (hb hby at_257) rfl rfl (l' := #[.val (.int p1), .val (.int p2), .val (.int p3), .val (.int 0), .val (.int 2), .val (.int 0), .val (.ref b1), .val (.int (-1)), .val .null, .val .null]) rfl k) ?_
        refine oS (fun t k => XS.aload X126.here hx rfl (hb hby at_259) rfl rfl k) ?_
        refine oS (fun t k => XS.aload X126.here hx rfl (hb hby at_261) rfl rfl k) ?_
        refine oS (fun t k => Jvm.RoadKit.acmp (g := (mkF m 263 #[.val (.int p1), .val (.int p2), .val (.int p3), .val (.int 0), .val (.int 2), .val (.int 0), .val (.ref b1), .val (.int (-1)), .val .null, .val .null] [.null, .null])) X126 hx rfl rfl rfl (pc0 := 263) (pc' := 266) (same := true) rfl (hb hby at_263) rfl (decide_eq_true rfl) (by decide) (by decide) k) ?_
        show oG _ _ _ _ _ _ _ (T126.setTop (mkF m 266 #[.val (.int p1), .val (.int p2), .val (.int p3), .val (.int 0), .val (.int 2), .val (.int 0), .val (.ref b1), .val (.int (-1)), .val .null, .val .null] []))
        refine oS (fun t k => oIc li_1 X126.here hx rfl (hb hby at_266) k) ?_
        refine oS (fun t k => XS.goto X126.here hx rfl (pc0 := 267) (pc' := 271) rfl (hb hby at_267) (by decide) (by decide) k) ?_
        exact own_ret (v := some (.int 1)) X126 (fun h => by rw [Bd.returns] at h; cases h) Bd.notSynchronized (fun fs hr => retN X126 hx (t := .boolean) Bd.returns (by simp) (hb hby at_271) hr) (by rw [e126]; exact ⟨rfl, N126⟩) (by decide) (by decide)
      · rw [hs120]
        show oG _ _ _ _ _ _ _ (T73.setTop (mkF m 200 #[.val (.int p1), .val (.int p2), .val (.int p3), .val (.int 0), .val (.int 2), .val (.int 1), .val (.ref b1), .unset, .unset, .unset] []))
        refine oS (fun t k => XS.aload X73.here hx rfl (hb hby at_200) rfl rfl k) ?_
        refine oS (fun t k => XS.iloadN X73.here hx rfl (hb hby at_202) rfl k) ?_
        show oG _ _ _ _ _ _ _ (T73.setTop (mkF m 203 #[.val (.int p1), .val (.int p2), .val (.int p3), .val (.int 0), .val (.int 2), .val (.int 1), .val (.ref b1), .unset, .unset, .unset] [(.int 0), (.ref b1)]))
        refine oS (fun t k => oBp lb_9 X73.here hx rfl (hb hby at_203) k) ?_
        refine oS (S' := (T73.setTop (mkF m 206 #[.val (.int p1), .val (.int p2), .val (.int p3), .val (.int 0), .val (.int 2), .val (.int 1), .val (.ref b1), .unset, .unset, .unset] [(.int 0), (.ref b1)]))) (fun t k => XS.imul X73.here hx rfl (hb hby at_205) rfl (by rw [show (0 : Int32) * (9 : Int32) = (0 : Int32) from by decide]; exact k)) ?_
        refine oS (fun t k => XS.iload X73.here hx rfl (hb hby at_206) rfl k) ?_
        refine oS (fun t k => oIc li_3 X73.here hx rfl (hb hby at_208) k) ?_
        refine oS (S' := (T73.setTop (mkF m 210 #[.val (.int p1), .val (.int p2), .val (.int p3), .val (.int 0), .val (.int 2), .val (.int 1), .val (.ref b1), .unset, .unset, .unset] [(.int 6), (.int 0), (.ref b1)]))) (fun t k => XS.imul X73.here hx rfl (hb hby at_209) rfl (by rw [show (2 : Int32) * (3 : Int32) = (6 : Int32) from by decide]; exact k)) ?_
        refine oS (S' := (T73.setTop (mkF m 211 #[.val (.int p1), .val (.int p2), .val (.int p3), .val (.int 0), .val (.int 2), .val (.int 1), .val (.ref b1), .unset, .unset, .unset] [(.int 6), (.ref b1)]))) (fun t k => XS.iadd X73.here hx rfl (hb hby at_210) rfl (by rw [show (0 : Int32) + (6 : Int32) = (6 : Int32) from by decide]; exact k)) ?_
        refine oS (fun t k => XS.iload X73.here hx rfl (hb hby at_211) rfl k) ?_
        refine oS (S' := (T73.setTop (mkF m 214 #[.val (.int p1), .val (.int p2), .val (.int p3), .val (.int 0), .val (.int 2), .val (.int 1), .val (.ref b1), .unset, .unset, .unset] [(.int 7), (.ref b1)]))) (fun t k => XS.iadd X73.here hx rfl (hb hby at_213) rfl (by rw [show (6 : Int32) + (1 : Int32) = (7 : Int32) from by decide]; exact k)) ?_
        obtain ⟨cl127, Ar127, qk127, Sz127, Ng127, Ha127, Gf127⟩ := id V73
        have hin127 : ¬ ((7 : Int32) < 0 ∨ cl127.slots.size ≤ ((7 : Int32)).toNatClampNeg) := (inb_of Sz127 ⟨by decide, by decide⟩)
        have hat127 : cl127.slots[((7 : Int32)).toNatClampNeg]? = some (.int (-1)) := Ha127.at hin127 rfl
        refine oS (fun t k => X73.iaload hx (j := (7 : Int32)) (v := (.int (-1))) (by rw [e73]; exact Ar127.1) (State.isArrayOf_alike hZ.alike Ar127.2.1) Ar127.2.2 hin127 hat127 (g := (mkF m 214 #[.val (.int p1), .val (.int p2), .val (.int p3), .val (.int 0), .val (.int 2), .val (.int 1), .val (.ref b1), .unset, .unset, .unset] [(.int 7), (.ref b1)])) rfl rfl (hb hby at_214) t k) ?_
        refine oS (fun t k => XS.istore X73.here hx rfl (hb hby at_215) rfl (l' := #[.val (.int p1), .val (.int p2), .val (.int p3), .val (.int 0), .val (.int 2), .val (.int 1), .val (.ref b1), .val (.int (-1)), .unset, .unset]) rfl k) ?_
        show oG _ _ _ _ _ _ _ (T73.setTop (mkF m 217 #[.val (.int p1), .val (.int p2), .val (.int p3), .val (.int 0), .val (.int 2), .val (.int 1), .val (.ref b1), .val (.int (-1)), .unset, .unset] []))
        refine oS (fun t k => XS.iload X73.here hx rfl (hb hby at_217) rfl k) ?_
        refine oS (fun t k => XS.ifNo X73.here hx rfl (hb hby at_219) rfl ((if0 _ _).trans (tlt (by decide)).2.1) k) ?_
        refine oS (fun t k => XS.aconstNull X73.here hx rfl (hb hby at_222) k) ?_
        refine oS (fun t k => XS.goto X73.here hx rfl (pc0 := 223) (pc' := 231) rfl (hb hby at_223) (by decide) (by decide) k) ?_
        refine oS (fun t k => XS.astore X73.here hx rfl (hb hby at_231) rfl rfl (l' := #[.val (.int p1), .val (.int p2), .val (.int p3), .val (.int 0), .val (.int 2), .val (.int 1), .val (.ref b1), .val (.int (-1)), .val .null, .unset]) rfl k) ?_
        show oG _ _ _ _ _ _ _ (T73.setTop (mkF m 233 #[.val (.int p1), .val (.int p2), .val (.int p3), .val (.int 0), .val (.int 2), .val (.int 1), .val (.ref b1), .val (.int (-1)), .val .null, .unset] []))
        refine oS (fun t k => XS.iloadN X73.here hx rfl (hb hby at_233) rfl k) ?_
        obtain ⟨_, _, ⟨T128, L128, k128, n128⟩, -, X128, ⟨Lc128, hQ128, l128, y128, z128⟩, st128⟩ := Jvm.LawKit.callS X73 hx (y := mY0) hown (mvT hZ (oW hw 2 rfl)) (mvT hZ (oW hw 3 rfl)) (mvT hZ (oW hw 4 rfl)) (mvT hZ (oW hw 5 rfl)) (by decide) (backOf (W := 0) (rm_op_0 l Z a0 hw []  w h73 n0 O73 W ) hZ (oW hw 5 rfl) (oW hw 4 rfl) (by decide) (by decide)) (g := (mkF m 234 #[.val (.int p1), .val (.int p2), .val (.int p3), .val (.int 0), .val (.int 2), .val (.int 1), .val (.ref b1), .val (.int (-1)), .val .null, .unset] [(.int 0)])) rfl (by rw [hml]; rfl) (argsL := [(.int 0)]) (rest := []) (lenOf pd_5 rfl) rfl (by show 2 * 0 + _ ≤ _; exact Nat.le_of_eq rfl) (hb hby at_234) (fun _ _ => ⟨rfl, e73, (by decide : 1 + 0 ≤ _), (by decide : 36 + 0 ≤ _)⟩)
        dsimp only [Pt.U, Pt.locs, Pt.cells, Pt.slots] at X128 l128 y128 z128 st128 hQ128
        rw [l128, y128, z128] at X128
        clear l128 y128 z128
        obtain ⟨rfl, Nq128, e128⟩ := hQ128
        have N128 := Fr.app N73 Nq128
        refine oS (fun t k => st128 t k) ?_
        show oG _ _ _ _ _ _ _ (T128.setTop (mkF m 237 #[.val (.int p1), .val (.int p2), .val (.int p3), .val (.int 0), .val (.int 2), .val (.int 1), .val (.ref b1), .val (.int (-1)), .val .null, .unset] [(.ref (w 0))]))
        try clear st128 X73 e73
        try clear T73
        refine oS (fun t k => XS.iload X128.here hx rfl (hb hby at_237) rfl k) ?_
        obtain ⟨_, _, ⟨T129, L129, k129, n129⟩, -, X129, ⟨Lc129, hQ129, l129, y129, z129⟩, st129⟩ := Jvm.LawKit.callS X128 hx (y := mY2) hown (mvT hZ (oW hw 9 rfl)) (mvT hZ (oW hw 10 rfl)) (mvT hZ (oW hw 4 rfl)) (mvT hZ (oW hw 11 rfl)) (by decide) (backOf (W := 1) (rm_vt_2 l Z a0 hw []  w h73 n0 O73 W ) hZ (oW hw 11 rfl) (oW hw 4 rfl) (by decide) (by decide)) (g := (mkF m 239 #[.val (.int p1), .val (.int p2), .val (.int p3), .val (.int 0), .val (.int 2), .val (.int 1), .val (.ref b1), .val (.int (-1)), .val .null, .unset] [(.int 2), (.ref (w 0))])) rfl (by rw [hml]; rfl) (argsL := [(.int 2)]) (rest := [(.ref (w 0))]) (lenOf pd_4 rfl) rfl (by show 2 * 0 + _ ≤ _; exact Nat.le_of_eq rfl) (hb hby at_239) (fun _ _ => ⟨rfl, e128, (by decide : 1 + 0 ≤ _), (by decide : 36 + 0 ≤ _)⟩)
        dsimp only [Pt.U, Pt.locs, Pt.cells, Pt.slots] at X129 l129 y129 z129 st129 hQ129
        rw [l129, y129, z129] at X129
        clear l129 y129 z129
        obtain ⟨rfl, Nq129, e129⟩ := hQ129
        have N129 := Fr.app N128 Nq129
        refine oS (fun t k => st129 t k) ?_
        show oG _ _ _ _ _ _ _ (T129.setTop (mkF m 242 #[.val (.int p1), .val (.int p2), .val (.int p3), .val (.int 0), .val (.int 2), .val (.int 1), .val (.ref b1), .val (.int (-1)), .val .null, .unset] [(.ref (w 2)), (.ref (w 0))]))
        try clear st129 X128 e128
        refine oS (fun t k => XS.iload X129.here hx rfl (hb hby at_242) rfl k) ?_
        obtain ⟨_, _, ⟨T130, L130, k130, n130⟩, -, X130, ⟨Lc130, hQ130, l130, y130, z130⟩, st130⟩ := Jvm.LawKit.callS X129 hx (y := mY2) hown (mvT hZ (oW hw 9 rfl)) (mvT hZ (oW hw 10 rfl)) (mvT hZ (oW hw 4 rfl)) (mvT hZ (oW hw 11 rfl)) (by decide) (backOf (W := 2) (rm_vt_1 l Z a0 hw []  w h73 n0 O73 W ) hZ (oW hw 11 rfl) (oW hw 4 rfl) (by decide) (by decide)) (g := (mkF m 244 #[.val (.int p1), .val (.int p2), .val (.int p3), .val (.int 0), .val (.int 2), .val (.int 1), .val (.ref b1), .val (.int (-1)), .val .null, .unset] [(.int 1), (.ref (w 2)), (.ref (w 0))])) rfl (by rw [hml]; rfl) (argsL := [(.int 1)]) (rest := [(.ref (w 2)), (.ref (w 0))]) (lenOf pd_4 rfl) rfl (by show 2 * 0 + _ ≤ _; exact Nat.le_of_eq rfl) (hb hby at_244) (fun _ _ => ⟨rfl, e129, (by decide : 1 + 0 ≤ _), (by decide : 36 + 0 ≤ _)⟩)
        dsimp only [Pt.U, Pt.locs, Pt.cells, Pt.slots] at X130 l130 y130 z130 st130 hQ130
        rw [l130, y130, z130] at X130
        clear l130 y130 z130
        obtain ⟨rfl, Nq130, e130⟩ := hQ130
        have N130 := Fr.app N129 Nq130
        refine oS (fun t k => st130 t k) ?_
        show oG _ _ _ _ _ _ _ (T130.setTop (mkF m 247 #[.val (.int p1), .val (.int p2), .val (.int p3), .val (.int 0), .val (.int 2), .val (.int 1), .val (.ref b1), .val (.int (-1)), .val .null, .unset] [(.ref (w 3)), (.ref (w 2)), (.ref (w 0))]))
        try clear st130 X129 e129
        obtain ⟨cq131, kq131, q131a, q131b, q131c⟩ := isOf hZ e130 ((wE0 W).ext O73.2)
        obtain ⟨_, _, ⟨T131, L131, k131, n131⟩, -, X131, ⟨Lc131, hQ131, l131, y131, z131⟩, st131⟩ := X130.virtualBack hx (y := mY8) (z := mY8) hown (mvT hZ (oW hw 17 rfl)) (mvT hZ (oW hw 18 rfl)) (notFace_of_selects (args := #[]) (mvT hZ (oW hw 20 rfl))) (mvT hZ (oW hw 20 rfl)) (mvT hZ (oW hw 19 rfl)) (by decide) (backOf (W := 0) (rm_ty_021 l Z a0 hw []  w h73 n0 O73 W ) hZ (oW hw 21 rfl) (oW hw 7 rfl) (by decide) (by decide)) q131a q131c (g := (mkF m 247 #[.val (.int p1), .val (.int p2), .val (.int p3), .val (.int 0), .val (.int 2), .val (.int 1), .val (.ref b1), .val (.int (-1)), .val .null, .unset] [(.ref (w 3)), (.ref (w 2)), (.ref (w 0))])) rfl (by rw [hml]; rfl) (Steps.refl _) (argsL := [(.ref (w 2)), (.ref (w 3))]) (rest := []) (lenOf pd_6 rfl) rfl (by show 2 * 0 + _ ≤ _; exact Nat.le_of_eq rfl) (hb hby at_247) (fun _ _ => ⟨rfl, e130, (by decide : 1 + 0 ≤ _), (by decide : 36 + 0 ≤ _)⟩)
        dsimp only [Pt.U, Pt.locs, Pt.cells, Pt.slots] at X131 l131 y131 z131 st131 hQ131
        rw [l131, y131, z131] at X131
        clear l131 y131 z131
        obtain ⟨rfl, Nq131, e131⟩ := hQ131
        have N131 := Fr.app N130 Nq131
        refine oS (fun t k => st131.trans k) ?_
        show oG _ _ _ _ _ _ _ (T131.setTop (mkF m 250 #[.val (.int p1), .val (.int p2), .val (.int p3), .val (.int 0), .val (.int 2), .val (.int 1), .val (.ref b1), .val (.int (-1)), .val .null, .unset] [(.ref (w 7))]))
        try clear st131 X130 e130
        refine oS (fun t k => XS.aconstNull X131.here hx rfl (hb hby at_250) k) ?_
        obtain ⟨cq132, kq132, q132a, q132b, q132c⟩ := isOf hZ e131 ((wE7 W).ext O73.2)
        obtain ⟨_, _, ⟨T132, L132, k132, n132⟩, -, X132, ⟨Lc132, hQ132, l132, y132, z132⟩, st132⟩ := X131.virtualBack hx (y := mY7) (z := mY7) hown (mvT hZ (oW hw 39 rfl)) (mvT hZ (oW hw 40 rfl)) (notFace_of_selects (args := #[]) (mvT hZ (oW hw 42 rfl))) (mvT hZ (oW hw 42 rfl)) (mvT hZ (oW hw 41 rfl)) (by decide) (backOf (W := 0) (rm_oe0 l Z a0 hw [] (w 7)  h73 n0 O73  ((wF7_value W).ext O73.2)) hZ (oW hw 43 rfl) (oW hw 36 rfl) (by decide) (by decide)) q132a q132c (g := (mkF m 251 #[.val (.int p1), .val (.int p2), .val (.int p3), .val (.int 0), .val (.int 2), .val (.int 1), .val (.ref b1), .val (.int (-1)), .val .null, .unset] [.null, (.ref (w 7))])) rfl (by rw [hml]; rfl) (Steps.refl _) (argsL := [.null]) (rest := []) (lenOf pd_0 rfl) rfl (by show 2 * 0 + _ ≤ _; exact Nat.le_of_eq rfl) (hb hby at_251) (fun _ _ => ⟨rfl, e131, (by decide : 1 + 0 ≤ _), (by decide : 36 + 0 ≤ _)⟩)
        dsimp only [Pt.U, Pt.locs, Pt.cells, Pt.slots] at X132 l132 y132 z132 st132 hQ132
        rw [l132, y132, z132] at X132
        clear l132 y132 z132
        obtain ⟨rfl, Nq132, e132⟩ := hQ132
        have N132 := Fr.app N131 Nq132
        refine oS (fun t k => st132.trans k) ?_
        show oG _ _ _ _ _ _ _ (T132.setTop (mkF m 254 #[.val (.int p1), .val (.int p2), .val (.int p3), .val (.int 0), .val (.int 2), .val (.int 1), .val (.ref b1), .val (.int (-1)), .val .null, .unset] [.null]))
        try clear st132 X131 e131
        refine oS (fun t k => X132.checkcastNull hx (g := (mkF m 254 #[.val (.int p1), .val (.int p2), .val (.int p3), .val (.int 0), .val (.int 2), .val (.int 1), .val (.ref b1), .val (.int (-1)), .val .null, .unset] [.null])) rfl rfl (hb hby at_254) t k) ?_
        refine oS (fun t k => XS.astore X132.here hx rfl (hb hby at_257) rfl rfl (l' := #[.val (.int p1), .val (.int p2), .val (.int p3), .val (.int 0), .val (.int 2), .val (.int 1), .val (.ref b1), .val (.int (-1)), .val .null, .val .null]) rfl k) ?_
        refine oS (fun t k => XS.aload X132.here hx rfl (hb hby at_259) rfl rfl k) ?_
        refine oS (fun t k => XS.aload X132.here hx rfl (hb hby at_261) rfl rfl k) ?_
        refine oS (fun t k => Jvm.RoadKit.acmp (g := (mkF m 263 #[.val (.int p1), .val (.int p2), .val (.int p3), .val (.int 0), .val (.int 2), .val (.int 1), .val (.ref b1), .val (.int (-1)), .val .null, .val .null] [.null, .null])) X132 hx rfl rfl rfl (pc0 := 263) (pc' := 266) (same := true) rfl (hb hby at_263) rfl (decide_eq_true rfl) (by decide) (by decide) k) ?_
        show oG _ _ _ _ _ _ _ (T132.setTop (mkF m 266 #[.val (.int p1), .val (.int p2), .val (.int p3), .val (.int 0), .val (.int 2), .val (.int 1), .val (.ref b1), .val (.int (-1)), .val .null, .val .null] []))
        refine oS (fun t k => oIc li_1 X132.here hx rfl (hb hby at_266) k) ?_
        refine oS (fun t k => XS.goto X132.here hx rfl (pc0 := 267) (pc' := 271) rfl (hb hby at_267) (by decide) (by decide) k) ?_
        exact own_ret (v := some (.int 1)) X132 (fun h => by rw [Bd.returns] at h; cases h) Bd.notSynchronized (fun fs hr => retN X132 hx (t := .boolean) Bd.returns (by simp) (hb hby at_271) hr) (by rw [e132]; exact ⟨rfl, N132⟩) (by decide) (by decide)
      · rw [hs120]
        show oG _ _ _ _ _ _ _ (T73.setTop (mkF m 200 #[.val (.int p1), .val (.int p2), .val (.int p3), .val (.int 0), .val (.int 2), .val (.int 2), .val (.ref b1), .unset, .unset, .unset] []))
        refine oS (fun t k => XS.aload X73.here hx rfl (hb hby at_200) rfl rfl k) ?_
        refine oS (fun t k => XS.iloadN X73.here hx rfl (hb hby at_202) rfl k) ?_
        show oG _ _ _ _ _ _ _ (T73.setTop (mkF m 203 #[.val (.int p1), .val (.int p2), .val (.int p3), .val (.int 0), .val (.int 2), .val (.int 2), .val (.ref b1), .unset, .unset, .unset] [(.int 0), (.ref b1)]))
        refine oS (fun t k => oBp lb_9 X73.here hx rfl (hb hby at_203) k) ?_
        refine oS (S' := (T73.setTop (mkF m 206 #[.val (.int p1), .val (.int p2), .val (.int p3), .val (.int 0), .val (.int 2), .val (.int 2), .val (.ref b1), .unset, .unset, .unset] [(.int 0), (.ref b1)]))) (fun t k => XS.imul X73.here hx rfl (hb hby at_205) rfl (by rw [show (0 : Int32) * (9 : Int32) = (0 : Int32) from by decide]; exact k)) ?_
        refine oS (fun t k => XS.iload X73.here hx rfl (hb hby at_206) rfl k) ?_
        refine oS (fun t k => oIc li_3 X73.here hx rfl (hb hby at_208) k) ?_
        refine oS (S' := (T73.setTop (mkF m 210 #[.val (.int p1), .val (.int p2), .val (.int p3), .val (.int 0), .val (.int 2), .val (.int 2), .val (.ref b1), .unset, .unset, .unset] [(.int 6), (.int 0), (.ref b1)]))) (fun t k => XS.imul X73.here hx rfl (hb hby at_209) rfl (by rw [show (2 : Int32) * (3 : Int32) = (6 : Int32) from by decide]; exact k)) ?_
        refine oS (S' := (T73.setTop (mkF m 211 #[.val (.int p1), .val (.int p2), .val (.int p3), .val (.int 0), .val (.int 2), .val (.int 2), .val (.ref b1), .unset, .unset, .unset] [(.int 6), (.ref b1)]))) (fun t k => XS.iadd X73.here hx rfl (hb hby at_210) rfl (by rw [show (0 : Int32) + (6 : Int32) = (6 : Int32) from by decide]; exact k)) ?_
        refine oS (fun t k => XS.iload X73.here hx rfl (hb hby at_211) rfl k) ?_
        refine oS (S' := (T73.setTop (mkF m 214 #[.val (.int p1), .val (.int p2), .val (.int p3), .val (.int 0), .val (.int 2), .val (.int 2), .val (.ref b1), .unset, .unset, .unset] [(.int 8), (.ref b1)]))) (fun t k => XS.iadd X73.here hx rfl (hb hby at_213) rfl (by rw [show (6 : Int32) + (2 : Int32) = (8 : Int32) from by decide]; exact k)) ?_
        obtain ⟨cl133, Ar133, qk133, Sz133, Ng133, Ha133, Gf133⟩ := id V73
        have hin133 : ¬ ((8 : Int32) < 0 ∨ cl133.slots.size ≤ ((8 : Int32)).toNatClampNeg) := (inb_of Sz133 ⟨by decide, by decide⟩)
        have hat133 : cl133.slots[((8 : Int32)).toNatClampNeg]? = some (.int (-1)) := Ha133.at hin133 rfl
        refine oS (fun t k => X73.iaload hx (j := (8 : Int32)) (v := (.int (-1))) (by rw [e73]; exact Ar133.1) (State.isArrayOf_alike hZ.alike Ar133.2.1) Ar133.2.2 hin133 hat133 (g := (mkF m 214 #[.val (.int p1), .val (.int p2), .val (.int p3), .val (.int 0), .val (.int 2), .val (.int 2), .val (.ref b1), .unset, .unset, .unset] [(.int 8), (.ref b1)])) rfl rfl (hb hby at_214) t k) ?_
        refine oS (fun t k => XS.istore X73.here hx rfl (hb hby at_215) rfl (l' := #[.val (.int p1), .val (.int p2), .val (.int p3), .val (.int 0), .val (.int 2), .val (.int 2), .val (.ref b1), .val (.int (-1)), .unset, .unset]) rfl k) ?_
        show oG _ _ _ _ _ _ _ (T73.setTop (mkF m 217 #[.val (.int p1), .val (.int p2), .val (.int p3), .val (.int 0), .val (.int 2), .val (.int 2), .val (.ref b1), .val (.int (-1)), .unset, .unset] []))
        refine oS (fun t k => XS.iload X73.here hx rfl (hb hby at_217) rfl k) ?_
        refine oS (fun t k => XS.ifNo X73.here hx rfl (hb hby at_219) rfl ((if0 _ _).trans (tlt (by decide)).2.1) k) ?_
        refine oS (fun t k => XS.aconstNull X73.here hx rfl (hb hby at_222) k) ?_
        refine oS (fun t k => XS.goto X73.here hx rfl (pc0 := 223) (pc' := 231) rfl (hb hby at_223) (by decide) (by decide) k) ?_
        refine oS (fun t k => XS.astore X73.here hx rfl (hb hby at_231) rfl rfl (l' := #[.val (.int p1), .val (.int p2), .val (.int p3), .val (.int 0), .val (.int 2), .val (.int 2), .val (.ref b1), .val (.int (-1)), .val .null, .unset]) rfl k) ?_
        show oG _ _ _ _ _ _ _ (T73.setTop (mkF m 233 #[.val (.int p1), .val (.int p2), .val (.int p3), .val (.int 0), .val (.int 2), .val (.int 2), .val (.ref b1), .val (.int (-1)), .val .null, .unset] []))
        refine oS (fun t k => XS.iloadN X73.here hx rfl (hb hby at_233) rfl k) ?_
        obtain ⟨_, _, ⟨T134, L134, k134, n134⟩, -, X134, ⟨Lc134, hQ134, l134, y134, z134⟩, st134⟩ := Jvm.LawKit.callS X73 hx (y := mY0) hown (mvT hZ (oW hw 2 rfl)) (mvT hZ (oW hw 3 rfl)) (mvT hZ (oW hw 4 rfl)) (mvT hZ (oW hw 5 rfl)) (by decide) (backOf (W := 0) (rm_op_0 l Z a0 hw []  w h73 n0 O73 W ) hZ (oW hw 5 rfl) (oW hw 4 rfl) (by decide) (by decide)) (g := (mkF m 234 #[.val (.int p1), .val (.int p2), .val (.int p3), .val (.int 0), .val (.int 2), .val (.int 2), .val (.ref b1), .val (.int (-1)), .val .null, .unset] [(.int 0)])) rfl (by rw [hml]; rfl) (argsL := [(.int 0)]) (rest := []) (lenOf pd_5 rfl) rfl (by show 2 * 0 + _ ≤ _; exact Nat.le_of_eq rfl) (hb hby at_234) (fun _ _ => ⟨rfl, e73, (by decide : 1 + 0 ≤ _), (by decide : 36 + 0 ≤ _)⟩)
        dsimp only [Pt.U, Pt.locs, Pt.cells, Pt.slots] at X134 l134 y134 z134 st134 hQ134
        rw [l134, y134, z134] at X134
        clear l134 y134 z134
        obtain ⟨rfl, Nq134, e134⟩ := hQ134
        have N134 := Fr.app N73 Nq134
        refine oS (fun t k => st134 t k) ?_
        show oG _ _ _ _ _ _ _ (T134.setTop (mkF m 237 #[.val (.int p1), .val (.int p2), .val (.int p3), .val (.int 0), .val (.int 2), .val (.int 2), .val (.ref b1), .val (.int (-1)), .val .null, .unset] [(.ref (w 0))]))
        try clear st134 X73 e73
        try clear T73
        refine oS (fun t k => XS.iload X134.here hx rfl (hb hby at_237) rfl k) ?_
        obtain ⟨_, _, ⟨T135, L135, k135, n135⟩, -, X135, ⟨Lc135, hQ135, l135, y135, z135⟩, st135⟩ := Jvm.LawKit.callS X134 hx (y := mY2) hown (mvT hZ (oW hw 9 rfl)) (mvT hZ (oW hw 10 rfl)) (mvT hZ (oW hw 4 rfl)) (mvT hZ (oW hw 11 rfl)) (by decide) (backOf (W := 1) (rm_vt_2 l Z a0 hw []  w h73 n0 O73 W ) hZ (oW hw 11 rfl) (oW hw 4 rfl) (by decide) (by decide)) (g := (mkF m 239 #[.val (.int p1), .val (.int p2), .val (.int p3), .val (.int 0), .val (.int 2), .val (.int 2), .val (.ref b1), .val (.int (-1)), .val .null, .unset] [(.int 2), (.ref (w 0))])) rfl (by rw [hml]; rfl) (argsL := [(.int 2)]) (rest := [(.ref (w 0))]) (lenOf pd_4 rfl) rfl (by show 2 * 0 + _ ≤ _; exact Nat.le_of_eq rfl) (hb hby at_239) (fun _ _ => ⟨rfl, e134, (by decide : 1 + 0 ≤ _), (by decide : 36 + 0 ≤ _)⟩)
        dsimp only [Pt.U, Pt.locs, Pt.cells, Pt.slots] at X135 l135 y135 z135 st135 hQ135
        rw [l135, y135, z135] at X135
        clear l135 y135 z135
        obtain ⟨rfl, Nq135, e135⟩ := hQ135
        have N135 := Fr.app N134 Nq135
        refine oS (fun t k => st135 t k) ?_
        show oG _ _ _ _ _ _ _ (T135.setTop (mkF m 242 #[.val (.int p1), .val (.int p2), .val (.int p3), .val (.int 0), .val (.int 2), .val (.int 2), .val (.ref b1), .val (.int (-1)), .val .null, .unset] [(.ref (w 2)), (.ref (w 0))]))
        try clear st135 X134 e134
        refine oS (fun t k => XS.iload X135.here hx rfl (hb hby at_242) rfl k) ?_
        obtain ⟨_, _, ⟨T136, L136, k136, n136⟩, -, X136, ⟨Lc136, hQ136, l136, y136, z136⟩, st136⟩ := Jvm.LawKit.callS X135 hx (y := mY2) hown (mvT hZ (oW hw 9 rfl)) (mvT hZ (oW hw 10 rfl)) (mvT hZ (oW hw 4 rfl)) (mvT hZ (oW hw 11 rfl)) (by decide) (backOf (W := 2) (rm_vt_2 l Z a0 hw []  w h73 n0 O73 W ) hZ (oW hw 11 rfl) (oW hw 4 rfl) (by decide) (by decide)) (g := (mkF m 244 #[.val (.int p1), .val (.int p2), .val (.int p3), .val (.int 0), .val (.int 2), .val (.int 2), .val (.ref b1), .val (.int (-1)), .val .null, .unset] [(.int 2), (.ref (w 2)), (.ref (w 0))])) rfl (by rw [hml]; rfl) (argsL := [(.int 2)]) (rest := [(.ref (w 2)), (.ref (w 0))]) (lenOf pd_4 rfl) rfl (by show 2 * 0 + _ ≤ _; exact Nat.le_of_eq rfl) (hb hby at_244) (fun _ _ => ⟨rfl, e135, (by decide : 1 + 0 ≤ _), (by decide : 36 + 0 ≤ _)⟩)
        dsimp only [Pt.U, Pt.locs, Pt.cells, Pt.slots] at X136 l136 y136 z136 st136 hQ136
        rw [l136, y136, z136] at X136
        clear l136 y136 z136
        obtain ⟨rfl, Nq136, e136⟩ := hQ136
        have N136 := Fr.app N135 Nq136
        refine oS (fun t k => st136 t k) ?_
        show oG _ _ _ _ _ _ _ (T136.setTop (mkF m 247 #[.val (.int p1), .val (.int p2), .val (.int p3), .val (.int 0), .val (.int 2), .val (.int 2), .val (.ref b1), .val (.int (-1)), .val .null, .unset] [(.ref (w 2)), (.ref (w 2)), (.ref (w 0))]))
        try clear st136 X135 e135
        obtain ⟨cq137, kq137, q137a, q137b, q137c⟩ := isOf hZ e136 ((wE0 W).ext O73.2)
        obtain ⟨_, _, ⟨T137, L137, k137, n137⟩, -, X137, ⟨Lc137, hQ137, l137, y137, z137⟩, st137⟩ := X136.virtualBack hx (y := mY8) (z := mY8) hown (mvT hZ (oW hw 17 rfl)) (mvT hZ (oW hw 18 rfl)) (notFace_of_selects (args := #[]) (mvT hZ (oW hw 20 rfl))) (mvT hZ (oW hw 20 rfl)) (mvT hZ (oW hw 19 rfl)) (by decide) (backOf (W := 0) (rm_ty_022 l Z a0 hw []  w h73 n0 O73 W ) hZ (oW hw 21 rfl) (oW hw 7 rfl) (by decide) (by decide)) q137a q137c (g := (mkF m 247 #[.val (.int p1), .val (.int p2), .val (.int p3), .val (.int 0), .val (.int 2), .val (.int 2), .val (.ref b1), .val (.int (-1)), .val .null, .unset] [(.ref (w 2)), (.ref (w 2)), (.ref (w 0))])) rfl (by rw [hml]; rfl) (Steps.refl _) (argsL := [(.ref (w 2)), (.ref (w 2))]) (rest := []) (lenOf pd_6 rfl) rfl (by show 2 * 0 + _ ≤ _; exact Nat.le_of_eq rfl) (hb hby at_247) (fun _ _ => ⟨rfl, e136, (by decide : 1 + 0 ≤ _), (by decide : 36 + 0 ≤ _)⟩)
        dsimp only [Pt.U, Pt.locs, Pt.cells, Pt.slots] at X137 l137 y137 z137 st137 hQ137
        rw [l137, y137, z137] at X137
        clear l137 y137 z137
        obtain ⟨rfl, Nq137, e137⟩ := hQ137
        have N137 := Fr.app N136 Nq137
        refine oS (fun t k => st137.trans k) ?_
        show oG _ _ _ _ _ _ _ (T137.setTop (mkF m 250 #[.val (.int p1), .val (.int p2), .val (.int p3), .val (.int 0), .val (.int 2), .val (.int 2), .val (.ref b1), .val (.int (-1)), .val .null, .unset] [(.ref (w 7))]))
        try clear st137 X136 e136
        refine oS (fun t k => XS.aconstNull X137.here hx rfl (hb hby at_250) k) ?_
        obtain ⟨cq138, kq138, q138a, q138b, q138c⟩ := isOf hZ e137 ((wE7 W).ext O73.2)
        obtain ⟨_, _, ⟨T138, L138, k138, n138⟩, -, X138, ⟨Lc138, hQ138, l138, y138, z138⟩, st138⟩ := X137.virtualBack hx (y := mY7) (z := mY7) hown (mvT hZ (oW hw 39 rfl)) (mvT hZ (oW hw 40 rfl)) (notFace_of_selects (args := #[]) (mvT hZ (oW hw 42 rfl))) (mvT hZ (oW hw 42 rfl)) (mvT hZ (oW hw 41 rfl)) (by decide) (backOf (W := 0) (rm_oe0 l Z a0 hw [] (w 7)  h73 n0 O73  ((wF7_value W).ext O73.2)) hZ (oW hw 43 rfl) (oW hw 36 rfl) (by decide) (by decide)) q138a q138c (g := (mkF m 251 #[.val (.int p1), .val (.int p2), .val (.int p3), .val (.int 0), .val (.int 2), .val (.int 2), .val (.ref b1), .val (.int (-1)), .val .null, .unset] [.null, (.ref (w 7))])) rfl (by rw [hml]; rfl) (Steps.refl _) (argsL := [.null]) (rest := []) (lenOf pd_0 rfl) rfl (by show 2 * 0 + _ ≤ _; exact Nat.le_of_eq rfl) (hb hby at_251) (fun _ _ => ⟨rfl, e137, (by decide : 1 + 0 ≤ _), (by decide : 36 + 0 ≤ _)⟩)
        dsimp only [Pt.U, Pt.locs, Pt.cells, Pt.slots] at X138 l138 y138 z138 st138 hQ138
        rw [l138, y138, z138] at X138
        clear l138 y138 z138
        obtain ⟨rfl, Nq138, e138⟩ := hQ138
        have N138 := Fr.app N137 Nq138
        refine oS (fun t k => st138.trans k) ?_
        show oG _ _ _ _ _ _ _ (T138.setTop (mkF m 254 #[.val (.int p1), .val (.int p2), .val (.int p3), .val (.int 0), .val (.int 2), .val (.int 2), .val (.ref b1), .val (.int (-1)), .val .null, .unset] [.null]))
        try clear st138 X137 e137
        refine oS (fun t k => X138.checkcastNull hx (g := (mkF m 254 #[.val (.int p1), .val (.int p2), .val (.int p3), .val (.int 0), .val (.int 2), .val (.int 2), .val (.ref b1), .val (.int (-1)), .val .null, .unset] [.null])) rfl rfl (hb hby at_254) t k) ?_
        refine oS (fun t k => XS.astore X138.here hx rfl (hb hby at_257) rfl rfl (l' := #[.val (.int p1), .val (.int p2), .val (.int p3), .val (.int 0), .val (.int 2), .val (.int 2), .val (.ref b1), .val (.int (-1)), .val .null, .val .null]) rfl k) ?_
        refine oS (fun t k => XS.aload X138.here hx rfl (hb hby at_259) rfl rfl k) ?_
        refine oS (fun t k => XS.aload X138.here hx rfl (hb hby at_261) rfl rfl k) ?_
        refine oS (fun t k => Jvm.RoadKit.acmp (g := (mkF m 263 #[.val (.int p1), .val (.int p2), .val (.int p3), .val (.int 0), .val (.int 2), .val (.int 2), .val (.ref b1), .val (.int (-1)), .val .null, .val .null] [.null, .null])) X138 hx rfl rfl rfl (pc0 := 263) (pc' := 266) (same := true) rfl (hb hby at_263) rfl (decide_eq_true rfl) (by decide) (by decide) k) ?_
        show oG _ _ _ _ _ _ _ (T138.setTop (mkF m 266 #[.val (.int p1), .val (.int p2), .val (.int p3), .val (.int 0), .val (.int 2), .val (.int 2), .val (.ref b1), .val (.int (-1)), .val .null, .val .null] []))
        refine oS (fun t k => oIc li_1 X138.here hx rfl (hb hby at_266) k) ?_
        refine oS (fun t k => XS.goto X138.here hx rfl (pc0 := 267) (pc' := 271) rfl (hb hby at_267) (by decide) (by decide) k) ?_
        exact own_ret (v := some (.int 1)) X138 (fun h => by rw [Bd.returns] at h; cases h) Bd.notSynchronized (fun fs hr => retN X138 hx (t := .boolean) Bd.returns (by simp) (hb hby at_271) hr) (by rw [e138]; exact ⟨rfl, N138⟩) (by decide) (by decide)
  · rw [hs74]
    show oG _ _ _ _ _ _ _ (T73.setTop (mkF m 200 #[.val (.int p1), .val (.int p2), .val (.int p3), .val (.int 1), .val (.int ((p2 &&& (2147483647 : Int32)) % (3 : Int32))), .val (.int ((p3 &&& (2147483647 : Int32)) % (3 : Int32))), .val (.ref b1), .unset, .unset, .unset] []))
    show oG _ _ _ _ _ _ _ (T73.setTop (mkF m 200 #[.val (.int p1), .val (.int p2), .val (.int p3), .val (.int 1), .val (.int ((p2 &&& (2147483647 : Int32)) % (3 : Int32))), .val (.int ((p3 &&& (2147483647 : Int32)) % (3 : Int32))), .val (.ref b1), .unset, .unset, .unset] []))
    rcases own_three p2 with hs139 | hs139 | hs139
    · rw [hs139]
      show oG _ _ _ _ _ _ _ (T73.setTop (mkF m 200 #[.val (.int p1), .val (.int p2), .val (.int p3), .val (.int 1), .val (.int 0), .val (.int ((p3 &&& (2147483647 : Int32)) % (3 : Int32))), .val (.ref b1), .unset, .unset, .unset] []))
      show oG _ _ _ _ _ _ _ (T73.setTop (mkF m 200 #[.val (.int p1), .val (.int p2), .val (.int p3), .val (.int 1), .val (.int 0), .val (.int ((p3 &&& (2147483647 : Int32)) % (3 : Int32))), .val (.ref b1), .unset, .unset, .unset] []))
      rcases own_three p3 with hs140 | hs140 | hs140
      · rw [hs140]
        show oG _ _ _ _ _ _ _ (T73.setTop (mkF m 200 #[.val (.int p1), .val (.int p2), .val (.int p3), .val (.int 1), .val (.int 0), .val (.int 0), .val (.ref b1), .unset, .unset, .unset] []))
        refine oS (fun t k => XS.aload X73.here hx rfl (hb hby at_200) rfl rfl k) ?_
        refine oS (fun t k => XS.iloadN X73.here hx rfl (hb hby at_202) rfl k) ?_
        show oG _ _ _ _ _ _ _ (T73.setTop (mkF m 203 #[.val (.int p1), .val (.int p2), .val (.int p3), .val (.int 1), .val (.int 0), .val (.int 0), .val (.ref b1), .unset, .unset, .unset] [(.int 1), (.ref b1)]))
        refine oS (fun t k => oBp lb_9 X73.here hx rfl (hb hby at_203) k) ?_
        refine oS (S' := (T73.setTop (mkF m 206 #[.val (.int p1), .val (.int p2), .val (.int p3), .val (.int 1), .val (.int 0), .val (.int 0), .val (.ref b1), .unset, .unset, .unset] [(.int 9), (.ref b1)]))) (fun t k => XS.imul X73.here hx rfl (hb hby at_205) rfl (by rw [show (1 : Int32) * (9 : Int32) = (9 : Int32) from by decide]; exact k)) ?_
        refine oS (fun t k => XS.iload X73.here hx rfl (hb hby at_206) rfl k) ?_
        refine oS (fun t k => oIc li_3 X73.here hx rfl (hb hby at_208) k) ?_
        refine oS (S' := (T73.setTop (mkF m 210 #[.val (.int p1), .val (.int p2), .val (.int p3), .val (.int 1), .val (.int 0), .val (.int 0), .val (.ref b1), .unset, .unset, .unset] [(.int 0), (.int 9), (.ref b1)]))) (fun t k => XS.imul X73.here hx rfl (hb hby at_209) rfl (by rw [show (0 : Int32) * (3 : Int32) = (0 : Int32) from by decide]; exact k)) ?_
        refine oS (S' := (T73.setTop (mkF m 211 #[.val (.int p1), .val (.int p2), .val (.int p3), .val (.int 1), .val (.int 0), .val (.int 0), .val (.ref b1), .unset, .unset, .unset] [(.int 9), (.ref b1)]))) (fun t k => XS.iadd X73.here hx rfl (hb hby at_210) rfl (by rw [show (9 : Int32) + (0 : Int32) = (9 : Int32) from by decide]; exact k)) ?_
        refine oS (fun t k => XS.iload X73.here hx rfl (hb hby at_211) rfl k) ?_
        refine oS (S' := (T73.setTop (mkF m 214 #[.val (.int p1), .val (.int p2), .val (.int p3), .val (.int 1), .val (.int 0), .val (.int 0), .val (.ref b1), .unset, .unset, .unset] [(.int 9), (.ref b1)]))) (fun t k => XS.iadd X73.here hx rfl (hb hby at_213) rfl (by rw [show (9 : Int32) + (0 : Int32) = (9 : Int32) from by decide]; exact k)) ?_
        obtain ⟨cl141, Ar141, qk141, Sz141, Ng141, Ha141, Gf141⟩ := id V73
        have hin141 : ¬ ((9 : Int32) < 0 ∨ cl141.slots.size ≤ ((9 : Int32)).toNatClampNeg) := (inb_of Sz141 ⟨by decide, by decide⟩)
        have hat141 : cl141.slots[((9 : Int32)).toNatClampNeg]? = some (.int 0) := Ha141.at hin141 rfl
        refine oS (fun t k => X73.iaload hx (j := (9 : Int32)) (v := (.int 0)) (by rw [e73]; exact Ar141.1) (State.isArrayOf_alike hZ.alike Ar141.2.1) Ar141.2.2 hin141 hat141 (g := (mkF m 214 #[.val (.int p1), .val (.int p2), .val (.int p3), .val (.int 1), .val (.int 0), .val (.int 0), .val (.ref b1), .unset, .unset, .unset] [(.int 9), (.ref b1)])) rfl rfl (hb hby at_214) t k) ?_
        refine oS (fun t k => XS.istore X73.here hx rfl (hb hby at_215) rfl (l' := #[.val (.int p1), .val (.int p2), .val (.int p3), .val (.int 1), .val (.int 0), .val (.int 0), .val (.ref b1), .val (.int 0), .unset, .unset]) rfl k) ?_
        show oG _ _ _ _ _ _ _ (T73.setTop (mkF m 217 #[.val (.int p1), .val (.int p2), .val (.int p3), .val (.int 1), .val (.int 0), .val (.int 0), .val (.ref b1), .val (.int 0), .unset, .unset] []))
        refine oS (fun t k => XS.iload X73.here hx rfl (hb hby at_217) rfl k) ?_
        refine oS (fun t k => XS.ifYes X73.here hx rfl (pc0 := 219) (pc' := 226) rfl (hb hby at_219) rfl ((if0 _ _).trans (flt (by decide)).2.1) (by decide) (by decide) k) ?_
        refine oS (fun t k => XS.iload X73.here hx rfl (hb hby at_226) rfl k) ?_
        obtain ⟨_, _, ⟨T142, L142, k142, n142⟩, -, X142, ⟨Lc142, hQ142, l142, y142, z142⟩, st142⟩ := Jvm.LawKit.callS X73 hx (y := mY2) hown (mvT hZ (oW hw 9 rfl)) (mvT hZ (oW hw 10 rfl)) (mvT hZ (oW hw 4 rfl)) (mvT hZ (oW hw 11 rfl)) (by decide) (backOf (W := 0) (rm_vt_0 l Z a0 hw []  w h73 n0 O73 W ) hZ (oW hw 11 rfl) (oW hw 4 rfl) (by decide) (by decide)) (g := (mkF m 228 #[.val (.int p1), .val (.int p2), .val (.int p3), .val (.int 1), .val (.int 0), .val (.int 0), .val (.ref b1), .val (.int 0), .unset, .unset] [(.int 0)])) rfl (by rw [hml]; rfl) (argsL := [(.int 0)]) (rest := []) (lenOf pd_4 rfl) rfl (by show 2 * 0 + _ ≤ _; exact Nat.le_of_eq rfl) (hb hby at_228) (fun _ _ => ⟨rfl, e73, (by decide : 1 + 0 ≤ _), (by decide : 36 + 0 ≤ _)⟩)
        dsimp only [Pt.U, Pt.locs, Pt.cells, Pt.slots] at X142 l142 y142 z142 st142 hQ142
        rw [l142, y142, z142] at X142
        clear l142 y142 z142
        obtain ⟨rfl, Nq142, e142⟩ := hQ142
        have N142 := Fr.app N73 Nq142
        refine oS (fun t k => st142 t k) ?_
        show oG _ _ _ _ _ _ _ (T142.setTop (mkF m 231 #[.val (.int p1), .val (.int p2), .val (.int p3), .val (.int 1), .val (.int 0), .val (.int 0), .val (.ref b1), .val (.int 0), .unset, .unset] [(.ref (w 1))]))
        try clear st142 X73 e73
        try clear T73
        refine oS (fun t k => XS.astore X142.here hx rfl (hb hby at_231) rfl rfl (l' := #[.val (.int p1), .val (.int p2), .val (.int p3), .val (.int 1), .val (.int 0), .val (.int 0), .val (.ref b1), .val (.int 0), .val (.ref (w 1)), .unset]) rfl k) ?_
        refine oS (fun t k => XS.iloadN X142.here hx rfl (hb hby at_233) rfl k) ?_
        obtain ⟨_, _, ⟨T143, L143, k143, n143⟩, -, X143, ⟨Lc143, hQ143, l143, y143, z143⟩, st143⟩ := Jvm.LawKit.callS X142 hx (y := mY0) hown (mvT hZ (oW hw 2 rfl)) (mvT hZ (oW hw 3 rfl)) (mvT hZ (oW hw 4 rfl)) (mvT hZ (oW hw 5 rfl)) (by decide) (backOf (W := 0) (rm_op_1 l Z a0 hw []  w h73 n0 O73 W ) hZ (oW hw 5 rfl) (oW hw 4 rfl) (by decide) (by decide)) (g := (mkF m 234 #[.val (.int p1), .val (.int p2), .val (.int p3), .val (.int 1), .val (.int 0), .val (.int 0), .val (.ref b1), .val (.int 0), .val (.ref (w 1)), .unset] [(.int 1)])) rfl (by rw [hml]; rfl) (argsL := [(.int 1)]) (rest := []) (lenOf pd_5 rfl) rfl (by show 2 * 0 + _ ≤ _; exact Nat.le_of_eq rfl) (hb hby at_234) (fun _ _ => ⟨rfl, e142, (by decide : 1 + 0 ≤ _), (by decide : 36 + 0 ≤ _)⟩)
        dsimp only [Pt.U, Pt.locs, Pt.cells, Pt.slots] at X143 l143 y143 z143 st143 hQ143
        rw [l143, y143, z143] at X143
        clear l143 y143 z143
        obtain ⟨rfl, Nq143, e143⟩ := hQ143
        have N143 := Fr.app N142 Nq143
        refine oS (fun t k => st143 t k) ?_
        show oG _ _ _ _ _ _ _ (T143.setTop (mkF m 237 #[.val (.int p1), .val (.int p2), .val (.int p3), .val (.int 1), .val (.int 0), .val (.int 0), .val (.ref b1), .val (.int 0), .val (.ref (w 1)), .unset] [(.ref (w 4))]))
        try clear st143 X142 e142
        refine oS (fun t k => XS.iload X143.here hx rfl (hb hby at_237) rfl k) ?_
        obtain ⟨_, _, ⟨T144, L144, k144, n144⟩, -, X144, ⟨Lc144, hQ144, l144, y144, z144⟩, st144⟩ := Jvm.LawKit.callS X143 hx (y := mY2) hown (mvT hZ (oW hw 9 rfl)) (mvT hZ (oW hw 10 rfl)) (mvT hZ (oW hw 4 rfl)) (mvT hZ (oW hw 11 rfl)) (by decide) (backOf (W := 1) (rm_vt_0 l Z a0 hw []  w h73 n0 O73 W ) hZ (oW hw 11 rfl) (oW hw 4 rfl) (by decide) (by decide)) (g := (mkF m 239 #[.val (.int p1), .val (.int p2), .val (.int p3), .val (.int 1), .val (.int 0), .val (.int 0), .val (.ref b1), .val (.int 0), .val (.ref (w 1)), .unset] [(.int 0), (.ref (w 4))])) rfl (by rw [hml]; rfl) (argsL := [(.int 0)]) (rest := [(.ref (w 4))]) (lenOf pd_4 rfl) rfl (by show 2 * 0 + _ ≤ _; exact Nat.le_of_eq rfl) (hb hby at_239) (fun _ _ => ⟨rfl, e143, (by decide : 1 + 0 ≤ _), (by decide : 36 + 0 ≤ _)⟩)
        dsimp only [Pt.U, Pt.locs, Pt.cells, Pt.slots] at X144 l144 y144 z144 st144 hQ144
        rw [l144, y144, z144] at X144
        clear l144 y144 z144
        obtain ⟨rfl, Nq144, e144⟩ := hQ144
        have N144 := Fr.app N143 Nq144
        refine oS (fun t k => st144 t k) ?_
        show oG _ _ _ _ _ _ _ (T144.setTop (mkF m 242 #[.val (.int p1), .val (.int p2), .val (.int p3), .val (.int 1), .val (.int 0), .val (.int 0), .val (.ref b1), .val (.int 0), .val (.ref (w 1)), .unset] [(.ref (w 1)), (.ref (w 4))]))
        try clear st144 X143 e143
        refine oS (fun t k => XS.iload X144.here hx rfl (hb hby at_242) rfl k) ?_
        obtain ⟨_, _, ⟨T145, L145, k145, n145⟩, -, X145, ⟨Lc145, hQ145, l145, y145, z145⟩, st145⟩ := Jvm.LawKit.callS X144 hx (y := mY2) hown (mvT hZ (oW hw 9 rfl)) (mvT hZ (oW hw 10 rfl)) (mvT hZ (oW hw 4 rfl)) (mvT hZ (oW hw 11 rfl)) (by decide) (backOf (W := 2) (rm_vt_0 l Z a0 hw []  w h73 n0 O73 W ) hZ (oW hw 11 rfl) (oW hw 4 rfl) (by decide) (by decide)) (g := (mkF m 244 #[.val (.int p1), .val (.int p2), .val (.int p3), .val (.int 1), .val (.int 0), .val (.int 0), .val (.ref b1), .val (.int 0), .val (.ref (w 1)), .unset] [(.int 0), (.ref (w 1)), (.ref (w 4))])) rfl (by rw [hml]; rfl) (argsL := [(.int 0)]) (rest := [(.ref (w 1)), (.ref (w 4))]) (lenOf pd_4 rfl) rfl (by show 2 * 0 + _ ≤ _; exact Nat.le_of_eq rfl) (hb hby at_244) (fun _ _ => ⟨rfl, e144, (by decide : 1 + 0 ≤ _), (by decide : 36 + 0 ≤ _)⟩)
        dsimp only [Pt.U, Pt.locs, Pt.cells, Pt.slots] at X145 l145 y145 z145 st145 hQ145
        rw [l145, y145, z145] at X145
        clear l145 y145 z145
        obtain ⟨rfl, Nq145, e145⟩ := hQ145
        have N145 := Fr.app N144 Nq145
        refine oS (fun t k => st145 t k) ?_
        show oG _ _ _ _ _ _ _ (T145.setTop (mkF m 247 #[.val (.int p1), .val (.int p2), .val (.int p3), .val (.int 1), .val (.int 0), .val (.int 0), .val (.ref b1), .val (.int 0), .val (.ref (w 1)), .unset] [(.ref (w 1)), (.ref (w 1)), (.ref (w 4))]))
        try clear st145 X144 e144
        obtain ⟨cq146, kq146, q146a, q146b, q146c⟩ := isOf hZ e145 ((wE4 W).ext O73.2)
        obtain ⟨_, _, ⟨T146, L146, k146, n146⟩, -, X146, ⟨Lc146, hQ146, l146, y146, z146⟩, st146⟩ := X145.virtualBack hx (y := mY8) (z := mY8) hown (mvT hZ (oW hw 17 rfl)) (mvT hZ (oW hw 18 rfl)) (notFace_of_selects (args := #[]) (mvT hZ (oW hw 20 rfl))) (mvT hZ (oW hw 20 rfl)) (mvT hZ (oW hw 19 rfl)) (by decide) (backOf (W := 0) (rm_ty_100 l Z a0 hw []  w h73 n0 O73 W ) hZ (oW hw 21 rfl) (oW hw 7 rfl) (by decide) (by decide)) q146a q146c (g := (mkF m 247 #[.val (.int p1), .val (.int p2), .val (.int p3), .val (.int 1), .val (.int 0), .val (.int 0), .val (.ref b1), .val (.int 0), .val (.ref (w 1)), .unset] [(.ref (w 1)), (.ref (w 1)), (.ref (w 4))])) rfl (by rw [hml]; rfl) (Steps.refl _) (argsL := [(.ref (w 1)), (.ref (w 1))]) (rest := []) (lenOf pd_6 rfl) rfl (by show 2 * 0 + _ ≤ _; exact Nat.le_of_eq rfl) (hb hby at_247) (fun _ _ => ⟨rfl, e145, (by decide : 1 + 1 ≤ _), (by decide : 36 + 1 ≤ _)⟩)
        dsimp only [Pt.U, Pt.locs, Pt.cells, Pt.slots] at X146 l146 y146 z146 st146 hQ146
        rw [l146, y146, z146] at X146
        clear l146 y146 z146
        obtain ⟨r146, rfl, Nq146, K146, sr146, P146_0, P146_1⟩ := hQ146
        have N146 := Fr.app N145 Nq146
        have O146 := O73.keep K146 (fun x q => absurd q List.not_mem_nil)
        have gr146 : n0 ≤ r146 := Nat.le_trans (O73.1 ▸ O73.2.1) sr146
        have ne_b1_r146 : b1 ≠ r146 := Nat.ne_of_lt (Nat.lt_of_lt_of_le V73.lt sr146)
        refine oS (fun t k => st146.trans k) ?_
        show oG _ _ _ _ _ _ _ (T146.setTop (mkF m 250 #[.val (.int p1), .val (.int p2), .val (.int p3), .val (.int 1), .val (.int 0), .val (.int 0), .val (.ref b1), .val (.int 0), .val (.ref (w 1)), .unset] [(.ref r146)]))
        try clear st146 X145 e145
        refine oS (fun t k => XS.aconstNull X146.here hx rfl (hb hby at_250) k) ?_
        obtain ⟨cq147, kq147, q147a, q147b, q147c⟩ := isOf hZ rfl P146_0
        obtain ⟨_, _, ⟨T147, L147, k147, n147⟩, -, X147, ⟨Lc147, hQ147, l147, y147, z147⟩, st147⟩ := X146.virtualBack hx (y := mY7) (z := mY7) hown (mvT hZ (oW hw 39 rfl)) (mvT hZ (oW hw 40 rfl)) (notFace_of_selects (args := #[]) (mvT hZ (oW hw 42 rfl))) (mvT hZ (oW hw 42 rfl)) (mvT hZ (oW hw 41 rfl)) (by decide) (backOf (W := 0) (rm_oe l Z a0 hw [] r146 (w 1)  T146.heap n0 O146  P146_1) hZ (oW hw 43 rfl) (oW hw 36 rfl) (by decide) (by decide)) q147a q147c (g := (mkF m 251 #[.val (.int p1), .val (.int p2), .val (.int p3), .val (.int 1), .val (.int 0), .val (.int 0), .val (.ref b1), .val (.int 0), .val (.ref (w 1)), .unset] [.null, (.ref r146)])) rfl (by rw [hml]; rfl) (Steps.refl _) (argsL := [.null]) (rest := []) (lenOf pd_0 rfl) rfl (by show 2 * 0 + _ ≤ _; exact Nat.le_of_eq rfl) (hb hby at_251) (fun _ _ => ⟨rfl, rfl, (by decide : 2 + 0 ≤ _), (by decide : 37 + 0 ≤ _)⟩)
        dsimp only [Pt.U, Pt.locs, Pt.cells, Pt.slots] at X147 l147 y147 z147 st147 hQ147
        rw [l147, y147, z147] at X147
        clear l147 y147 z147
        obtain ⟨rfl, Nq147, e147⟩ := hQ147
        have N147 := Fr.app N146 Nq147
        refine oS (fun t k => st147.trans k) ?_
        show oG _ _ _ _ _ _ _ (T147.setTop (mkF m 254 #[.val (.int p1), .val (.int p2), .val (.int p3), .val (.int 1), .val (.int 0), .val (.int 0), .val (.ref b1), .val (.int 0), .val (.ref (w 1)), .unset] [(.ref (w 1))]))
        try clear st147 X146 e146
        obtain ⟨T148, X148, e148, st148⟩ := castY X147 hx hZ hown (oW hw 64 rfl) e147 (Ins.self ((wE1 W).ext O146.2)) (g := (mkF m 254 #[.val (.int p1), .val (.int p2), .val (.int p3), .val (.int 1), .val (.int 0), .val (.int 0), .val (.ref b1), .val (.int 0), .val (.ref (w 1)), .unset] [(.ref (w 1))])) rfl rfl (hb hby at_254)
        refine oS (fun t k => st148 t k) ?_
        try clear st148 X147 e147
        refine oS (fun t k => XS.astore X148.here hx rfl (hb hby at_257) rfl rfl (l' := #[.val (.int p1), .val (.int p2), .val (.int p3), .val (.int 1), .val (.int 0), .val (.int 0), .val (.ref b1), .val (.int 0), .val (.ref (w 1)), .val (.ref (w 1))]) rfl k) ?_
        refine oS (fun t k => XS.aload X148.here hx rfl (hb hby at_259) rfl rfl k) ?_
        refine oS (fun t k => XS.aload X148.here hx rfl (hb hby at_261) rfl rfl k) ?_
        refine oS (fun t k => Jvm.RoadKit.acmp (g := (mkF m 263 #[.val (.int p1), .val (.int p2), .val (.int p3), .val (.int 1), .val (.int 0), .val (.int 0), .val (.ref b1), .val (.int 0), .val (.ref (w 1)), .val (.ref (w 1))] [(.ref (w 1)), (.ref (w 1))])) X148 hx rfl rfl rfl (pc0 := 263) (pc' := 266) (same := true) rfl (hb hby at_263) rfl (decide_eq_true rfl) (by decide) (by decide) k) ?_
        show oG _ _ _ _ _ _ _ (T148.setTop (mkF m 266 #[.val (.int p1), .val (.int p2), .val (.int p3), .val (.int 1), .val (.int 0), .val (.int 0), .val (.ref b1), .val (.int 0), .val (.ref (w 1)), .val (.ref (w 1))] []))
        refine oS (fun t k => oIc li_1 X148.here hx rfl (hb hby at_266) k) ?_
        refine oS (fun t k => XS.goto X148.here hx rfl (pc0 := 267) (pc' := 271) rfl (hb hby at_267) (by decide) (by decide) k) ?_
        exact own_ret (v := some (.int 1)) X148 (fun h => by rw [Bd.returns] at h; cases h) Bd.notSynchronized (fun fs hr => retN X148 hx (t := .boolean) Bd.returns (by simp) (hb hby at_271) hr) (by rw [e148]; exact ⟨rfl, N147⟩) (by decide) (by decide)
      · rw [hs140]
        show oG _ _ _ _ _ _ _ (T73.setTop (mkF m 200 #[.val (.int p1), .val (.int p2), .val (.int p3), .val (.int 1), .val (.int 0), .val (.int 1), .val (.ref b1), .unset, .unset, .unset] []))
        refine oS (fun t k => XS.aload X73.here hx rfl (hb hby at_200) rfl rfl k) ?_
        refine oS (fun t k => XS.iloadN X73.here hx rfl (hb hby at_202) rfl k) ?_
        show oG _ _ _ _ _ _ _ (T73.setTop (mkF m 203 #[.val (.int p1), .val (.int p2), .val (.int p3), .val (.int 1), .val (.int 0), .val (.int 1), .val (.ref b1), .unset, .unset, .unset] [(.int 1), (.ref b1)]))
        refine oS (fun t k => oBp lb_9 X73.here hx rfl (hb hby at_203) k) ?_
        refine oS (S' := (T73.setTop (mkF m 206 #[.val (.int p1), .val (.int p2), .val (.int p3), .val (.int 1), .val (.int 0), .val (.int 1), .val (.ref b1), .unset, .unset, .unset] [(.int 9), (.ref b1)]))) (fun t k => XS.imul X73.here hx rfl (hb hby at_205) rfl (by rw [show (1 : Int32) * (9 : Int32) = (9 : Int32) from by decide]; exact k)) ?_
        refine oS (fun t k => XS.iload X73.here hx rfl (hb hby at_206) rfl k) ?_
        refine oS (fun t k => oIc li_3 X73.here hx rfl (hb hby at_208) k) ?_
        refine oS (S' := (T73.setTop (mkF m 210 #[.val (.int p1), .val (.int p2), .val (.int p3), .val (.int 1), .val (.int 0), .val (.int 1), .val (.ref b1), .unset, .unset, .unset] [(.int 0), (.int 9), (.ref b1)]))) (fun t k => XS.imul X73.here hx rfl (hb hby at_209) rfl (by rw [show (0 : Int32) * (3 : Int32) = (0 : Int32) from by decide]; exact k)) ?_
        refine oS (S' := (T73.setTop (mkF m 211 #[.val (.int p1), .val (.int p2), .val (.int p3), .val (.int 1), .val (.int 0), .val (.int 1), .val (.ref b1), .unset, .unset, .unset] [(.int 9), (.ref b1)]))) (fun t k => XS.iadd X73.here hx rfl (hb hby at_210) rfl (by rw [show (9 : Int32) + (0 : Int32) = (9 : Int32) from by decide]; exact k)) ?_
        refine oS (fun t k => XS.iload X73.here hx rfl (hb hby at_211) rfl k) ?_
        refine oS (S' := (T73.setTop (mkF m 214 #[.val (.int p1), .val (.int p2), .val (.int p3), .val (.int 1), .val (.int 0), .val (.int 1), .val (.ref b1), .unset, .unset, .unset] [(.int 10), (.ref b1)]))) (fun t k => XS.iadd X73.here hx rfl (hb hby at_213) rfl (by rw [show (9 : Int32) + (1 : Int32) = (10 : Int32) from by decide]; exact k)) ?_
        obtain ⟨cl149, Ar149, qk149, Sz149, Ng149, Ha149, Gf149⟩ := id V73
        have hin149 : ¬ ((10 : Int32) < 0 ∨ cl149.slots.size ≤ ((10 : Int32)).toNatClampNeg) := (inb_of Sz149 ⟨by decide, by decide⟩)
        have hat149 : cl149.slots[((10 : Int32)).toNatClampNeg]? = some (.int (-1)) := Ha149.at hin149 rfl
        refine oS (fun t k => X73.iaload hx (j := (10 : Int32)) (v := (.int (-1))) (by rw [e73]; exact Ar149.1) (State.isArrayOf_alike hZ.alike Ar149.2.1) Ar149.2.2 hin149 hat149 (g := (mkF m 214 #[.val (.int p1), .val (.int p2), .val (.int p3), .val (.int 1), .val (.int 0), .val (.int 1), .val (.ref b1), .unset, .unset, .unset] [(.int 10), (.ref b1)])) rfl rfl (hb hby at_214) t k) ?_
        refine oS (fun t k => XS.istore X73.here hx rfl (hb hby at_215) rfl (l' := #[.val (.int p1), .val (.int p2), .val (.int p3), .val (.int 1), .val (.int 0), .val (.int 1), .val (.ref b1), .val (.int (-1)), .unset, .unset]) rfl k) ?_
        show oG _ _ _ _ _ _ _ (T73.setTop (mkF m 217 #[.val (.int p1), .val (.int p2), .val (.int p3), .val (.int 1), .val (.int 0), .val (.int 1), .val (.ref b1), .val (.int (-1)), .unset, .unset] []))
        refine oS (fun t k => XS.iload X73.here hx rfl (hb hby at_217) rfl k) ?_
        refine oS (fun t k => XS.ifNo X73.here hx rfl (hb hby at_219) rfl ((if0 _ _).trans (tlt (by decide)).2.1) k) ?_
        refine oS (fun t k => XS.aconstNull X73.here hx rfl (hb hby at_222) k) ?_
        refine oS (fun t k => XS.goto X73.here hx rfl (pc0 := 223) (pc' := 231) rfl (hb hby at_223) (by decide) (by decide) k) ?_
        refine oS (fun t k => XS.astore X73.here hx rfl (hb hby at_231) rfl rfl (l' := #[.val (.int p1), .val (.int p2), .val (.int p3), .val (.int 1), .val (.int 0), .val (.int 1), .val (.ref b1), .val (.int (-1)), .val .null, .unset]) rfl k) ?_
        show oG _ _ _ _ _ _ _ (T73.setTop (mkF m 233 #[.val (.int p1), .val (.int p2), .val (.int p3), .val (.int 1), .val (.int 0), .val (.int 1), .val (.ref b1), .val (.int (-1)), .val .null, .unset] []))
        refine oS (fun t k => XS.iloadN X73.here hx rfl (hb hby at_233) rfl k) ?_
        obtain ⟨_, _, ⟨T150, L150, k150, n150⟩, -, X150, ⟨Lc150, hQ150, l150, y150, z150⟩, st150⟩ := Jvm.LawKit.callS X73 hx (y := mY0) hown (mvT hZ (oW hw 2 rfl)) (mvT hZ (oW hw 3 rfl)) (mvT hZ (oW hw 4 rfl)) (mvT hZ (oW hw 5 rfl)) (by decide) (backOf (W := 0) (rm_op_1 l Z a0 hw []  w h73 n0 O73 W ) hZ (oW hw 5 rfl) (oW hw 4 rfl) (by decide) (by decide)) (g := (mkF m 234 #[.val (.int p1), .val (.int p2), .val (.int p3), .val (.int 1), .val (.int 0), .val (.int 1), .val (.ref b1), .val (.int (-1)), .val .null, .unset] [(.int 1)])) rfl (by rw [hml]; rfl) (argsL := [(.int 1)]) (rest := []) (lenOf pd_5 rfl) rfl (by show 2 * 0 + _ ≤ _; exact Nat.le_of_eq rfl) (hb hby at_234) (fun _ _ => ⟨rfl, e73, (by decide : 1 + 0 ≤ _), (by decide : 36 + 0 ≤ _)⟩)
        dsimp only [Pt.U, Pt.locs, Pt.cells, Pt.slots] at X150 l150 y150 z150 st150 hQ150
        rw [l150, y150, z150] at X150
        clear l150 y150 z150
        obtain ⟨rfl, Nq150, e150⟩ := hQ150
        have N150 := Fr.app N73 Nq150
        refine oS (fun t k => st150 t k) ?_
        show oG _ _ _ _ _ _ _ (T150.setTop (mkF m 237 #[.val (.int p1), .val (.int p2), .val (.int p3), .val (.int 1), .val (.int 0), .val (.int 1), .val (.ref b1), .val (.int (-1)), .val .null, .unset] [(.ref (w 4))]))
        try clear st150 X73 e73
        try clear T73
        refine oS (fun t k => XS.iload X150.here hx rfl (hb hby at_237) rfl k) ?_
        obtain ⟨_, _, ⟨T151, L151, k151, n151⟩, -, X151, ⟨Lc151, hQ151, l151, y151, z151⟩, st151⟩ := Jvm.LawKit.callS X150 hx (y := mY2) hown (mvT hZ (oW hw 9 rfl)) (mvT hZ (oW hw 10 rfl)) (mvT hZ (oW hw 4 rfl)) (mvT hZ (oW hw 11 rfl)) (by decide) (backOf (W := 1) (rm_vt_0 l Z a0 hw []  w h73 n0 O73 W ) hZ (oW hw 11 rfl) (oW hw 4 rfl) (by decide) (by decide)) (g := (mkF m 239 #[.val (.int p1), .val (.int p2), .val (.int p3), .val (.int 1), .val (.int 0), .val (.int 1), .val (.ref b1), .val (.int (-1)), .val .null, .unset] [(.int 0), (.ref (w 4))])) rfl (by rw [hml]; rfl) (argsL := [(.int 0)]) (rest := [(.ref (w 4))]) (lenOf pd_4 rfl) rfl (by show 2 * 0 + _ ≤ _; exact Nat.le_of_eq rfl) (hb hby at_239) (fun _ _ => ⟨rfl, e150, (by decide : 1 + 0 ≤ _), (by decide : 36 + 0 ≤ _)⟩)
        dsimp only [Pt.U, Pt.locs, Pt.cells, Pt.slots] at X151 l151 y151 z151 st151 hQ151
        rw [l151, y151, z151] at X151
        clear l151 y151 z151
        obtain ⟨rfl, Nq151, e151⟩ := hQ151
        have N151 := Fr.app N150 Nq151
        refine oS (fun t k => st151 t k) ?_
        show oG _ _ _ _ _ _ _ (T151.setTop (mkF m 242 #[.val (.int p1), .val (.int p2), .val (.int p3), .val (.int 1), .val (.int 0), .val (.int 1), .val (.ref b1), .val (.int (-1)), .val .null, .unset] [(.ref (w 1)), (.ref (w 4))]))
        try clear st151 X150 e150
        refine oS (fun t k => XS.iload X151.here hx rfl (hb hby at_242) rfl k) ?_
        obtain ⟨_, _, ⟨T152, L152, k152, n152⟩, -, X152, ⟨Lc152, hQ152, l152, y152, z152⟩, st152⟩ := Jvm.LawKit.callS X151 hx (y := mY2) hown (mvT hZ (oW hw 9 rfl)) (mvT hZ (oW hw 10 rfl)) (mvT hZ (oW hw 4 rfl)) (mvT hZ (oW hw 11 rfl)) (by decide) (backOf (W := 2) (rm_vt_1 l Z a0 hw []  w h73 n0 O73 W ) hZ (oW hw 11 rfl) (oW hw 4 rfl) (by decide) (by decide)) (g := (mkF m 244 #[.val (.int p1), .val (.int p2), .val (.int p3), .val (.int 1), .val (.int 0), .val (.int 1), .val (.ref b1), .val (.int (-1)), .val .null, .unset] [(.int 1), (.ref (w 1)), (.ref (w 4))])) rfl (by rw [hml]; rfl) (argsL := [(.int 1)]) (rest := [(.ref (w 1)), (.ref (w 4))]) (lenOf pd_4 rfl) rfl (by show 2 * 0 + _ ≤ _; exact Nat.le_of_eq rfl) (hb hby at_244) (fun _ _ => ⟨rfl, e151, (by decide : 1 + 0 ≤ _), (by decide : 36 + 0 ≤ _)⟩)
        dsimp only [Pt.U, Pt.locs, Pt.cells, Pt.slots] at X152 l152 y152 z152 st152 hQ152
        rw [l152, y152, z152] at X152
        clear l152 y152 z152
        obtain ⟨rfl, Nq152, e152⟩ := hQ152
        have N152 := Fr.app N151 Nq152
        refine oS (fun t k => st152 t k) ?_
        show oG _ _ _ _ _ _ _ (T152.setTop (mkF m 247 #[.val (.int p1), .val (.int p2), .val (.int p3), .val (.int 1), .val (.int 0), .val (.int 1), .val (.ref b1), .val (.int (-1)), .val .null, .unset] [(.ref (w 3)), (.ref (w 1)), (.ref (w 4))]))
        try clear st152 X151 e151
        obtain ⟨cq153, kq153, q153a, q153b, q153c⟩ := isOf hZ e152 ((wE4 W).ext O73.2)
        obtain ⟨_, _, ⟨T153, L153, k153, n153⟩, -, X153, ⟨Lc153, hQ153, l153, y153, z153⟩, st153⟩ := X152.virtualBack hx (y := mY8) (z := mY8) hown (mvT hZ (oW hw 17 rfl)) (mvT hZ (oW hw 18 rfl)) (notFace_of_selects (args := #[]) (mvT hZ (oW hw 20 rfl))) (mvT hZ (oW hw 20 rfl)) (mvT hZ (oW hw 19 rfl)) (by decide) (backOf (W := 0) (rm_ty_101 l Z a0 hw []  w h73 n0 O73 W ) hZ (oW hw 21 rfl) (oW hw 7 rfl) (by decide) (by decide)) q153a q153c (g := (mkF m 247 #[.val (.int p1), .val (.int p2), .val (.int p3), .val (.int 1), .val (.int 0), .val (.int 1), .val (.ref b1), .val (.int (-1)), .val .null, .unset] [(.ref (w 3)), (.ref (w 1)), (.ref (w 4))])) rfl (by rw [hml]; rfl) (Steps.refl _) (argsL := [(.ref (w 1)), (.ref (w 3))]) (rest := []) (lenOf pd_6 rfl) rfl (by show 2 * 0 + _ ≤ _; exact Nat.le_of_eq rfl) (hb hby at_247) (fun _ _ => ⟨rfl, e152, (by decide : 1 + 0 ≤ _), (by decide : 36 + 0 ≤ _)⟩)
        dsimp only [Pt.U, Pt.locs, Pt.cells, Pt.slots] at X153 l153 y153 z153 st153 hQ153
        rw [l153, y153, z153] at X153
        clear l153 y153 z153
        obtain ⟨rfl, Nq153, e153⟩ := hQ153
        have N153 := Fr.app N152 Nq153
        refine oS (fun t k => st153.trans k) ?_
        show oG _ _ _ _ _ _ _ (T153.setTop (mkF m 250 #[.val (.int p1), .val (.int p2), .val (.int p3), .val (.int 1), .val (.int 0), .val (.int 1), .val (.ref b1), .val (.int (-1)), .val .null, .unset] [(.ref (w 7))]))
        try clear st153 X152 e152
        refine oS (fun t k => XS.aconstNull X153.here hx rfl (hb hby at_250) k) ?_
        obtain ⟨cq154, kq154, q154a, q154b, q154c⟩ := isOf hZ e153 ((wE7 W).ext O73.2)
        obtain ⟨_, _, ⟨T154, L154, k154, n154⟩, -, X154, ⟨Lc154, hQ154, l154, y154, z154⟩, st154⟩ := X153.virtualBack hx (y := mY7) (z := mY7) hown (mvT hZ (oW hw 39 rfl)) (mvT hZ (oW hw 40 rfl)) (notFace_of_selects (args := #[]) (mvT hZ (oW hw 42 rfl))) (mvT hZ (oW hw 42 rfl)) (mvT hZ (oW hw 41 rfl)) (by decide) (backOf (W := 0) (rm_oe0 l Z a0 hw [] (w 7)  h73 n0 O73  ((wF7_value W).ext O73.2)) hZ (oW hw 43 rfl) (oW hw 36 rfl) (by decide) (by decide)) q154a q154c (g := (mkF m 251 #[.val (.int p1), .val (.int p2), .val (.int p3), .val (.int 1), .val (.int 0), .val (.int 1), .val (.ref b1), .val (.int (-1)), .val .null, .unset] [.null, (.ref (w 7))])) rfl (by rw [hml]; rfl) (Steps.refl _) (argsL := [.null]) (rest := []) (lenOf pd_0 rfl) rfl (by show 2 * 0 + _ ≤ _; exact Nat.le_of_eq rfl) (hb hby at_251) (fun _ _ => ⟨rfl, e153, (by decide : 1 + 0 ≤ _), (by decide : 36 + 0 ≤ _)⟩)
        dsimp only [Pt.U, Pt.locs, Pt.cells, Pt.slots] at X154 l154 y154 z154 st154 hQ154
        rw [l154, y154, z154] at X154
        clear l154 y154 z154
        obtain ⟨rfl, Nq154, e154⟩ := hQ154
        have N154 := Fr.app N153 Nq154
        refine oS (fun t k => st154.trans k) ?_
        show oG _ _ _ _ _ _ _ (T154.setTop (mkF m 254 #[.val (.int p1), .val (.int p2), .val (.int p3), .val (.int 1), .val (.int 0), .val (.int 1), .val (.ref b1), .val (.int (-1)), .val .null, .unset] [.null]))
        try clear st154 X153 e153
        refine oS (fun t k => X154.checkcastNull hx (g := (mkF m 254 #[.val (.int p1), .val (.int p2), .val (.int p3), .val (.int 1), .val (.int 0), .val (.int 1), .val (.ref b1), .val (.int (-1)), .val .null, .unset] [.null])) rfl rfl (hb hby at_254) t k) ?_
        refine oS (fun t k => XS.astore X154.here hx rfl (hb hby at_257) rfl rfl (l' := #[.val (.int p1), .val (.int p2), .val (.int p3), .val (.int 1), .val (.int 0), .val (.int 1), .val (.ref b1), .val (.int (-1)), .val .null, .val .null]) rfl k) ?_
        refine oS (fun t k => XS.aload X154.here hx rfl (hb hby at_259) rfl rfl k) ?_
        refine oS (fun t k => XS.aload X154.here hx rfl (hb hby at_261) rfl rfl k) ?_
        refine oS (fun t k => Jvm.RoadKit.acmp (g := (mkF m 263 #[.val (.int p1), .val (.int p2), .val (.int p3), .val (.int 1), .val (.int 0), .val (.int 1), .val (.ref b1), .val (.int (-1)), .val .null, .val .null] [.null, .null])) X154 hx rfl rfl rfl (pc0 := 263) (pc' := 266) (same := true) rfl (hb hby at_263) rfl (decide_eq_true rfl) (by decide) (by decide) k) ?_
        show oG _ _ _ _ _ _ _ (T154.setTop (mkF m 266 #[.val (.int p1), .val (.int p2), .val (.int p3), .val (.int 1), .val (.int 0), .val (.int 1), .val (.ref b1), .val (.int (-1)), .val .null, .val .null] []))
        refine oS (fun t k => oIc li_1 X154.here hx rfl (hb hby at_266) k) ?_
        refine oS (fun t k => XS.goto X154.here hx rfl (pc0 := 267) (pc' := 271) rfl (hb hby at_267) (by decide) (by decide) k) ?_
        exact own_ret (v := some (.int 1)) X154 (fun h => by rw [Bd.returns] at h; cases h) Bd.notSynchronized (fun fs hr => retN X154 hx (t := .boolean) Bd.returns (by simp) (hb hby at_271) hr) (by rw [e154]; exact ⟨rfl, N154⟩) (by decide) (by decide)
      · rw [hs140]
        show oG _ _ _ _ _ _ _ (T73.setTop (mkF m 200 #[.val (.int p1), .val (.int p2), .val (.int p3), .val (.int 1), .val (.int 0), .val (.int 2), .val (.ref b1), .unset, .unset, .unset] []))
        refine oS (fun t k => XS.aload X73.here hx rfl (hb hby at_200) rfl rfl k) ?_
        refine oS (fun t k => XS.iloadN X73.here hx rfl (hb hby at_202) rfl k) ?_
        show oG _ _ _ _ _ _ _ (T73.setTop (mkF m 203 #[.val (.int p1), .val (.int p2), .val (.int p3), .val (.int 1), .val (.int 0), .val (.int 2), .val (.ref b1), .unset, .unset, .unset] [(.int 1), (.ref b1)]))
        refine oS (fun t k => oBp lb_9 X73.here hx rfl (hb hby at_203) k) ?_
        refine oS (S' := (T73.setTop (mkF m 206 #[.val (.int p1), .val (.int p2), .val (.int p3), .val (.int 1), .val (.int 0), .val (.int 2), .val (.ref b1), .unset, .unset, .unset] [(.int 9), (.ref b1)]))) (fun t k => XS.imul X73.here hx rfl (hb hby at_205) rfl (by rw [show (1 : Int32) * (9 : Int32) = (9 : Int32) from by decide]; exact k)) ?_
        refine oS (fun t k => XS.iload X73.here hx rfl (hb hby at_206) rfl k) ?_
        refine oS (fun t k => oIc li_3 X73.here hx rfl (hb hby at_208) k) ?_
        refine oS (S' := (T73.setTop (mkF m 210 #[.val (.int p1), .val (.int p2), .val (.int p3), .val (.int 1), .val (.int 0), .val (.int 2), .val (.ref b1), .unset, .unset, .unset] [(.int 0), (.int 9), (.ref b1)]))) (fun t k => XS.imul X73.here hx rfl (hb hby at_209) rfl (by rw [show (0 : Int32) * (3 : Int32) = (0 : Int32) from by decide]; exact k)) ?_
        refine oS (S' := (T73.setTop (mkF m 211 #[.val (.int p1), .val (.int p2), .val (.int p3), .val (.int 1), .val (.int 0), .val (.int 2), .val (.ref b1), .unset, .unset, .unset] [(.int 9), (.ref b1)]))) (fun t k => XS.iadd X73.here hx rfl (hb hby at_210) rfl (by rw [show (9 : Int32) + (0 : Int32) = (9 : Int32) from by decide]; exact k)) ?_
        refine oS (fun t k => XS.iload X73.here hx rfl (hb hby at_211) rfl k) ?_
        refine oS (S' := (T73.setTop (mkF m 214 #[.val (.int p1), .val (.int p2), .val (.int p3), .val (.int 1), .val (.int 0), .val (.int 2), .val (.ref b1), .unset, .unset, .unset] [(.int 11), (.ref b1)]))) (fun t k => XS.iadd X73.here hx rfl (hb hby at_213) rfl (by rw [show (9 : Int32) + (2 : Int32) = (11 : Int32) from by decide]; exact k)) ?_
        obtain ⟨cl155, Ar155, qk155, Sz155, Ng155, Ha155, Gf155⟩ := id V73
        have hin155 : ¬ ((11 : Int32) < 0 ∨ cl155.slots.size ≤ ((11 : Int32)).toNatClampNeg) := (inb_of Sz155 ⟨by decide, by decide⟩)
        have hat155 : cl155.slots[((11 : Int32)).toNatClampNeg]? = some (.int (-1)) := Ha155.at hin155 rfl
        refine oS (fun t k => X73.iaload hx (j := (11 : Int32)) (v := (.int (-1))) (by rw [e73]; exact Ar155.1) (State.isArrayOf_alike hZ.alike Ar155.2.1) Ar155.2.2 hin155 hat155 (g := (mkF m 214 #[.val (.int p1), .val (.int p2), .val (.int p3), .val (.int 1), .val (.int 0), .val (.int 2), .val (.ref b1), .unset, .unset, .unset] [(.int 11), (.ref b1)])) rfl rfl (hb hby at_214) t k) ?_
        refine oS (fun t k => XS.istore X73.here hx rfl (hb hby at_215) rfl (l' := #[.val (.int p1), .val (.int p2), .val (.int p3), .val (.int 1), .val (.int 0), .val (.int 2), .val (.ref b1), .val (.int (-1)), .unset, .unset]) rfl k) ?_
        show oG _ _ _ _ _ _ _ (T73.setTop (mkF m 217 #[.val (.int p1), .val (.int p2), .val (.int p3), .val (.int 1), .val (.int 0), .val (.int 2), .val (.ref b1), .val (.int (-1)), .unset, .unset] []))
        refine oS (fun t k => XS.iload X73.here hx rfl (hb hby at_217) rfl k) ?_
        refine oS (fun t k => XS.ifNo X73.here hx rfl (hb hby at_219) rfl ((if0 _ _).trans (tlt (by decide)).2.1) k) ?_
        refine oS (fun t k => XS.aconstNull X73.here hx rfl (hb hby at_222) k) ?_
        refine oS (fun t k => XS.goto X73.here hx rfl (pc0 := 223) (pc' := 231) rfl (hb hby at_223) (by decide) (by decide) k) ?_
        refine oS (fun t k => XS.astore X73.here hx rfl (hb hby at_231) rfl rfl (l' := #[.val (.int p1), .val (.int p2), .val (.int p3), .val (.int 1), .val (.int 0), .val (.int 2), .val (.ref b1), .val (.int (-1)), .val .null, .unset]) rfl k) ?_
        show oG _ _ _ _ _ _ _ (T73.setTop (mkF m 233 #[.val (.int p1), .val (.int p2), .val (.int p3), .val (.int 1), .val (.int 0), .val (.int 2), .val (.ref b1), .val (.int (-1)), .val .null, .unset] []))
        refine oS (fun t k => XS.iloadN X73.here hx rfl (hb hby at_233) rfl k) ?_
        obtain ⟨_, _, ⟨T156, L156, k156, n156⟩, -, X156, ⟨Lc156, hQ156, l156, y156, z156⟩, st156⟩ := Jvm.LawKit.callS X73 hx (y := mY0) hown (mvT hZ (oW hw 2 rfl)) (mvT hZ (oW hw 3 rfl)) (mvT hZ (oW hw 4 rfl)) (mvT hZ (oW hw 5 rfl)) (by decide) (backOf (W := 0) (rm_op_1 l Z a0 hw []  w h73 n0 O73 W ) hZ (oW hw 5 rfl) (oW hw 4 rfl) (by decide) (by decide)) (g := (mkF m 234 #[.val (.int p1), .val (.int p2), .val (.int p3), .val (.int 1), .val (.int 0), .val (.int 2), .val (.ref b1), .val (.int (-1)), .val .null, .unset] [(.int 1)])) rfl (by rw [hml]; rfl) (argsL := [(.int 1)]) (rest := []) (lenOf pd_5 rfl) rfl (by show 2 * 0 + _ ≤ _; exact Nat.le_of_eq rfl) (hb hby at_234) (fun _ _ => ⟨rfl, e73, (by decide : 1 + 0 ≤ _), (by decide : 36 + 0 ≤ _)⟩)
        dsimp only [Pt.U, Pt.locs, Pt.cells, Pt.slots] at X156 l156 y156 z156 st156 hQ156
        rw [l156, y156, z156] at X156
        clear l156 y156 z156
        obtain ⟨rfl, Nq156, e156⟩ := hQ156
        have N156 := Fr.app N73 Nq156
        refine oS (fun t k => st156 t k) ?_
        show oG _ _ _ _ _ _ _ (T156.setTop (mkF m 237 #[.val (.int p1), .val (.int p2), .val (.int p3), .val (.int 1), .val (.int 0), .val (.int 2), .val (.ref b1), .val (.int (-1)), .val .null, .unset] [(.ref (w 4))]))
        try clear st156 X73 e73
        try clear T73
        refine oS (fun t k => XS.iload X156.here hx rfl (hb hby at_237) rfl k) ?_
        obtain ⟨_, _, ⟨T157, L157, k157, n157⟩, -, X157, ⟨Lc157, hQ157, l157, y157, z157⟩, st157⟩ := Jvm.LawKit.callS X156 hx (y := mY2) hown (mvT hZ (oW hw 9 rfl)) (mvT hZ (oW hw 10 rfl)) (mvT hZ (oW hw 4 rfl)) (mvT hZ (oW hw 11 rfl)) (by decide) (backOf (W := 1) (rm_vt_0 l Z a0 hw []  w h73 n0 O73 W ) hZ (oW hw 11 rfl) (oW hw 4 rfl) (by decide) (by decide)) (g := (mkF m 239 #[.val (.int p1), .val (.int p2), .val (.int p3), .val (.int 1), .val (.int 0), .val (.int 2), .val (.ref b1), .val (.int (-1)), .val .null, .unset] [(.int 0), (.ref (w 4))])) rfl (by rw [hml]; rfl) (argsL := [(.int 0)]) (rest := [(.ref (w 4))]) (lenOf pd_4 rfl) rfl (by show 2 * 0 + _ ≤ _; exact Nat.le_of_eq rfl) (hb hby at_239) (fun _ _ => ⟨rfl, e156, (by decide : 1 + 0 ≤ _), (by decide : 36 + 0 ≤ _)⟩)
        dsimp only [Pt.U, Pt.locs, Pt.cells, Pt.slots] at X157 l157 y157 z157 st157 hQ157
        rw [l157, y157, z157] at X157
        clear l157 y157 z157
        obtain ⟨rfl, Nq157, e157⟩ := hQ157
        have N157 := Fr.app N156 Nq157
        refine oS (fun t k => st157 t k) ?_
        show oG _ _ _ _ _ _ _ (T157.setTop (mkF m 242 #[.val (.int p1), .val (.int p2), .val (.int p3), .val (.int 1), .val (.int 0), .val (.int 2), .val (.ref b1), .val (.int (-1)), .val .null, .unset] [(.ref (w 1)), (.ref (w 4))]))
        try clear st157 X156 e156
        refine oS (fun t k => XS.iload X157.here hx rfl (hb hby at_242) rfl k) ?_
        obtain ⟨_, _, ⟨T158, L158, k158, n158⟩, -, X158, ⟨Lc158, hQ158, l158, y158, z158⟩, st158⟩ := Jvm.LawKit.callS X157 hx (y := mY2) hown (mvT hZ (oW hw 9 rfl)) (mvT hZ (oW hw 10 rfl)) (mvT hZ (oW hw 4 rfl)) (mvT hZ (oW hw 11 rfl)) (by decide) (backOf (W := 2) (rm_vt_2 l Z a0 hw []  w h73 n0 O73 W ) hZ (oW hw 11 rfl) (oW hw 4 rfl) (by decide) (by decide)) (g := (mkF m 244 #[.val (.int p1), .val (.int p2), .val (.int p3), .val (.int 1), .val (.int 0), .val (.int 2), .val (.ref b1), .val (.int (-1)), .val .null, .unset] [(.int 2), (.ref (w 1)), (.ref (w 4))])) rfl (by rw [hml]; rfl) (argsL := [(.int 2)]) (rest := [(.ref (w 1)), (.ref (w 4))]) (lenOf pd_4 rfl) rfl (by show 2 * 0 + _ ≤ _; exact Nat.le_of_eq rfl) (hb hby at_244) (fun _ _ => ⟨rfl, e157, (by decide : 1 + 0 ≤ _), (by decide : 36 + 0 ≤ _)⟩)
        dsimp only [Pt.U, Pt.locs, Pt.cells, Pt.slots] at X158 l158 y158 z158 st158 hQ158
        rw [l158, y158, z158] at X158
        clear l158 y158 z158
        obtain ⟨rfl, Nq158, e158⟩ := hQ158
        have N158 := Fr.app N157 Nq158
        refine oS (fun t k => st158 t k) ?_
        show oG _ _ _ _ _ _ _ (T158.setTop (mkF m 247 #[.val (.int p1), .val (.int p2), .val (.int p3), .val (.int 1), .val (.int 0), .val (.int 2), .val (.ref b1), .val (.int (-1)), .val .null, .unset] [(.ref (w 2)), (.ref (w 1)), (.ref (w 4))]))
        try clear st158 X157 e157
        obtain ⟨cq159, kq159, q159a, q159b, q159c⟩ := isOf hZ e158 ((wE4 W).ext O73.2)
        obtain ⟨_, _, ⟨T159, L159, k159, n159⟩, -, X159, ⟨Lc159, hQ159, l159, y159, z159⟩, st159⟩ := X158.virtualBack hx (y := mY8) (z := mY8) hown (mvT hZ (oW hw 17 rfl)) (mvT hZ (oW hw 18 rfl)) (notFace_of_selects (args := #[]) (mvT hZ (oW hw 20 rfl))) (mvT hZ (oW hw 20 rfl)) (mvT hZ (oW hw 19 rfl)) (by decide) (backOf (W := 0) (rm_ty_102 l Z a0 hw []  w h73 n0 O73 W ) hZ (oW hw 21 rfl) (oW hw 7 rfl) (by decide) (by decide)) q159a q159c (g := (mkF m 247 #[.val (.int p1), .val (.int p2), .val (.int p3), .val (.int 1), .val (.int 0), .val (.int 2), .val (.ref b1), .val (.int (-1)), .val .null, .unset] [(.ref (w 2)), (.ref (w 1)), (.ref (w 4))])) rfl (by rw [hml]; rfl) (Steps.refl _) (argsL := [(.ref (w 1)), (.ref (w 2))]) (rest := []) (lenOf pd_6 rfl) rfl (by show 2 * 0 + _ ≤ _; exact Nat.le_of_eq rfl) (hb hby at_247) (fun _ _ => ⟨rfl, e158, (by decide : 1 + 0 ≤ _), (by decide : 36 + 0 ≤ _)⟩)
        dsimp only [Pt.U, Pt.locs, Pt.cells, Pt.slots] at X159 l159 y159 z159 st159 hQ159
        rw [l159, y159, z159] at X159
        clear l159 y159 z159
        obtain ⟨rfl, Nq159, e159⟩ := hQ159
        have N159 := Fr.app N158 Nq159
        refine oS (fun t k => st159.trans k) ?_
        show oG _ _ _ _ _ _ _ (T159.setTop (mkF m 250 #[.val (.int p1), .val (.int p2), .val (.int p3), .val (.int 1), .val (.int 0), .val (.int 2), .val (.ref b1), .val (.int (-1)), .val .null, .unset] [(.ref (w 7))]))
        try clear st159 X158 e158
        refine oS (fun t k => XS.aconstNull X159.here hx rfl (hb hby at_250) k) ?_
        obtain ⟨cq160, kq160, q160a, q160b, q160c⟩ := isOf hZ e159 ((wE7 W).ext O73.2)
        obtain ⟨_, _, ⟨T160, L160, k160, n160⟩, -, X160, ⟨Lc160, hQ160, l160, y160, z160⟩, st160⟩ := X159.virtualBack hx (y := mY7) (z := mY7) hown (mvT hZ (oW hw 39 rfl)) (mvT hZ (oW hw 40 rfl)) (notFace_of_selects (args := #[]) (mvT hZ (oW hw 42 rfl))) (mvT hZ (oW hw 42 rfl)) (mvT hZ (oW hw 41 rfl)) (by decide) (backOf (W := 0) (rm_oe0 l Z a0 hw [] (w 7)  h73 n0 O73  ((wF7_value W).ext O73.2)) hZ (oW hw 43 rfl) (oW hw 36 rfl) (by decide) (by decide)) q160a q160c (g := (mkF m 251 #[.val (.int p1), .val (.int p2), .val (.int p3), .val (.int 1), .val (.int 0), .val (.int 2), .val (.ref b1), .val (.int (-1)), .val .null, .unset] [.null, (.ref (w 7))])) rfl (by rw [hml]; rfl) (Steps.refl _) (argsL := [.null]) (rest := []) (lenOf pd_0 rfl) rfl (by show 2 * 0 + _ ≤ _; exact Nat.le_of_eq rfl) (hb hby at_251) (fun _ _ => ⟨rfl, e159, (by decide : 1 + 0 ≤ _), (by decide : 36 + 0 ≤ _)⟩)
        dsimp only [Pt.U, Pt.locs, Pt.cells, Pt.slots] at X160 l160 y160 z160 st160 hQ160
        rw [l160, y160, z160] at X160
        clear l160 y160 z160
        obtain ⟨rfl, Nq160, e160⟩ := hQ160
        have N160 := Fr.app N159 Nq160
        refine oS (fun t k => st160.trans k) ?_
        show oG _ _ _ _ _ _ _ (T160.setTop (mkF m 254 #[.val (.int p1), .val (.int p2), .val (.int p3), .val (.int 1), .val (.int 0), .val (.int 2), .val (.ref b1), .val (.int (-1)), .val .null, .unset] [.null]))
        try clear st160 X159 e159
        refine oS (fun t k => X160.checkcastNull hx (g := (mkF m 254 #[.val (.int p1), .val (.int p2), .val (.int p3), .val (.int 1), .val (.int 0), .val (.int 2), .val (.ref b1), .val (.int (-1)), .val .null, .unset] [.null])) rfl rfl (hb hby at_254) t k) ?_
        refine oS (fun t k => XS.astore X160.here hx rfl (hb hby at_257) rfl rfl (l' := #[.val (.int p1), .val (.int p2), .val (.int p3), .val (.int 1), .val (.int 0), .val (.int 2), .val (.ref b1), .val (.int (-1)), .val .null, .val .null]) rfl k) ?_
        refine oS (fun t k => XS.aload X160.here hx rfl (hb hby at_259) rfl rfl k) ?_
        refine oS (fun t k => XS.aload X160.here hx rfl (hb hby at_261) rfl rfl k) ?_
        refine oS (fun t k => Jvm.RoadKit.acmp (g := (mkF m 263 #[.val (.int p1), .val (.int p2), .val (.int p3), .val (.int 1), .val (.int 0), .val (.int 2), .val (.ref b1), .val (.int (-1)), .val .null, .val .null] [.null, .null])) X160 hx rfl rfl rfl (pc0 := 263) (pc' := 266) (same := true) rfl (hb hby at_263) rfl (decide_eq_true rfl) (by decide) (by decide) k) ?_
        show oG _ _ _ _ _ _ _ (T160.setTop (mkF m 266 #[.val (.int p1), .val (.int p2), .val (.int p3), .val (.int 1), .val (.int 0), .val (.int 2), .val (.ref b1), .val (.int (-1)), .val .null, .val .null] []))
        refine oS (fun t k => oIc li_1 X160.here hx rfl (hb hby at_266) k) ?_
        refine oS (fun t k => XS.goto X160.here hx rfl (pc0 := 267) (pc' := 271) rfl (hb hby at_267) (by decide) (by decide) k) ?_
        exact own_ret (v := some (.int 1)) X160 (fun h => by rw [Bd.returns] at h; cases h) Bd.notSynchronized (fun fs hr => retN X160 hx (t := .boolean) Bd.returns (by simp) (hb hby at_271) hr) (by rw [e160]; exact ⟨rfl, N160⟩) (by decide) (by decide)
    · rw [hs139]
      show oG _ _ _ _ _ _ _ (T73.setTop (mkF m 200 #[.val (.int p1), .val (.int p2), .val (.int p3), .val (.int 1), .val (.int 1), .val (.int ((p3 &&& (2147483647 : Int32)) % (3 : Int32))), .val (.ref b1), .unset, .unset, .unset] []))
      show oG _ _ _ _ _ _ _ (T73.setTop (mkF m 200 #[.val (.int p1), .val (.int p2), .val (.int p3), .val (.int 1), .val (.int 1), .val (.int ((p3 &&& (2147483647 : Int32)) % (3 : Int32))), .val (.ref b1), .unset, .unset, .unset] []))
      rcases own_three p3 with hs161 | hs161 | hs161
      · rw [hs161]
        show oG _ _ _ _ _ _ _ (T73.setTop (mkF m 200 #[.val (.int p1), .val (.int p2), .val (.int p3), .val (.int 1), .val (.int 1), .val (.int 0), .val (.ref b1), .unset, .unset, .unset] []))
        refine oS (fun t k => XS.aload X73.here hx rfl (hb hby at_200) rfl rfl k) ?_
        refine oS (fun t k => XS.iloadN X73.here hx rfl (hb hby at_202) rfl k) ?_
        show oG _ _ _ _ _ _ _ (T73.setTop (mkF m 203 #[.val (.int p1), .val (.int p2), .val (.int p3), .val (.int 1), .val (.int 1), .val (.int 0), .val (.ref b1), .unset, .unset, .unset] [(.int 1), (.ref b1)]))
        refine oS (fun t k => oBp lb_9 X73.here hx rfl (hb hby at_203) k) ?_
        refine oS (S' := (T73.setTop (mkF m 206 #[.val (.int p1), .val (.int p2), .val (.int p3), .val (.int 1), .val (.int 1), .val (.int 0), .val (.ref b1), .unset, .unset, .unset] [(.int 9), (.ref b1)]))) (fun t k => XS.imul X73.here hx rfl (hb hby at_205) rfl (by rw [show (1 : Int32) * (9 : Int32) = (9 : Int32) from by decide]; exact k)) ?_
        refine oS (fun t k => XS.iload X73.here hx rfl (hb hby at_206) rfl k) ?_
        refine oS (fun t k => oIc li_3 X73.here hx rfl (hb hby at_208) k) ?_
        refine oS (S' := (T73.setTop (mkF m 210 #[.val (.int p1), .val (.int p2), .val (.int p3), .val (.int 1), .val (.int 1), .val (.int 0), .val (.ref b1), .unset, .unset, .unset] [(.int 3), (.int 9), (.ref b1)]))) (fun t k => XS.imul X73.here hx rfl (hb hby at_209) rfl (by rw [show (1 : Int32) * (3 : Int32) = (3 : Int32) from by decide]; exact k)) ?_
        refine oS (S' := (T73.setTop (mkF m 211 #[.val (.int p1), .val (.int p2), .val (.int p3), .val (.int 1), .val (.int 1), .val (.int 0), .val (.ref b1), .unset, .unset, .unset] [(.int 12), (.ref b1)]))) (fun t k => XS.iadd X73.here hx rfl (hb hby at_210) rfl (by rw [show (9 : Int32) + (3 : Int32) = (12 : Int32) from by decide]; exact k)) ?_
        refine oS (fun t k => XS.iload X73.here hx rfl (hb hby at_211) rfl k) ?_
        refine oS (S' := (T73.setTop (mkF m 214 #[.val (.int p1), .val (.int p2), .val (.int p3), .val (.int 1), .val (.int 1), .val (.int 0), .val (.ref b1), .unset, .unset, .unset] [(.int 12), (.ref b1)]))) (fun t k => XS.iadd X73.here hx rfl (hb hby at_213) rfl (by rw [show (12 : Int32) + (0 : Int32) = (12 : Int32) from by decide]; exact k)) ?_
        obtain ⟨cl162, Ar162, qk162, Sz162, Ng162, Ha162, Gf162⟩ := id V73
        have hin162 : ¬ ((12 : Int32) < 0 ∨ cl162.slots.size ≤ ((12 : Int32)).toNatClampNeg) := (inb_of Sz162 ⟨by decide, by decide⟩)
        have hat162 : cl162.slots[((12 : Int32)).toNatClampNeg]? = some (.int 1) := Ha162.at hin162 rfl
        refine oS (fun t k => X73.iaload hx (j := (12 : Int32)) (v := (.int 1)) (by rw [e73]; exact Ar162.1) (State.isArrayOf_alike hZ.alike Ar162.2.1) Ar162.2.2 hin162 hat162 (g := (mkF m 214 #[.val (.int p1), .val (.int p2), .val (.int p3), .val (.int 1), .val (.int 1), .val (.int 0), .val (.ref b1), .unset, .unset, .unset] [(.int 12), (.ref b1)])) rfl rfl (hb hby at_214) t k) ?_
        refine oS (fun t k => XS.istore X73.here hx rfl (hb hby at_215) rfl (l' := #[.val (.int p1), .val (.int p2), .val (.int p3), .val (.int 1), .val (.int 1), .val (.int 0), .val (.ref b1), .val (.int 1), .unset, .unset]) rfl k) ?_
        show oG _ _ _ _ _ _ _ (T73.setTop (mkF m 217 #[.val (.int p1), .val (.int p2), .val (.int p3), .val (.int 1), .val (.int 1), .val (.int 0), .val (.ref b1), .val (.int 1), .unset, .unset] []))
        refine oS (fun t k => XS.iload X73.here hx rfl (hb hby at_217) rfl k) ?_
        refine oS (fun t k => XS.ifYes X73.here hx rfl (pc0 := 219) (pc' := 226) rfl (hb hby at_219) rfl ((if0 _ _).trans (flt (by decide)).2.1) (by decide) (by decide) k) ?_
        refine oS (fun t k => XS.iload X73.here hx rfl (hb hby at_226) rfl k) ?_
        obtain ⟨_, _, ⟨T163, L163, k163, n163⟩, -, X163, ⟨Lc163, hQ163, l163, y163, z163⟩, st163⟩ := Jvm.LawKit.callS X73 hx (y := mY2) hown (mvT hZ (oW hw 9 rfl)) (mvT hZ (oW hw 10 rfl)) (mvT hZ (oW hw 4 rfl)) (mvT hZ (oW hw 11 rfl)) (by decide) (backOf (W := 0) (rm_vt_1 l Z a0 hw []  w h73 n0 O73 W ) hZ (oW hw 11 rfl) (oW hw 4 rfl) (by decide) (by decide)) (g := (mkF m 228 #[.val (.int p1), .val (.int p2), .val (.int p3), .val (.int 1), .val (.int 1), .val (.int 0), .val (.ref b1), .val (.int 1), .unset, .unset] [(.int 1)])) rfl (by rw [hml]; rfl) (argsL := [(.int 1)]) (rest := []) (lenOf pd_4 rfl) rfl (by show 2 * 0 + _ ≤ _; exact Nat.le_of_eq rfl) (hb hby at_228) (fun _ _ => ⟨rfl, e73, (by decide : 1 + 0 ≤ _), (by decide : 36 + 0 ≤ _)⟩)
        dsimp only [Pt.U, Pt.locs, Pt.cells, Pt.slots] at X163 l163 y163 z163 st163 hQ163
        rw [l163, y163, z163] at X163
        clear l163 y163 z163
        obtain ⟨rfl, Nq163, e163⟩ := hQ163
        have N163 := Fr.app N73 Nq163
        refine oS (fun t k => st163 t k) ?_
        show oG _ _ _ _ _ _ _ (T163.setTop (mkF m 231 #[.val (.int p1), .val (.int p2), .val (.int p3), .val (.int 1), .val (.int 1), .val (.int 0), .val (.ref b1), .val (.int 1), .unset, .unset] [(.ref (w 3))]))
        try clear st163 X73 e73
        try clear T73
        refine oS (fun t k => XS.astore X163.here hx rfl (hb hby at_231) rfl rfl (l' := #[.val (.int p1), .val (.int p2), .val (.int p3), .val (.int 1), .val (.int 1), .val (.int 0), .val (.ref b1), .val (.int 1), .val (.ref (w 3)), .unset]) rfl k) ?_
        refine oS (fun t k => XS.iloadN X163.here hx rfl (hb hby at_233) rfl k) ?_
        obtain ⟨_, _, ⟨T164, L164, k164, n164⟩, -, X164, ⟨Lc164, hQ164, l164, y164, z164⟩, st164⟩ := Jvm.LawKit.callS X163 hx (y := mY0) hown (mvT hZ (oW hw 2 rfl)) (mvT hZ (oW hw 3 rfl)) (mvT hZ (oW hw 4 rfl)) (mvT hZ (oW hw 5 rfl)) (by decide) (backOf (W := 0) (rm_op_1 l Z a0 hw []  w h73 n0 O73 W ) hZ (oW hw 5 rfl) (oW hw 4 rfl) (by decide) (by decide)) (g := (mkF m 234 #[.val (.int p1), .val (.int p2), .val (.int p3), .val (.int 1), .val (.int 1), .val (.int 0), .val (.ref b1), .val (.int 1), .val (.ref (w 3)), .unset] [(.int 1)])) rfl (by rw [hml]; rfl) (argsL := [(.int 1)]) (rest := []) (lenOf pd_5 rfl) rfl (by show 2 * 0 + _ ≤ _; exact Nat.le_of_eq rfl) (hb hby at_234) (fun _ _ => ⟨rfl, e163, (by decide : 1 + 0 ≤ _), (by decide : 36 + 0 ≤ _)⟩)
        dsimp only [Pt.U, Pt.locs, Pt.cells, Pt.slots] at X164 l164 y164 z164 st164 hQ164
        rw [l164, y164, z164] at X164
        clear l164 y164 z164
        obtain ⟨rfl, Nq164, e164⟩ := hQ164
        have N164 := Fr.app N163 Nq164
        refine oS (fun t k => st164 t k) ?_
        show oG _ _ _ _ _ _ _ (T164.setTop (mkF m 237 #[.val (.int p1), .val (.int p2), .val (.int p3), .val (.int 1), .val (.int 1), .val (.int 0), .val (.ref b1), .val (.int 1), .val (.ref (w 3)), .unset] [(.ref (w 4))]))
        try clear st164 X163 e163
        refine oS (fun t k => XS.iload X164.here hx rfl (hb hby at_237) rfl k) ?_
        obtain ⟨_, _, ⟨T165, L165, k165, n165⟩, -, X165, ⟨Lc165, hQ165, l165, y165, z165⟩, st165⟩ := Jvm.LawKit.callS X164 hx (y := mY2) hown (mvT hZ (oW hw 9 rfl)) (mvT hZ (oW hw 10 rfl)) (mvT hZ (oW hw 4 rfl)) (mvT hZ (oW hw 11 rfl)) (by decide) (backOf (W := 1) (rm_vt_1 l Z a0 hw []  w h73 n0 O73 W ) hZ (oW hw 11 rfl) (oW hw 4 rfl) (by decide) (by decide)) (g := (mkF m 239 #[.val (.int p1), .val (.int p2), .val (.int p3), .val (.int 1), .val (.int 1), .val (.int 0), .val (.ref b1), .val (.int 1), .val (.ref (w 3)), .unset] [(.int 1), (.ref (w 4))])) rfl (by rw [hml]; rfl) (argsL := [(.int 1)]) (rest := [(.ref (w 4))]) (lenOf pd_4 rfl) rfl (by show 2 * 0 + _ ≤ _; exact Nat.le_of_eq rfl) (hb hby at_239) (fun _ _ => ⟨rfl, e164, (by decide : 1 + 0 ≤ _), (by decide : 36 + 0 ≤ _)⟩)
        dsimp only [Pt.U, Pt.locs, Pt.cells, Pt.slots] at X165 l165 y165 z165 st165 hQ165
        rw [l165, y165, z165] at X165
        clear l165 y165 z165
        obtain ⟨rfl, Nq165, e165⟩ := hQ165
        have N165 := Fr.app N164 Nq165
        refine oS (fun t k => st165 t k) ?_
        show oG _ _ _ _ _ _ _ (T165.setTop (mkF m 242 #[.val (.int p1), .val (.int p2), .val (.int p3), .val (.int 1), .val (.int 1), .val (.int 0), .val (.ref b1), .val (.int 1), .val (.ref (w 3)), .unset] [(.ref (w 3)), (.ref (w 4))]))
        try clear st165 X164 e164
        refine oS (fun t k => XS.iload X165.here hx rfl (hb hby at_242) rfl k) ?_
        obtain ⟨_, _, ⟨T166, L166, k166, n166⟩, -, X166, ⟨Lc166, hQ166, l166, y166, z166⟩, st166⟩ := Jvm.LawKit.callS X165 hx (y := mY2) hown (mvT hZ (oW hw 9 rfl)) (mvT hZ (oW hw 10 rfl)) (mvT hZ (oW hw 4 rfl)) (mvT hZ (oW hw 11 rfl)) (by decide) (backOf (W := 2) (rm_vt_0 l Z a0 hw []  w h73 n0 O73 W ) hZ (oW hw 11 rfl) (oW hw 4 rfl) (by decide) (by decide)) (g := (mkF m 244 #[.val (.int p1), .val (.int p2), .val (.int p3), .val (.int 1), .val (.int 1), .val (.int 0), .val (.ref b1), .val (.int 1), .val (.ref (w 3)), .unset] [(.int 0), (.ref (w 3)), (.ref (w 4))])) rfl (by rw [hml]; rfl) (argsL := [(.int 0)]) (rest := [(.ref (w 3)), (.ref (w 4))]) (lenOf pd_4 rfl) rfl (by show 2 * 0 + _ ≤ _; exact Nat.le_of_eq rfl) (hb hby at_244) (fun _ _ => ⟨rfl, e165, (by decide : 1 + 0 ≤ _), (by decide : 36 + 0 ≤ _)⟩)
        dsimp only [Pt.U, Pt.locs, Pt.cells, Pt.slots] at X166 l166 y166 z166 st166 hQ166
        rw [l166, y166, z166] at X166
        clear l166 y166 z166
        obtain ⟨rfl, Nq166, e166⟩ := hQ166
        have N166 := Fr.app N165 Nq166
        refine oS (fun t k => st166 t k) ?_
        show oG _ _ _ _ _ _ _ (T166.setTop (mkF m 247 #[.val (.int p1), .val (.int p2), .val (.int p3), .val (.int 1), .val (.int 1), .val (.int 0), .val (.ref b1), .val (.int 1), .val (.ref (w 3)), .unset] [(.ref (w 1)), (.ref (w 3)), (.ref (w 4))]))
        try clear st166 X165 e165
        obtain ⟨cq167, kq167, q167a, q167b, q167c⟩ := isOf hZ e166 ((wE4 W).ext O73.2)
        obtain ⟨_, _, ⟨T167, L167, k167, n167⟩, -, X167, ⟨Lc167, hQ167, l167, y167, z167⟩, st167⟩ := X166.virtualBack hx (y := mY8) (z := mY8) hown (mvT hZ (oW hw 17 rfl)) (mvT hZ (oW hw 18 rfl)) (notFace_of_selects (args := #[]) (mvT hZ (oW hw 20 rfl))) (mvT hZ (oW hw 20 rfl)) (mvT hZ (oW hw 19 rfl)) (by decide) (backOf (W := 0) (rm_ty_110 l Z a0 hw []  w h73 n0 O73 W ) hZ (oW hw 21 rfl) (oW hw 7 rfl) (by decide) (by decide)) q167a q167c (g := (mkF m 247 #[.val (.int p1), .val (.int p2), .val (.int p3), .val (.int 1), .val (.int 1), .val (.int 0), .val (.ref b1), .val (.int 1), .val (.ref (w 3)), .unset] [(.ref (w 1)), (.ref (w 3)), (.ref (w 4))])) rfl (by rw [hml]; rfl) (Steps.refl _) (argsL := [(.ref (w 3)), (.ref (w 1))]) (rest := []) (lenOf pd_6 rfl) rfl (by show 2 * 0 + _ ≤ _; exact Nat.le_of_eq rfl) (hb hby at_247) (fun _ _ => ⟨rfl, e166, (by decide : 1 + 1 ≤ _), (by decide : 36 + 1 ≤ _)⟩)
        dsimp only [Pt.U, Pt.locs, Pt.cells, Pt.slots] at X167 l167 y167 z167 st167 hQ167
        rw [l167, y167, z167] at X167
        clear l167 y167 z167
        obtain ⟨r167, rfl, Nq167, K167, sr167, P167_0, P167_1⟩ := hQ167
        have N167 := Fr.app N166 Nq167
        have O167 := O73.keep K167 (fun x q => absurd q List.not_mem_nil)
        have gr167 : n0 ≤ r167 := Nat.le_trans (O73.1 ▸ O73.2.1) sr167
        have ne_b1_r167 : b1 ≠ r167 := Nat.ne_of_lt (Nat.lt_of_lt_of_le V73.lt sr167)
        refine oS (fun t k => st167.trans k) ?_
        show oG _ _ _ _ _ _ _ (T167.setTop (mkF m 250 #[.val (.int p1), .val (.int p2), .val (.int p3), .val (.int 1), .val (.int 1), .val (.int 0), .val (.ref b1), .val (.int 1), .val (.ref (w 3)), .unset] [(.ref r167)]))
        try clear st167 X166 e166
        refine oS (fun t k => XS.aconstNull X167.here hx rfl (hb hby at_250) k) ?_
        obtain ⟨cq168, kq168, q168a, q168b, q168c⟩ := isOf hZ rfl P167_0
        obtain ⟨_, _, ⟨T168, L168, k168, n168⟩, -, X168, ⟨Lc168, hQ168, l168, y168, z168⟩, st168⟩ := X167.virtualBack hx (y := mY7) (z := mY7) hown (mvT hZ (oW hw 39 rfl)) (mvT hZ (oW hw 40 rfl)) (notFace_of_selects (args := #[]) (mvT hZ (oW hw 42 rfl))) (mvT hZ (oW hw 42 rfl)) (mvT hZ (oW hw 41 rfl)) (by decide) (backOf (W := 0) (rm_oe l Z a0 hw [] r167 (w 3)  T167.heap n0 O167  P167_1) hZ (oW hw 43 rfl) (oW hw 36 rfl) (by decide) (by decide)) q168a q168c (g := (mkF m 251 #[.val (.int p1), .val (.int p2), .val (.int p3), .val (.int 1), .val (.int 1), .val (.int 0), .val (.ref b1), .val (.int 1), .val (.ref (w 3)), .unset] [.null, (.ref r167)])) rfl (by rw [hml]; rfl) (Steps.refl _) (argsL := [.null]) (rest := []) (lenOf pd_0 rfl) rfl (by show 2 * 0 + _ ≤ _; exact Nat.le_of_eq rfl) (hb hby at_251) (fun _ _ => ⟨rfl, rfl, (by decide : 2 + 0 ≤ _), (by decide : 37 + 0 ≤ _)⟩)
        dsimp only [Pt.U, Pt.locs, Pt.cells, Pt.slots] at X168 l168 y168 z168 st168 hQ168
        rw [l168, y168, z168] at X168
        clear l168 y168 z168
        obtain ⟨rfl, Nq168, e168⟩ := hQ168
        have N168 := Fr.app N167 Nq168
        refine oS (fun t k => st168.trans k) ?_
        show oG _ _ _ _ _ _ _ (T168.setTop (mkF m 254 #[.val (.int p1), .val (.int p2), .val (.int p3), .val (.int 1), .val (.int 1), .val (.int 0), .val (.ref b1), .val (.int 1), .val (.ref (w 3)), .unset] [(.ref (w 3))]))
        try clear st168 X167 e167
        obtain ⟨T169, X169, e169, st169⟩ := castY X168 hx hZ hown (oW hw 64 rfl) e168 (Ins.self ((wE3 W).ext O167.2)) (g := (mkF m 254 #[.val (.int p1), .val (.int p2), .val (.int p3), .val (.int 1), .val (.int 1), .val (.int 0), .val (.ref b1), .val (.int 1), .val (.ref (w 3)), .unset] [(.ref (w 3))])) rfl rfl (hb hby at_254)
        refine oS (fun t k => st169 t k) ?_
        try clear st169 X168 e168
        refine oS (fun t k => XS.astore X169.here hx rfl (hb hby at_257) rfl rfl (l' := #[.val (.int p1), .val (.int p2), .val (.int p3), .val (.int 1), .val (.int 1), .val (.int 0), .val (.ref b1), .val (.int 1), .val (.ref (w 3)), .val (.ref (w 3))]) rfl k) ?_
        refine oS (fun t k => XS.aload X169.here hx rfl (hb hby at_259) rfl rfl k) ?_
        refine oS (fun t k => XS.aload X169.here hx rfl (hb hby at_261) rfl rfl k) ?_
        refine oS (fun t k => Jvm.RoadKit.acmp (g := (mkF m 263 #[.val (.int p1), .val (.int p2), .val (.int p3), .val (.int 1), .val (.int 1), .val (.int 0), .val (.ref b1), .val (.int 1), .val (.ref (w 3)), .val (.ref (w 3))] [(.ref (w 3)), (.ref (w 3))])) X169 hx rfl rfl rfl (pc0 := 263) (pc' := 266) (same := true) rfl (hb hby at_263) rfl (decide_eq_true rfl) (by decide) (by decide) k) ?_
        show oG _ _ _ _ _ _ _ (T169.setTop (mkF m 266 #[.val (.int p1), .val (.int p2), .val (.int p3), .val (.int 1), .val (.int 1), .val (.int 0), .val (.ref b1), .val (.int 1), .val (.ref (w 3)), .val (.ref (w 3))] []))
        refine oS (fun t k => oIc li_1 X169.here hx rfl (hb hby at_266) k) ?_
        refine oS (fun t k => XS.goto X169.here hx rfl (pc0 := 267) (pc' := 271) rfl (hb hby at_267) (by decide) (by decide) k) ?_
        exact own_ret (v := some (.int 1)) X169 (fun h => by rw [Bd.returns] at h; cases h) Bd.notSynchronized (fun fs hr => retN X169 hx (t := .boolean) Bd.returns (by simp) (hb hby at_271) hr) (by rw [e169]; exact ⟨rfl, N168⟩) (by decide) (by decide)
      · rw [hs161]
        show oG _ _ _ _ _ _ _ (T73.setTop (mkF m 200 #[.val (.int p1), .val (.int p2), .val (.int p3), .val (.int 1), .val (.int 1), .val (.int 1), .val (.ref b1), .unset, .unset, .unset] []))
        refine oS (fun t k => XS.aload X73.here hx rfl (hb hby at_200) rfl rfl k) ?_
        refine oS (fun t k => XS.iloadN X73.here hx rfl (hb hby at_202) rfl k) ?_
        show oG _ _ _ _ _ _ _ (T73.setTop (mkF m 203 #[.val (.int p1), .val (.int p2), .val (.int p3), .val (.int 1), .val (.int 1), .val (.int 1), .val (.ref b1), .unset, .unset, .unset] [(.int 1), (.ref b1)]))
        refine oS (fun t k => oBp lb_9 X73.here hx rfl (hb hby at_203) k) ?_
        refine oS (S' := (T73.setTop (mkF m 206 #[.val (.int p1), .val (.int p2), .val (.int p3), .val (.int 1), .val (.int 1), .val (.int 1), .val (.ref b1), .unset, .unset, .unset] [(.int 9), (.ref b1)]))) (fun t k => XS.imul X73.here hx rfl (hb hby at_205) rfl (by rw [show (1 : Int32) * (9 : Int32) = (9 : Int32) from by decide]; exact k)) ?_
        refine oS (fun t k => XS.iload X73.here hx rfl (hb hby at_206) rfl k) ?_
        refine oS (fun t k => oIc li_3 X73.here hx rfl (hb hby at_208) k) ?_
        refine oS (S' := (T73.setTop (mkF m 210 #[.val (.int p1), .val (.int p2), .val (.int p3), .val (.int 1), .val (.int 1), .val (.int 1), .val (.ref b1), .unset, .unset, .unset] [(.int 3), (.int 9), (.ref b1)]))) (fun t k => XS.imul X73.here hx rfl (hb hby at_209) rfl (by rw [show (1 : Int32) * (3 : Int32) = (3 : Int32) from by decide]; exact k)) ?_
        refine oS (S' := (T73.setTop (mkF m 211 #[.val (.int p1), .val (.int p2), .val (.int p3), .val (.int 1), .val (.int 1), .val (.int 1), .val (.ref b1), .unset, .unset, .unset] [(.int 12), (.ref b1)]))) (fun t k => XS.iadd X73.here hx rfl (hb hby at_210) rfl (by rw [show (9 : Int32) + (3 : Int32) = (12 : Int32) from by decide]; exact k)) ?_
        refine oS (fun t k => XS.iload X73.here hx rfl (hb hby at_211) rfl k) ?_
        refine oS (S' := (T73.setTop (mkF m 214 #[.val (.int p1), .val (.int p2), .val (.int p3), .val (.int 1), .val (.int 1), .val (.int 1), .val (.ref b1), .unset, .unset, .unset] [(.int 13), (.ref b1)]))) (fun t k => XS.iadd X73.here hx rfl (hb hby at_213) rfl (by rw [show (12 : Int32) + (1 : Int32) = (13 : Int32) from by decide]; exact k)) ?_
        obtain ⟨cl170, Ar170, qk170, Sz170, Ng170, Ha170, Gf170⟩ := id V73
        have hin170 : ¬ ((13 : Int32) < 0 ∨ cl170.slots.size ≤ ((13 : Int32)).toNatClampNeg) := (inb_of Sz170 ⟨by decide, by decide⟩)
        have hat170 : cl170.slots[((13 : Int32)).toNatClampNeg]? = some (.int 0) := Ha170.at hin170 rfl
        refine oS (fun t k => X73.iaload hx (j := (13 : Int32)) (v := (.int 0)) (by rw [e73]; exact Ar170.1) (State.isArrayOf_alike hZ.alike Ar170.2.1) Ar170.2.2 hin170 hat170 (g := (mkF m 214 #[.val (.int p1), .val (.int p2), .val (.int p3), .val (.int 1), .val (.int 1), .val (.int 1), .val (.ref b1), .unset, .unset, .unset] [(.int 13), (.ref b1)])) rfl rfl (hb hby at_214) t k) ?_
        refine oS (fun t k => XS.istore X73.here hx rfl (hb hby at_215) rfl (l' := #[.val (.int p1), .val (.int p2), .val (.int p3), .val (.int 1), .val (.int 1), .val (.int 1), .val (.ref b1), .val (.int 0), .unset, .unset]) rfl k) ?_
        show oG _ _ _ _ _ _ _ (T73.setTop (mkF m 217 #[.val (.int p1), .val (.int p2), .val (.int p3), .val (.int 1), .val (.int 1), .val (.int 1), .val (.ref b1), .val (.int 0), .unset, .unset] []))
        refine oS (fun t k => XS.iload X73.here hx rfl (hb hby at_217) rfl k) ?_
        refine oS (fun t k => XS.ifYes X73.here hx rfl (pc0 := 219) (pc' := 226) rfl (hb hby at_219) rfl ((if0 _ _).trans (flt (by decide)).2.1) (by decide) (by decide) k) ?_
        refine oS (fun t k => XS.iload X73.here hx rfl (hb hby at_226) rfl k) ?_
        obtain ⟨_, _, ⟨T171, L171, k171, n171⟩, -, X171, ⟨Lc171, hQ171, l171, y171, z171⟩, st171⟩ := Jvm.LawKit.callS X73 hx (y := mY2) hown (mvT hZ (oW hw 9 rfl)) (mvT hZ (oW hw 10 rfl)) (mvT hZ (oW hw 4 rfl)) (mvT hZ (oW hw 11 rfl)) (by decide) (backOf (W := 0) (rm_vt_0 l Z a0 hw []  w h73 n0 O73 W ) hZ (oW hw 11 rfl) (oW hw 4 rfl) (by decide) (by decide)) (g := (mkF m 228 #[.val (.int p1), .val (.int p2), .val (.int p3), .val (.int 1), .val (.int 1), .val (.int 1), .val (.ref b1), .val (.int 0), .unset, .unset] [(.int 0)])) rfl (by rw [hml]; rfl) (argsL := [(.int 0)]) (rest := []) (lenOf pd_4 rfl) rfl (by show 2 * 0 + _ ≤ _; exact Nat.le_of_eq rfl) (hb hby at_228) (fun _ _ => ⟨rfl, e73, (by decide : 1 + 0 ≤ _), (by decide : 36 + 0 ≤ _)⟩)
        dsimp only [Pt.U, Pt.locs, Pt.cells, Pt.slots] at X171 l171 y171 z171 st171 hQ171
        rw [l171, y171, z171] at X171
        clear l171 y171 z171
        obtain ⟨rfl, Nq171, e171⟩ := hQ171
        have N171 := Fr.app N73 Nq171
        refine oS (fun t k => st171 t k) ?_
        show oG _ _ _ _ _ _ _ (T171.setTop (mkF m 231 #[.val (.int p1), .val (.int p2), .val (.int p3), .val (.int 1), .val (.int 1), .val (.int 1), .val (.ref b1), .val (.int 0), .unset, .unset] [(.ref (w 1))]))
        try clear st171 X73 e73
        try clear T73
        refine oS (fun t k => XS.astore X171.here hx rfl (hb hby at_231) rfl rfl (l' := #[.val (.int p1), .val (.int p2), .val (.int p3), .val (.int 1), .val (.int 1), .val (.int 1), .val (.ref b1), .val (.int 0), .val (.ref (w 1)), .unset]) rfl k) ?_
        refine oS (fun t k => XS.iloadN X171.here hx rfl (hb hby at_233) rfl k) ?_
        obtain ⟨_, _, ⟨T172, L172, k172, n172⟩, -, X172, ⟨Lc172, hQ172, l172, y172, z172⟩, st172⟩ := Jvm.LawKit.callS X171 hx (y := mY0) hown (mvT hZ (oW hw 2 rfl)) (mvT hZ (oW hw 3 rfl)) (mvT hZ (oW hw 4 rfl)) (mvT hZ (oW hw 5 rfl)) (by decide) (backOf (W := 0) (rm_op_1 l Z a0 hw []  w h73 n0 O73 W ) hZ (oW hw 5 rfl) (oW hw 4 rfl) (by decide) (by decide)) (g := (mkF m 234 #[.val (.int p1), .val (.int p2), .val (.int p3), .val (.int 1), .val (.int 1), .val (.int 1), .val (.ref b1), .val (.int 0), .val (.ref (w 1)), .unset] [(.int 1)])) rfl (by rw [hml]; rfl) (argsL := [(.int 1)]) (rest := []) (lenOf pd_5 rfl) rfl (by show 2 * 0 + _ ≤ _; exact Nat.le_of_eq rfl) (hb hby at_234) (fun _ _ => ⟨rfl, e171, (by decide : 1 + 0 ≤ _), (by decide : 36 + 0 ≤ _)⟩)
        dsimp only [Pt.U, Pt.locs, Pt.cells, Pt.slots] at X172 l172 y172 z172 st172 hQ172
        rw [l172, y172, z172] at X172
        clear l172 y172 z172
        obtain ⟨rfl, Nq172, e172⟩ := hQ172
        have N172 := Fr.app N171 Nq172
        refine oS (fun t k => st172 t k) ?_
        show oG _ _ _ _ _ _ _ (T172.setTop (mkF m 237 #[.val (.int p1), .val (.int p2), .val (.int p3), .val (.int 1), .val (.int 1), .val (.int 1), .val (.ref b1), .val (.int 0), .val (.ref (w 1)), .unset] [(.ref (w 4))]))
        try clear st172 X171 e171
        refine oS (fun t k => XS.iload X172.here hx rfl (hb hby at_237) rfl k) ?_
        obtain ⟨_, _, ⟨T173, L173, k173, n173⟩, -, X173, ⟨Lc173, hQ173, l173, y173, z173⟩, st173⟩ := Jvm.LawKit.callS X172 hx (y := mY2) hown (mvT hZ (oW hw 9 rfl)) (mvT hZ (oW hw 10 rfl)) (mvT hZ (oW hw 4 rfl)) (mvT hZ (oW hw 11 rfl)) (by decide) (backOf (W := 1) (rm_vt_1 l Z a0 hw []  w h73 n0 O73 W ) hZ (oW hw 11 rfl) (oW hw 4 rfl) (by decide) (by decide)) (g := (mkF m 239 #[.val (.int p1), .val (.int p2), .val (.int p3), .val (.int 1), .val (.int 1), .val (.int 1), .val (.ref b1), .val (.int 0), .val (.ref (w 1)), .unset] [(.int 1), (.ref (w 4))])) rfl (by rw [hml]; rfl) (argsL := [(.int 1)]) (rest := [(.ref (w 4))]) (lenOf pd_4 rfl) rfl (by show 2 * 0 + _ ≤ _; exact Nat.le_of_eq rfl) (hb hby at_239) (fun _ _ => ⟨rfl, e172, (by decide : 1 + 0 ≤ _), (by decide : 36 + 0 ≤ _)⟩)
        dsimp only [Pt.U, Pt.locs, Pt.cells, Pt.slots] at X173 l173 y173 z173 st173 hQ173
        rw [l173, y173, z173] at X173
        clear l173 y173 z173
        obtain ⟨rfl, Nq173, e173⟩ := hQ173
        have N173 := Fr.app N172 Nq173
        refine oS (fun t k => st173 t k) ?_
        show oG _ _ _ _ _ _ _ (T173.setTop (mkF m 242 #[.val (.int p1), .val (.int p2), .val (.int p3), .val (.int 1), .val (.int 1), .val (.int 1), .val (.ref b1), .val (.int 0), .val (.ref (w 1)), .unset] [(.ref (w 3)), (.ref (w 4))]))
        try clear st173 X172 e172
        refine oS (fun t k => XS.iload X173.here hx rfl (hb hby at_242) rfl k) ?_
        obtain ⟨_, _, ⟨T174, L174, k174, n174⟩, -, X174, ⟨Lc174, hQ174, l174, y174, z174⟩, st174⟩ := Jvm.LawKit.callS X173 hx (y := mY2) hown (mvT hZ (oW hw 9 rfl)) (mvT hZ (oW hw 10 rfl)) (mvT hZ (oW hw 4 rfl)) (mvT hZ (oW hw 11 rfl)) (by decide) (backOf (W := 2) (rm_vt_1 l Z a0 hw []  w h73 n0 O73 W ) hZ (oW hw 11 rfl) (oW hw 4 rfl) (by decide) (by decide)) (g := (mkF m 244 #[.val (.int p1), .val (.int p2), .val (.int p3), .val (.int 1), .val (.int 1), .val (.int 1), .val (.ref b1), .val (.int 0), .val (.ref (w 1)), .unset] [(.int 1), (.ref (w 3)), (.ref (w 4))])) rfl (by rw [hml]; rfl) (argsL := [(.int 1)]) (rest := [(.ref (w 3)), (.ref (w 4))]) (lenOf pd_4 rfl) rfl (by show 2 * 0 + _ ≤ _; exact Nat.le_of_eq rfl) (hb hby at_244) (fun _ _ => ⟨rfl, e173, (by decide : 1 + 0 ≤ _), (by decide : 36 + 0 ≤ _)⟩)
        dsimp only [Pt.U, Pt.locs, Pt.cells, Pt.slots] at X174 l174 y174 z174 st174 hQ174
        rw [l174, y174, z174] at X174
        clear l174 y174 z174
        obtain ⟨rfl, Nq174, e174⟩ := hQ174
        have N174 := Fr.app N173 Nq174
        refine oS (fun t k => st174 t k) ?_
        show oG _ _ _ _ _ _ _ (T174.setTop (mkF m 247 #[.val (.int p1), .val (.int p2), .val (.int p3), .val (.int 1), .val (.int 1), .val (.int 1), .val (.ref b1), .val (.int 0), .val (.ref (w 1)), .unset] [(.ref (w 3)), (.ref (w 3)), (.ref (w 4))]))
        try clear st174 X173 e173
        obtain ⟨cq175, kq175, q175a, q175b, q175c⟩ := isOf hZ e174 ((wE4 W).ext O73.2)
        obtain ⟨_, _, ⟨T175, L175, k175, n175⟩, -, X175, ⟨Lc175, hQ175, l175, y175, z175⟩, st175⟩ := X174.virtualBack hx (y := mY8) (z := mY8) hown (mvT hZ (oW hw 17 rfl)) (mvT hZ (oW hw 18 rfl)) (notFace_of_selects (args := #[]) (mvT hZ (oW hw 20 rfl))) (mvT hZ (oW hw 20 rfl)) (mvT hZ (oW hw 19 rfl)) (by decide) (backOf (W := 0) (rm_ty_111 l Z a0 hw []  w h73 n0 O73 W ) hZ (oW hw 21 rfl) (oW hw 7 rfl) (by decide) (by decide)) q175a q175c (g := (mkF m 247 #[.val (.int p1), .val (.int p2), .val (.int p3), .val (.int 1), .val (.int 1), .val (.int 1), .val (.ref b1), .val (.int 0), .val (.ref (w 1)), .unset] [(.ref (w 3)), (.ref (w 3)), (.ref (w 4))])) rfl (by rw [hml]; rfl) (Steps.refl _) (argsL := [(.ref (w 3)), (.ref (w 3))]) (rest := []) (lenOf pd_6 rfl) rfl (by show 2 * 0 + _ ≤ _; exact Nat.le_of_eq rfl) (hb hby at_247) (fun _ _ => ⟨rfl, e174, (by decide : 1 + 1 ≤ _), (by decide : 36 + 1 ≤ _)⟩)
        dsimp only [Pt.U, Pt.locs, Pt.cells, Pt.slots] at X175 l175 y175 z175 st175 hQ175
        rw [l175, y175, z175] at X175
        clear l175 y175 z175
        obtain ⟨r175, rfl, Nq175, K175, sr175, P175_0, P175_1⟩ := hQ175
        have N175 := Fr.app N174 Nq175
        have O175 := O73.keep K175 (fun x q => absurd q List.not_mem_nil)
        have gr175 : n0 ≤ r175 := Nat.le_trans (O73.1 ▸ O73.2.1) sr175
        have ne_b1_r175 : b1 ≠ r175 := Nat.ne_of_lt (Nat.lt_of_lt_of_le V73.lt sr175)
        refine oS (fun t k => st175.trans k) ?_
        show oG _ _ _ _ _ _ _ (T175.setTop (mkF m 250 #[.val (.int p1), .val (.int p2), .val (.int p3), .val (.int 1), .val (.int 1), .val (.int 1), .val (.ref b1), .val (.int 0), .val (.ref (w 1)), .unset] [(.ref r175)]))
        try clear st175 X174 e174
        refine oS (fun t k => XS.aconstNull X175.here hx rfl (hb hby at_250) k) ?_
        obtain ⟨cq176, kq176, q176a, q176b, q176c⟩ := isOf hZ rfl P175_0
        obtain ⟨_, _, ⟨T176, L176, k176, n176⟩, -, X176, ⟨Lc176, hQ176, l176, y176, z176⟩, st176⟩ := X175.virtualBack hx (y := mY7) (z := mY7) hown (mvT hZ (oW hw 39 rfl)) (mvT hZ (oW hw 40 rfl)) (notFace_of_selects (args := #[]) (mvT hZ (oW hw 42 rfl))) (mvT hZ (oW hw 42 rfl)) (mvT hZ (oW hw 41 rfl)) (by decide) (backOf (W := 0) (rm_oe l Z a0 hw [] r175 (w 1)  T175.heap n0 O175  P175_1) hZ (oW hw 43 rfl) (oW hw 36 rfl) (by decide) (by decide)) q176a q176c (g := (mkF m 251 #[.val (.int p1), .val (.int p2), .val (.int p3), .val (.int 1), .val (.int 1), .val (.int 1), .val (.ref b1), .val (.int 0), .val (.ref (w 1)), .unset] [.null, (.ref r175)])) rfl (by rw [hml]; rfl) (Steps.refl _) (argsL := [.null]) (rest := []) (lenOf pd_0 rfl) rfl (by show 2 * 0 + _ ≤ _; exact Nat.le_of_eq rfl) (hb hby at_251) (fun _ _ => ⟨rfl, rfl, (by decide : 2 + 0 ≤ _), (by decide : 37 + 0 ≤ _)⟩)
        dsimp only [Pt.U, Pt.locs, Pt.cells, Pt.slots] at X176 l176 y176 z176 st176 hQ176
        rw [l176, y176, z176] at X176
        clear l176 y176 z176
        obtain ⟨rfl, Nq176, e176⟩ := hQ176
        have N176 := Fr.app N175 Nq176
        refine oS (fun t k => st176.trans k) ?_
        show oG _ _ _ _ _ _ _ (T176.setTop (mkF m 254 #[.val (.int p1), .val (.int p2), .val (.int p3), .val (.int 1), .val (.int 1), .val (.int 1), .val (.ref b1), .val (.int 0), .val (.ref (w 1)), .unset] [(.ref (w 1))]))
        try clear st176 X175 e175
        obtain ⟨T177, X177, e177, st177⟩ := castY X176 hx hZ hown (oW hw 64 rfl) e176 (Ins.self ((wE1 W).ext O175.2)) (g := (mkF m 254 #[.val (.int p1), .val (.int p2), .val (.int p3), .val (.int 1), .val (.int 1), .val (.int 1), .val (.ref b1), .val (.int 0), .val (.ref (w 1)), .unset] [(.ref (w 1))])) rfl rfl (hb hby at_254)
        refine oS (fun t k => st177 t k) ?_
        try clear st177 X176 e176
        refine oS (fun t k => XS.astore X177.here hx rfl (hb hby at_257) rfl rfl (l' := #[.val (.int p1), .val (.int p2), .val (.int p3), .val (.int 1), .val (.int 1), .val (.int 1), .val (.ref b1), .val (.int 0), .val (.ref (w 1)), .val (.ref (w 1))]) rfl k) ?_
        refine oS (fun t k => XS.aload X177.here hx rfl (hb hby at_259) rfl rfl k) ?_
        refine oS (fun t k => XS.aload X177.here hx rfl (hb hby at_261) rfl rfl k) ?_
        refine oS (fun t k => Jvm.RoadKit.acmp (g := (mkF m 263 #[.val (.int p1), .val (.int p2), .val (.int p3), .val (.int 1), .val (.int 1), .val (.int 1), .val (.ref b1), .val (.int 0), .val (.ref (w 1)), .val (.ref (w 1))] [(.ref (w 1)), (.ref (w 1))])) X177 hx rfl rfl rfl (pc0 := 263) (pc' := 266) (same := true) rfl (hb hby at_263) rfl (decide_eq_true rfl) (by decide) (by decide) k) ?_
        show oG _ _ _ _ _ _ _ (T177.setTop (mkF m 266 #[.val (.int p1), .val (.int p2), .val (.int p3), .val (.int 1), .val (.int 1), .val (.int 1), .val (.ref b1), .val (.int 0), .val (.ref (w 1)), .val (.ref (w 1))] []))
        refine oS (fun t k => oIc li_1 X177.here hx rfl (hb hby at_266) k) ?_
        refine oS (fun t k => XS.goto X177.here hx rfl (pc0 := 267) (pc' := 271) rfl (hb hby at_267) (by decide) (by decide) k) ?_
        exact own_ret (v := some (.int 1)) X177 (fun h => by rw [Bd.returns] at h; cases h) Bd.notSynchronized (fun fs hr => retN X177 hx (t := .boolean) Bd.returns (by simp) (hb hby at_271) hr) (by rw [e177]; exact ⟨rfl, N176⟩) (by decide) (by decide)
      · rw [hs161]
        show oG _ _ _ _ _ _ _ (T73.setTop (mkF m 200 #[.val (.int p1), .val (.int p2), .val (.int p3), .val (.int 1), .val (.int 1), .val (.int 2), .val (.ref b1), .unset, .unset, .unset] []))
        refine oS (fun t k => XS.aload X73.here hx rfl (hb hby at_200) rfl rfl k) ?_
        refine oS (fun t k => XS.iloadN X73.here hx rfl (hb hby at_202) rfl k) ?_
        show oG _ _ _ _ _ _ _ (T73.setTop (mkF m 203 #[.val (.int p1), .val (.int p2), .val (.int p3), .val (.int 1), .val (.int 1), .val (.int 2), .val (.ref b1), .unset, .unset, .unset] [(.int 1), (.ref b1)]))
        refine oS (fun t k => oBp lb_9 X73.here hx rfl (hb hby at_203) k) ?_
        refine oS (S' := (T73.setTop (mkF m 206 #[.val (.int p1), .val (.int p2), .val (.int p3), .val (.int 1), .val (.int 1), .val (.int 2), .val (.ref b1), .unset, .unset, .unset] [(.int 9), (.ref b1)]))) (fun t k => XS.imul X73.here hx rfl (hb hby at_205) rfl (by rw [show (1 : Int32) * (9 : Int32) = (9 : Int32) from by decide]; exact k)) ?_
        refine oS (fun t k => XS.iload X73.here hx rfl (hb hby at_206) rfl k) ?_
        refine oS (fun t k => oIc li_3 X73.here hx rfl (hb hby at_208) k) ?_
        refine oS (S' := (T73.setTop (mkF m 210 #[.val (.int p1), .val (.int p2), .val (.int p3), .val (.int 1), .val (.int 1), .val (.int 2), .val (.ref b1), .unset, .unset, .unset] [(.int 3), (.int 9), (.ref b1)]))) (fun t k => XS.imul X73.here hx rfl (hb hby at_209) rfl (by rw [show (1 : Int32) * (3 : Int32) = (3 : Int32) from by decide]; exact k)) ?_
        refine oS (S' := (T73.setTop (mkF m 211 #[.val (.int p1), .val (.int p2), .val (.int p3), .val (.int 1), .val (.int 1), .val (.int 2), .val (.ref b1), .unset, .unset, .unset] [(.int 12), (.ref b1)]))) (fun t k => XS.iadd X73.here hx rfl (hb hby at_210) rfl (by rw [show (9 : Int32) + (3 : Int32) = (12 : Int32) from by decide]; exact k)) ?_
        refine oS (fun t k => XS.iload X73.here hx rfl (hb hby at_211) rfl k) ?_
        refine oS (S' := (T73.setTop (mkF m 214 #[.val (.int p1), .val (.int p2), .val (.int p3), .val (.int 1), .val (.int 1), .val (.int 2), .val (.ref b1), .unset, .unset, .unset] [(.int 14), (.ref b1)]))) (fun t k => XS.iadd X73.here hx rfl (hb hby at_213) rfl (by rw [show (12 : Int32) + (2 : Int32) = (14 : Int32) from by decide]; exact k)) ?_
        obtain ⟨cl178, Ar178, qk178, Sz178, Ng178, Ha178, Gf178⟩ := id V73
        have hin178 : ¬ ((14 : Int32) < 0 ∨ cl178.slots.size ≤ ((14 : Int32)).toNatClampNeg) := (inb_of Sz178 ⟨by decide, by decide⟩)
        have hat178 : cl178.slots[((14 : Int32)).toNatClampNeg]? = some (.int (-1)) := Ha178.at hin178 rfl
        refine oS (fun t k => X73.iaload hx (j := (14 : Int32)) (v := (.int (-1))) (by rw [e73]; exact Ar178.1) (State.isArrayOf_alike hZ.alike Ar178.2.1) Ar178.2.2 hin178 hat178 (g := (mkF m 214 #[.val (.int p1), .val (.int p2), .val (.int p3), .val (.int 1), .val (.int 1), .val (.int 2), .val (.ref b1), .unset, .unset, .unset] [(.int 14), (.ref b1)])) rfl rfl (hb hby at_214) t k) ?_
        refine oS (fun t k => XS.istore X73.here hx rfl (hb hby at_215) rfl (l' := #[.val (.int p1), .val (.int p2), .val (.int p3), .val (.int 1), .val (.int 1), .val (.int 2), .val (.ref b1), .val (.int (-1)), .unset, .unset]) rfl k) ?_
        show oG _ _ _ _ _ _ _ (T73.setTop (mkF m 217 #[.val (.int p1), .val (.int p2), .val (.int p3), .val (.int 1), .val (.int 1), .val (.int 2), .val (.ref b1), .val (.int (-1)), .unset, .unset] []))
        refine oS (fun t k => XS.iload X73.here hx rfl (hb hby at_217) rfl k) ?_
        refine oS (fun t k => XS.ifNo X73.here hx rfl (hb hby at_219) rfl ((if0 _ _).trans (tlt (by decide)).2.1) k) ?_
        refine oS (fun t k => XS.aconstNull X73.here hx rfl (hb hby at_222) k) ?_
        refine oS (fun t k => XS.goto X73.here hx rfl (pc0 := 223) (pc' := 231) rfl (hb hby at_223) (by decide) (by decide) k) ?_
        refine oS (fun t k => XS.astore X73.here hx rfl (hb hby at_231) rfl rfl (l' := #[.val (.int p1), .val (.int p2), .val (.int p3), .val (.int 1), .val (.int 1), .val (.int 2), .val (.ref b1), .val (.int (-1)), .val .null, .unset]) rfl k) ?_
        show oG _ _ _ _ _ _ _ (T73.setTop (mkF m 233 #[.val (.int p1), .val (.int p2), .val (.int p3), .val (.int 1), .val (.int 1), .val (.int 2), .val (.ref b1), .val (.int (-1)), .val .null, .unset] []))
        refine oS (fun t k => XS.iloadN X73.here hx rfl (hb hby at_233) rfl k) ?_
        obtain ⟨_, _, ⟨T179, L179, k179, n179⟩, -, X179, ⟨Lc179, hQ179, l179, y179, z179⟩, st179⟩ := Jvm.LawKit.callS X73 hx (y := mY0) hown (mvT hZ (oW hw 2 rfl)) (mvT hZ (oW hw 3 rfl)) (mvT hZ (oW hw 4 rfl)) (mvT hZ (oW hw 5 rfl)) (by decide) (backOf (W := 0) (rm_op_1 l Z a0 hw []  w h73 n0 O73 W ) hZ (oW hw 5 rfl) (oW hw 4 rfl) (by decide) (by decide)) (g := (mkF m 234 #[.val (.int p1), .val (.int p2), .val (.int p3), .val (.int 1), .val (.int 1), .val (.int 2), .val (.ref b1), .val (.int (-1)), .val .null, .unset] [(.int 1)])) rfl (by rw [hml]; rfl) (argsL := [(.int 1)]) (rest := []) (lenOf pd_5 rfl) rfl (by show 2 * 0 + _ ≤ _; exact Nat.le_of_eq rfl) (hb hby at_234) (fun _ _ => ⟨rfl, e73, (by decide : 1 + 0 ≤ _), (by decide : 36 + 0 ≤ _)⟩)
        dsimp only [Pt.U, Pt.locs, Pt.cells, Pt.slots] at X179 l179 y179 z179 st179 hQ179
        rw [l179, y179, z179] at X179
        clear l179 y179 z179
        obtain ⟨rfl, Nq179, e179⟩ := hQ179
        have N179 := Fr.app N73 Nq179
        refine oS (fun t k => st179 t k) ?_
        show oG _ _ _ _ _ _ _ (T179.setTop (mkF m 237 #[.val (.int p1), .val (.int p2), .val (.int p3), .val (.int 1), .val (.int 1), .val (.int 2), .val (.ref b1), .val (.int (-1)), .val .null, .unset] [(.ref (w 4))]))
        try clear st179 X73 e73
        try clear T73
        refine oS (fun t k => XS.iload X179.here hx rfl (hb hby at_237) rfl k) ?_
        obtain ⟨_, _, ⟨T180, L180, k180, n180⟩, -, X180, ⟨Lc180, hQ180, l180, y180, z180⟩, st180⟩ := Jvm.LawKit.callS X179 hx (y := mY2) hown (mvT hZ (oW hw 9 rfl)) (mvT hZ (oW hw 10 rfl)) (mvT hZ (oW hw 4 rfl)) (mvT hZ (oW hw 11 rfl)) (by decide) (backOf (W := 1) (rm_vt_1 l Z a0 hw []  w h73 n0 O73 W ) hZ (oW hw 11 rfl) (oW hw 4 rfl) (by decide) (by decide)) (g := (mkF m 239 #[.val (.int p1), .val (.int p2), .val (.int p3), .val (.int 1), .val (.int 1), .val (.int 2), .val (.ref b1), .val (.int (-1)), .val .null, .unset] [(.int 1), (.ref (w 4))])) rfl (by rw [hml]; rfl) (argsL := [(.int 1)]) (rest := [(.ref (w 4))]) (lenOf pd_4 rfl) rfl (by show 2 * 0 + _ ≤ _; exact Nat.le_of_eq rfl) (hb hby at_239) (fun _ _ => ⟨rfl, e179, (by decide : 1 + 0 ≤ _), (by decide : 36 + 0 ≤ _)⟩)
        dsimp only [Pt.U, Pt.locs, Pt.cells, Pt.slots] at X180 l180 y180 z180 st180 hQ180
        rw [l180, y180, z180] at X180
        clear l180 y180 z180
        obtain ⟨rfl, Nq180, e180⟩ := hQ180
        have N180 := Fr.app N179 Nq180
        refine oS (fun t k => st180 t k) ?_
        show oG _ _ _ _ _ _ _ (T180.setTop (mkF m 242 #[.val (.int p1), .val (.int p2), .val (.int p3), .val (.int 1), .val (.int 1), .val (.int 2), .val (.ref b1), .val (.int (-1)), .val .null, .unset] [(.ref (w 3)), (.ref (w 4))]))
        try clear st180 X179 e179
        refine oS (fun t k => XS.iload X180.here hx rfl (hb hby at_242) rfl k) ?_
        obtain ⟨_, _, ⟨T181, L181, k181, n181⟩, -, X181, ⟨Lc181, hQ181, l181, y181, z181⟩, st181⟩ := Jvm.LawKit.callS X180 hx (y := mY2) hown (mvT hZ (oW hw 9 rfl)) (mvT hZ (oW hw 10 rfl)) (mvT hZ (oW hw 4 rfl)) (mvT hZ (oW hw 11 rfl)) (by decide) (backOf (W := 2) (rm_vt_2 l Z a0 hw []  w h73 n0 O73 W ) hZ (oW hw 11 rfl) (oW hw 4 rfl) (by decide) (by decide)) (g := (mkF m 244 #[.val (.int p1), .val (.int p2), .val (.int p3), .val (.int 1), .val (.int 1), .val (.int 2), .val (.ref b1), .val (.int (-1)), .val .null, .unset] [(.int 2), (.ref (w 3)), (.ref (w 4))])) rfl (by rw [hml]; rfl) (argsL := [(.int 2)]) (rest := [(.ref (w 3)), (.ref (w 4))]) (lenOf pd_4 rfl) rfl (by show 2 * 0 + _ ≤ _; exact Nat.le_of_eq rfl) (hb hby at_244) (fun _ _ => ⟨rfl, e180, (by decide : 1 + 0 ≤ _), (by decide : 36 + 0 ≤ _)⟩)
        dsimp only [Pt.U, Pt.locs, Pt.cells, Pt.slots] at X181 l181 y181 z181 st181 hQ181
        rw [l181, y181, z181] at X181
        clear l181 y181 z181
        obtain ⟨rfl, Nq181, e181⟩ := hQ181
        have N181 := Fr.app N180 Nq181
        refine oS (fun t k => st181 t k) ?_
        show oG _ _ _ _ _ _ _ (T181.setTop (mkF m 247 #[.val (.int p1), .val (.int p2), .val (.int p3), .val (.int 1), .val (.int 1), .val (.int 2), .val (.ref b1), .val (.int (-1)), .val .null, .unset] [(.ref (w 2)), (.ref (w 3)), (.ref (w 4))]))
        try clear st181 X180 e180
        obtain ⟨cq182, kq182, q182a, q182b, q182c⟩ := isOf hZ e181 ((wE4 W).ext O73.2)
        obtain ⟨_, _, ⟨T182, L182, k182, n182⟩, -, X182, ⟨Lc182, hQ182, l182, y182, z182⟩, st182⟩ := X181.virtualBack hx (y := mY8) (z := mY8) hown (mvT hZ (oW hw 17 rfl)) (mvT hZ (oW hw 18 rfl)) (notFace_of_selects (args := #[]) (mvT hZ (oW hw 20 rfl))) (mvT hZ (oW hw 20 rfl)) (mvT hZ (oW hw 19 rfl)) (by decide) (backOf (W := 0) (rm_ty_112 l Z a0 hw []  w h73 n0 O73 W ) hZ (oW hw 21 rfl) (oW hw 7 rfl) (by decide) (by decide)) q182a q182c (g := (mkF m 247 #[.val (.int p1), .val (.int p2), .val (.int p3), .val (.int 1), .val (.int 1), .val (.int 2), .val (.ref b1), .val (.int (-1)), .val .null, .unset] [(.ref (w 2)), (.ref (w 3)), (.ref (w 4))])) rfl (by rw [hml]; rfl) (Steps.refl _) (argsL := [(.ref (w 3)), (.ref (w 2))]) (rest := []) (lenOf pd_6 rfl) rfl (by show 2 * 0 + _ ≤ _; exact Nat.le_of_eq rfl) (hb hby at_247) (fun _ _ => ⟨rfl, e181, (by decide : 1 + 0 ≤ _), (by decide : 36 + 0 ≤ _)⟩)
        dsimp only [Pt.U, Pt.locs, Pt.cells, Pt.slots] at X182 l182 y182 z182 st182 hQ182
        rw [l182, y182, z182] at X182
        clear l182 y182 z182
        obtain ⟨rfl, Nq182, e182⟩ := hQ182
        have N182 := Fr.app N181 Nq182
        refine oS (fun t k => st182.trans k) ?_
        show oG _ _ _ _ _ _ _ (T182.setTop (mkF m 250 #[.val (.int p1), .val (.int p2), .val (.int p3), .val (.int 1), .val (.int 1), .val (.int 2), .val (.ref b1), .val (.int (-1)), .val .null, .unset] [(.ref (w 7))]))
        try clear st182 X181 e181
        refine oS (fun t k => XS.aconstNull X182.here hx rfl (hb hby at_250) k) ?_
        obtain ⟨cq183, kq183, q183a, q183b, q183c⟩ := isOf hZ e182 ((wE7 W).ext O73.2)
        obtain ⟨_, _, ⟨T183, L183, k183, n183⟩, -, X183, ⟨Lc183, hQ183, l183, y183, z183⟩, st183⟩ := X182.virtualBack hx (y := mY7) (z := mY7) hown (mvT hZ (oW hw 39 rfl)) (mvT hZ (oW hw 40 rfl)) (notFace_of_selects (args := #[]) (mvT hZ (oW hw 42 rfl))) (mvT hZ (oW hw 42 rfl)) (mvT hZ (oW hw 41 rfl)) (by decide) (backOf (W := 0) (rm_oe0 l Z a0 hw [] (w 7)  h73 n0 O73  ((wF7_value W).ext O73.2)) hZ (oW hw 43 rfl) (oW hw 36 rfl) (by decide) (by decide)) q183a q183c (g := (mkF m 251 #[.val (.int p1), .val (.int p2), .val (.int p3), .val (.int 1), .val (.int 1), .val (.int 2), .val (.ref b1), .val (.int (-1)), .val .null, .unset] [.null, (.ref (w 7))])) rfl (by rw [hml]; rfl) (Steps.refl _) (argsL := [.null]) (rest := []) (lenOf pd_0 rfl) rfl (by show 2 * 0 + _ ≤ _; exact Nat.le_of_eq rfl) (hb hby at_251) (fun _ _ => ⟨rfl, e182, (by decide : 1 + 0 ≤ _), (by decide : 36 + 0 ≤ _)⟩)
        dsimp only [Pt.U, Pt.locs, Pt.cells, Pt.slots] at X183 l183 y183 z183 st183 hQ183
        rw [l183, y183, z183] at X183
        clear l183 y183 z183
        obtain ⟨rfl, Nq183, e183⟩ := hQ183
        have N183 := Fr.app N182 Nq183
        refine oS (fun t k => st183.trans k) ?_
        show oG _ _ _ _ _ _ _ (T183.setTop (mkF m 254 #[.val (.int p1), .val (.int p2), .val (.int p3), .val (.int 1), .val (.int 1), .val (.int 2), .val (.ref b1), .val (.int (-1)), .val .null, .unset] [.null]))
        try clear st183 X182 e182
        refine oS (fun t k => X183.checkcastNull hx (g := (mkF m 254 #[.val (.int p1), .val (.int p2), .val (.int p3), .val (.int 1), .val (.int 1), .val (.int 2), .val (.ref b1), .val (.int (-1)), .val .null, .unset] [.null])) rfl rfl (hb hby at_254) t k) ?_
        refine oS (fun t k => XS.astore X183.here hx rfl (hb hby at_257) rfl rfl (l' := #[.val (.int p1), .val (.int p2), .val (.int p3), .val (.int 1), .val (.int 1), .val (.int 2), .val (.ref b1), .val (.int (-1)), .val .null, .val .null]) rfl k) ?_
        refine oS (fun t k => XS.aload X183.here hx rfl (hb hby at_259) rfl rfl k) ?_
        refine oS (fun t k => XS.aload X183.here hx rfl (hb hby at_261) rfl rfl k) ?_
        refine oS (fun t k => Jvm.RoadKit.acmp (g := (mkF m 263 #[.val (.int p1), .val (.int p2), .val (.int p3), .val (.int 1), .val (.int 1), .val (.int 2), .val (.ref b1), .val (.int (-1)), .val .null, .val .null] [.null, .null])) X183 hx rfl rfl rfl (pc0 := 263) (pc' := 266) (same := true) rfl (hb hby at_263) rfl (decide_eq_true rfl) (by decide) (by decide) k) ?_
        show oG _ _ _ _ _ _ _ (T183.setTop (mkF m 266 #[.val (.int p1), .val (.int p2), .val (.int p3), .val (.int 1), .val (.int 1), .val (.int 2), .val (.ref b1), .val (.int (-1)), .val .null, .val .null] []))
        refine oS (fun t k => oIc li_1 X183.here hx rfl (hb hby at_266) k) ?_
        refine oS (fun t k => XS.goto X183.here hx rfl (pc0 := 267) (pc' := 271) rfl (hb hby at_267) (by decide) (by decide) k) ?_
        exact own_ret (v := some (.int 1)) X183 (fun h => by rw [Bd.returns] at h; cases h) Bd.notSynchronized (fun fs hr => retN X183 hx (t := .boolean) Bd.returns (by simp) (hb hby at_271) hr) (by rw [e183]; exact ⟨rfl, N183⟩) (by decide) (by decide)
    · rw [hs139]
      show oG _ _ _ _ _ _ _ (T73.setTop (mkF m 200 #[.val (.int p1), .val (.int p2), .val (.int p3), .val (.int 1), .val (.int 2), .val (.int ((p3 &&& (2147483647 : Int32)) % (3 : Int32))), .val (.ref b1), .unset, .unset, .unset] []))
      show oG _ _ _ _ _ _ _ (T73.setTop (mkF m 200 #[.val (.int p1), .val (.int p2), .val (.int p3), .val (.int 1), .val (.int 2), .val (.int ((p3 &&& (2147483647 : Int32)) % (3 : Int32))), .val (.ref b1), .unset, .unset, .unset] []))
      rcases own_three p3 with hs184 | hs184 | hs184
      · rw [hs184]
        show oG _ _ _ _ _ _ _ (T73.setTop (mkF m 200 #[.val (.int p1), .val (.int p2), .val (.int p3), .val (.int 1), .val (.int 2), .val (.int 0), .val (.ref b1), .unset, .unset, .unset] []))
        refine oS (fun t k => XS.aload X73.here hx rfl (hb hby at_200) rfl rfl k) ?_
        refine oS (fun t k => XS.iloadN X73.here hx rfl (hb hby at_202) rfl k) ?_
        show oG _ _ _ _ _ _ _ (T73.setTop (mkF m 203 #[.val (.int p1), .val (.int p2), .val (.int p3), .val (.int 1), .val (.int 2), .val (.int 0), .val (.ref b1), .unset, .unset, .unset] [(.int 1), (.ref b1)]))
        refine oS (fun t k => oBp lb_9 X73.here hx rfl (hb hby at_203) k) ?_
        refine oS (S' := (T73.setTop (mkF m 206 #[.val (.int p1), .val (.int p2), .val (.int p3), .val (.int 1), .val (.int 2), .val (.int 0), .val (.ref b1), .unset, .unset, .unset] [(.int 9), (.ref b1)]))) (fun t k => XS.imul X73.here hx rfl (hb hby at_205) rfl (by rw [show (1 : Int32) * (9 : Int32) = (9 : Int32) from by decide]; exact k)) ?_
        refine oS (fun t k => XS.iload X73.here hx rfl (hb hby at_206) rfl k) ?_
        refine oS (fun t k => oIc li_3 X73.here hx rfl (hb hby at_208) k) ?_
        refine oS (S' := (T73.setTop (mkF m 210 #[.val (.int p1), .val (.int p2), .val (.int p3), .val (.int 1), .val (.int 2), .val (.int 0), .val (.ref b1), .unset, .unset, .unset] [(.int 6), (.int 9), (.ref b1)]))) (fun t k => XS.imul X73.here hx rfl (hb hby at_209) rfl (by rw [show (2 : Int32) * (3 : Int32) = (6 : Int32) from by decide]; exact k)) ?_
        refine oS (S' := (T73.setTop (mkF m 211 #[.val (.int p1), .val (.int p2), .val (.int p3), .val (.int 1), .val (.int 2), .val (.int 0), .val (.ref b1), .unset, .unset, .unset] [(.int 15), (.ref b1)]))) (fun t k => XS.iadd X73.here hx rfl (hb hby at_210) rfl (by rw [show (9 : Int32) + (6 : Int32) = (15 : Int32) from by decide]; exact k)) ?_
        refine oS (fun t k => XS.iload X73.here hx rfl (hb hby at_211) rfl k) ?_
        refine oS (S' := (T73.setTop (mkF m 214 #[.val (.int p1), .val (.int p2), .val (.int p3), .val (.int 1), .val (.int 2), .val (.int 0), .val (.ref b1), .unset, .unset, .unset] [(.int 15), (.ref b1)]))) (fun t k => XS.iadd X73.here hx rfl (hb hby at_213) rfl (by rw [show (15 : Int32) + (0 : Int32) = (15 : Int32) from by decide]; exact k)) ?_
        obtain ⟨cl185, Ar185, qk185, Sz185, Ng185, Ha185, Gf185⟩ := id V73
        have hin185 : ¬ ((15 : Int32) < 0 ∨ cl185.slots.size ≤ ((15 : Int32)).toNatClampNeg) := (inb_of Sz185 ⟨by decide, by decide⟩)
        have hat185 : cl185.slots[((15 : Int32)).toNatClampNeg]? = some (.int (-1)) := Ha185.at hin185 rfl
        refine oS (fun t k => X73.iaload hx (j := (15 : Int32)) (v := (.int (-1))) (by rw [e73]; exact Ar185.1) (State.isArrayOf_alike hZ.alike Ar185.2.1) Ar185.2.2 hin185 hat185 (g := (mkF m 214 #[.val (.int p1), .val (.int p2), .val (.int p3), .val (.int 1), .val (.int 2), .val (.int 0), .val (.ref b1), .unset, .unset, .unset] [(.int 15), (.ref b1)])) rfl rfl (hb hby at_214) t k) ?_
        refine oS (fun t k => XS.istore X73.here hx rfl (hb hby at_215) rfl (l' := #[.val (.int p1), .val (.int p2), .val (.int p3), .val (.int 1), .val (.int 2), .val (.int 0), .val (.ref b1), .val (.int (-1)), .unset, .unset]) rfl k) ?_
        show oG _ _ _ _ _ _ _ (T73.setTop (mkF m 217 #[.val (.int p1), .val (.int p2), .val (.int p3), .val (.int 1), .val (.int 2), .val (.int 0), .val (.ref b1), .val (.int (-1)), .unset, .unset] []))
        refine oS (fun t k => XS.iload X73.here hx rfl (hb hby at_217) rfl k) ?_
        refine oS (fun t k => XS.ifNo X73.here hx rfl (hb hby at_219) rfl ((if0 _ _).trans (tlt (by decide)).2.1) k) ?_
        refine oS (fun t k => XS.aconstNull X73.here hx rfl (hb hby at_222) k) ?_
        refine oS (fun t k => XS.goto X73.here hx rfl (pc0 := 223) (pc' := 231) rfl (hb hby at_223) (by decide) (by decide) k) ?_
        refine oS (fun t k => XS.astore X73.here hx rfl (hb hby at_231) rfl rfl (l' := #[.val (.int p1), .val (.int p2), .val (.int p3), .val (.int 1), .val (.int 2), .val (.int 0), .val (.ref b1), .val (.int (-1)), .val .null, .unset]) rfl k) ?_
        show oG _ _ _ _ _ _ _ (T73.setTop (mkF m 233 #[.val (.int p1), .val (.int p2), .val (.int p3), .val (.int 1), .val (.int 2), .val (.int 0), .val (.ref b1), .val (.int (-1)), .val .null, .unset] []))
        refine oS (fun t k => XS.iloadN X73.here hx rfl (hb hby at_233) rfl k) ?_
        obtain ⟨_, _, ⟨T186, L186, k186, n186⟩, -, X186, ⟨Lc186, hQ186, l186, y186, z186⟩, st186⟩ := Jvm.LawKit.callS X73 hx (y := mY0) hown (mvT hZ (oW hw 2 rfl)) (mvT hZ (oW hw 3 rfl)) (mvT hZ (oW hw 4 rfl)) (mvT hZ (oW hw 5 rfl)) (by decide) (backOf (W := 0) (rm_op_1 l Z a0 hw []  w h73 n0 O73 W ) hZ (oW hw 5 rfl) (oW hw 4 rfl) (by decide) (by decide)) (g := (mkF m 234 #[.val (.int p1), .val (.int p2), .val (.int p3), .val (.int 1), .val (.int 2), .val (.int 0), .val (.ref b1), .val (.int (-1)), .val .null, .unset] [(.int 1)])) rfl (by rw [hml]; rfl) (argsL := [(.int 1)]) (rest := []) (lenOf pd_5 rfl) rfl (by show 2 * 0 + _ ≤ _; exact Nat.le_of_eq rfl) (hb hby at_234) (fun _ _ => ⟨rfl, e73, (by decide : 1 + 0 ≤ _), (by decide : 36 + 0 ≤ _)⟩)
        dsimp only [Pt.U, Pt.locs, Pt.cells, Pt.slots] at X186 l186 y186 z186 st186 hQ186
        rw [l186, y186, z186] at X186
        clear l186 y186 z186
        obtain ⟨rfl, Nq186, e186⟩ := hQ186
        have N186 := Fr.app N73 Nq186
        refine oS (fun t k => st186 t k) ?_
        show oG _ _ _ _ _ _ _ (T186.setTop (mkF m 237 #[.val (.int p1), .val (.int p2), .val (.int p3), .val (.int 1), .val (.int 2), .val (.int 0), .val (.ref b1), .val (.int (-1)), .val .null, .unset] [(.ref (w 4))]))
        try clear st186 X73 e73
        try clear T73
        refine oS (fun t k => XS.iload X186.here hx rfl (hb hby at_237) rfl k) ?_
        obtain ⟨_, _, ⟨T187, L187, k187, n187⟩, -, X187, ⟨Lc187, hQ187, l187, y187, z187⟩, st187⟩ := Jvm.LawKit.callS X186 hx (y := mY2) hown (mvT hZ (oW hw 9 rfl)) (mvT hZ (oW hw 10 rfl)) (mvT hZ (oW hw 4 rfl)) (mvT hZ (oW hw 11 rfl)) (by decide) (backOf (W := 1) (rm_vt_2 l Z a0 hw []  w h73 n0 O73 W ) hZ (oW hw 11 rfl) (oW hw 4 rfl) (by decide) (by decide)) (g := (mkF m 239 #[.val (.int p1), .val (.int p2), .val (.int p3), .val (.int 1), .val (.int 2), .val (.int 0), .val (.ref b1), .val (.int (-1)), .val .null, .unset] [(.int 2), (.ref (w 4))])) rfl (by rw [hml]; rfl) (argsL := [(.int 2)]) (rest := [(.ref (w 4))]) (lenOf pd_4 rfl) rfl (by show 2 * 0 + _ ≤ _; exact Nat.le_of_eq rfl) (hb hby at_239) (fun _ _ => ⟨rfl, e186, (by decide : 1 + 0 ≤ _), (by decide : 36 + 0 ≤ _)⟩)
        dsimp only [Pt.U, Pt.locs, Pt.cells, Pt.slots] at X187 l187 y187 z187 st187 hQ187
        rw [l187, y187, z187] at X187
        clear l187 y187 z187
        obtain ⟨rfl, Nq187, e187⟩ := hQ187
        have N187 := Fr.app N186 Nq187
        refine oS (fun t k => st187 t k) ?_
        show oG _ _ _ _ _ _ _ (T187.setTop (mkF m 242 #[.val (.int p1), .val (.int p2), .val (.int p3), .val (.int 1), .val (.int 2), .val (.int 0), .val (.ref b1), .val (.int (-1)), .val .null, .unset] [(.ref (w 2)), (.ref (w 4))]))
        try clear st187 X186 e186
        refine oS (fun t k => XS.iload X187.here hx rfl (hb hby at_242) rfl k) ?_
        obtain ⟨_, _, ⟨T188, L188, k188, n188⟩, -, X188, ⟨Lc188, hQ188, l188, y188, z188⟩, st188⟩ := Jvm.LawKit.callS X187 hx (y := mY2) hown (mvT hZ (oW hw 9 rfl)) (mvT hZ (oW hw 10 rfl)) (mvT hZ (oW hw 4 rfl)) (mvT hZ (oW hw 11 rfl)) (by decide) (backOf (W := 2) (rm_vt_0 l Z a0 hw []  w h73 n0 O73 W ) hZ (oW hw 11 rfl) (oW hw 4 rfl) (by decide) (by decide)) (g := (mkF m 244 #[.val (.int p1), .val (.int p2), .val (.int p3), .val (.int 1), .val (.int 2), .val (.int 0), .val (.ref b1), .val (.int (-1)), .val .null, .unset] [(.int 0), (.ref (w 2)), (.ref (w 4))])) rfl (by rw [hml]; rfl) (argsL := [(.int 0)]) (rest := [(.ref (w 2)), (.ref (w 4))]) (lenOf pd_4 rfl) rfl (by show 2 * 0 + _ ≤ _; exact Nat.le_of_eq rfl) (hb hby at_244) (fun _ _ => ⟨rfl, e187, (by decide : 1 + 0 ≤ _), (by decide : 36 + 0 ≤ _)⟩)
        dsimp only [Pt.U, Pt.locs, Pt.cells, Pt.slots] at X188 l188 y188 z188 st188 hQ188
        rw [l188, y188, z188] at X188
        clear l188 y188 z188
        obtain ⟨rfl, Nq188, e188⟩ := hQ188
        have N188 := Fr.app N187 Nq188
        refine oS (fun t k => st188 t k) ?_
        show oG _ _ _ _ _ _ _ (T188.setTop (mkF m 247 #[.val (.int p1), .val (.int p2), .val (.int p3), .val (.int 1), .val (.int 2), .val (.int 0), .val (.ref b1), .val (.int (-1)), .val .null, .unset] [(.ref (w 1)), (.ref (w 2)), (.ref (w 4))]))
        try clear st188 X187 e187
        obtain ⟨cq189, kq189, q189a, q189b, q189c⟩ := isOf hZ e188 ((wE4 W).ext O73.2)
        obtain ⟨_, _, ⟨T189, L189, k189, n189⟩, -, X189, ⟨Lc189, hQ189, l189, y189, z189⟩, st189⟩ := X188.virtualBack hx (y := mY8) (z := mY8) hown (mvT hZ (oW hw 17 rfl)) (mvT hZ (oW hw 18 rfl)) (notFace_of_selects (args := #[]) (mvT hZ (oW hw 20 rfl))) (mvT hZ (oW hw 20 rfl)) (mvT hZ (oW hw 19 rfl)) (by decide) (backOf (W := 0) (rm_ty_120 l Z a0 hw []  w h73 n0 O73 W ) hZ (oW hw 21 rfl) (oW hw 7 rfl) (by decide) (by decide)) q189a q189c (g := (mkF m 247 #[.val (.int p1), .val (.int p2), .val (.int p3), .val (.int 1), .val (.int 2), .val (.int 0), .val (.ref b1), .val (.int (-1)), .val .null, .unset] [(.ref (w 1)), (.ref (w 2)), (.ref (w 4))])) rfl (by rw [hml]; rfl) (Steps.refl _) (argsL := [(.ref (w 2)), (.ref (w 1))]) (rest := []) (lenOf pd_6 rfl) rfl (by show 2 * 0 + _ ≤ _; exact Nat.le_of_eq rfl) (hb hby at_247) (fun _ _ => ⟨rfl, e188, (by decide : 1 + 0 ≤ _), (by decide : 36 + 0 ≤ _)⟩)
        dsimp only [Pt.U, Pt.locs, Pt.cells, Pt.slots] at X189 l189 y189 z189 st189 hQ189
        rw [l189, y189, z189] at X189
        clear l189 y189 z189
        obtain ⟨rfl, Nq189, e189⟩ := hQ189
        have N189 := Fr.app N188 Nq189
        refine oS (fun t k => st189.trans k) ?_
        show oG _ _ _ _ _ _ _ (T189.setTop (mkF m 250 #[.val (.int p1), .val (.int p2), .val (.int p3), .val (.int 1), .val (.int 2), .val (.int 0), .val (.ref b1), .val (.int (-1)), .val .null, .unset] [(.ref (w 7))]))
        try clear st189 X188 e188
        refine oS (fun t k => XS.aconstNull X189.here hx rfl (hb hby at_250) k) ?_
        obtain ⟨cq190, kq190, q190a, q190b, q190c⟩ := isOf hZ e189 ((wE7 W).ext O73.2)
        obtain ⟨_, _, ⟨T190, L190, k190, n190⟩, -, X190, ⟨Lc190, hQ190, l190, y190, z190⟩, st190⟩ := X189.virtualBack hx (y := mY7) (z := mY7) hown (mvT hZ (oW hw 39 rfl)) (mvT hZ (oW hw 40 rfl)) (notFace_of_selects (args := #[]) (mvT hZ (oW hw 42 rfl))) (mvT hZ (oW hw 42 rfl)) (mvT hZ (oW hw 41 rfl)) (by decide) (backOf (W := 0) (rm_oe0 l Z a0 hw [] (w 7)  h73 n0 O73  ((wF7_value W).ext O73.2)) hZ (oW hw 43 rfl) (oW hw 36 rfl) (by decide) (by decide)) q190a q190c (g := (mkF m 251 #[.val (.int p1), .val (.int p2), .val (.int p3), .val (.int 1), .val (.int 2), .val (.int 0), .val (.ref b1), .val (.int (-1)), .val .null, .unset] [.null, (.ref (w 7))])) rfl (by rw [hml]; rfl) (Steps.refl _) (argsL := [.null]) (rest := []) (lenOf pd_0 rfl) rfl (by show 2 * 0 + _ ≤ _; exact Nat.le_of_eq rfl) (hb hby at_251) (fun _ _ => ⟨rfl, e189, (by decide : 1 + 0 ≤ _), (by decide : 36 + 0 ≤ _)⟩)
        dsimp only [Pt.U, Pt.locs, Pt.cells, Pt.slots] at X190 l190 y190 z190 st190 hQ190
        rw [l190, y190, z190] at X190
        clear l190 y190 z190
        obtain ⟨rfl, Nq190, e190⟩ := hQ190
        have N190 := Fr.app N189 Nq190
        refine oS (fun t k => st190.trans k) ?_
        show oG _ _ _ _ _ _ _ (T190.setTop (mkF m 254 #[.val (.int p1), .val (.int p2), .val (.int p3), .val (.int 1), .val (.int 2), .val (.int 0), .val (.ref b1), .val (.int (-1)), .val .null, .unset] [.null]))
        try clear st190 X189 e189
        refine oS (fun t k => X190.checkcastNull hx (g := (mkF m 254 #[.val (.int p1), .val (.int p2), .val (.int p3), .val (.int 1), .val (.int 2), .val (.int 0), .val (.ref b1), .val (.int (-1)), .val .null, .unset] [.null])) rfl rfl (hb hby at_254) t k) ?_
        refine oS (fun t k => XS.astore X190.here hx rfl (hb hby at_257) rfl rfl (l' := #[.val (.int p1), .val (.int p2), .val (.int p3), .val (.int 1), .val (.int 2), .val (.int 0), .val (.ref b1), .val (.int (-1)), .val .null, .val .null]) rfl k) ?_
        refine oS (fun t k => XS.aload X190.here hx rfl (hb hby at_259) rfl rfl k) ?_
        refine oS (fun t k => XS.aload X190.here hx rfl (hb hby at_261) rfl rfl k) ?_
        refine oS (fun t k => Jvm.RoadKit.acmp (g := (mkF m 263 #[.val (.int p1), .val (.int p2), .val (.int p3), .val (.int 1), .val (.int 2), .val (.int 0), .val (.ref b1), .val (.int (-1)), .val .null, .val .null] [.null, .null])) X190 hx rfl rfl rfl (pc0 := 263) (pc' := 266) (same := true) rfl (hb hby at_263) rfl (decide_eq_true rfl) (by decide) (by decide) k) ?_
        show oG _ _ _ _ _ _ _ (T190.setTop (mkF m 266 #[.val (.int p1), .val (.int p2), .val (.int p3), .val (.int 1), .val (.int 2), .val (.int 0), .val (.ref b1), .val (.int (-1)), .val .null, .val .null] []))
        refine oS (fun t k => oIc li_1 X190.here hx rfl (hb hby at_266) k) ?_
        refine oS (fun t k => XS.goto X190.here hx rfl (pc0 := 267) (pc' := 271) rfl (hb hby at_267) (by decide) (by decide) k) ?_
        exact own_ret (v := some (.int 1)) X190 (fun h => by rw [Bd.returns] at h; cases h) Bd.notSynchronized (fun fs hr => retN X190 hx (t := .boolean) Bd.returns (by simp) (hb hby at_271) hr) (by rw [e190]; exact ⟨rfl, N190⟩) (by decide) (by decide)
      · rw [hs184]
        show oG _ _ _ _ _ _ _ (T73.setTop (mkF m 200 #[.val (.int p1), .val (.int p2), .val (.int p3), .val (.int 1), .val (.int 2), .val (.int 1), .val (.ref b1), .unset, .unset, .unset] []))
        refine oS (fun t k => XS.aload X73.here hx rfl (hb hby at_200) rfl rfl k) ?_
        refine oS (fun t k => XS.iloadN X73.here hx rfl (hb hby at_202) rfl k) ?_
        show oG _ _ _ _ _ _ _ (T73.setTop (mkF m 203 #[.val (.int p1), .val (.int p2), .val (.int p3), .val (.int 1), .val (.int 2), .val (.int 1), .val (.ref b1), .unset, .unset, .unset] [(.int 1), (.ref b1)]))
        refine oS (fun t k => oBp lb_9 X73.here hx rfl (hb hby at_203) k) ?_
        refine oS (S' := (T73.setTop (mkF m 206 #[.val (.int p1), .val (.int p2), .val (.int p3), .val (.int 1), .val (.int 2), .val (.int 1), .val (.ref b1), .unset, .unset, .unset] [(.int 9), (.ref b1)]))) (fun t k => XS.imul X73.here hx rfl (hb hby at_205) rfl (by rw [show (1 : Int32) * (9 : Int32) = (9 : Int32) from by decide]; exact k)) ?_
        refine oS (fun t k => XS.iload X73.here hx rfl (hb hby at_206) rfl k) ?_
        refine oS (fun t k => oIc li_3 X73.here hx rfl (hb hby at_208) k) ?_
        refine oS (S' := (T73.setTop (mkF m 210 #[.val (.int p1), .val (.int p2), .val (.int p3), .val (.int 1), .val (.int 2), .val (.int 1), .val (.ref b1), .unset, .unset, .unset] [(.int 6), (.int 9), (.ref b1)]))) (fun t k => XS.imul X73.here hx rfl (hb hby at_209) rfl (by rw [show (2 : Int32) * (3 : Int32) = (6 : Int32) from by decide]; exact k)) ?_
        refine oS (S' := (T73.setTop (mkF m 211 #[.val (.int p1), .val (.int p2), .val (.int p3), .val (.int 1), .val (.int 2), .val (.int 1), .val (.ref b1), .unset, .unset, .unset] [(.int 15), (.ref b1)]))) (fun t k => XS.iadd X73.here hx rfl (hb hby at_210) rfl (by rw [show (9 : Int32) + (6 : Int32) = (15 : Int32) from by decide]; exact k)) ?_
        refine oS (fun t k => XS.iload X73.here hx rfl (hb hby at_211) rfl k) ?_
        refine oS (S' := (T73.setTop (mkF m 214 #[.val (.int p1), .val (.int p2), .val (.int p3), .val (.int 1), .val (.int 2), .val (.int 1), .val (.ref b1), .unset, .unset, .unset] [(.int 16), (.ref b1)]))) (fun t k => XS.iadd X73.here hx rfl (hb hby at_213) rfl (by rw [show (15 : Int32) + (1 : Int32) = (16 : Int32) from by decide]; exact k)) ?_
        obtain ⟨cl191, Ar191, qk191, Sz191, Ng191, Ha191, Gf191⟩ := id V73
        have hin191 : ¬ ((16 : Int32) < 0 ∨ cl191.slots.size ≤ ((16 : Int32)).toNatClampNeg) := (inb_of Sz191 ⟨by decide, by decide⟩)
        have hat191 : cl191.slots[((16 : Int32)).toNatClampNeg]? = some (.int (-1)) := Ha191.at hin191 rfl
        refine oS (fun t k => X73.iaload hx (j := (16 : Int32)) (v := (.int (-1))) (by rw [e73]; exact Ar191.1) (State.isArrayOf_alike hZ.alike Ar191.2.1) Ar191.2.2 hin191 hat191 (g := (mkF m 214 #[.val (.int p1), .val (.int p2), .val (.int p3), .val (.int 1), .val (.int 2), .val (.int 1), .val (.ref b1), .unset, .unset, .unset] [(.int 16), (.ref b1)])) rfl rfl (hb hby at_214) t k) ?_
        refine oS (fun t k => XS.istore X73.here hx rfl (hb hby at_215) rfl (l' := #[.val (.int p1), .val (.int p2), .val (.int p3), .val (.int 1), .val (.int 2), .val (.int 1), .val (.ref b1), .val (.int (-1)), .unset, .unset]) rfl k) ?_
        show oG _ _ _ _ _ _ _ (T73.setTop (mkF m 217 #[.val (.int p1), .val (.int p2), .val (.int p3), .val (.int 1), .val (.int 2), .val (.int 1), .val (.ref b1), .val (.int (-1)), .unset, .unset] []))
        refine oS (fun t k => XS.iload X73.here hx rfl (hb hby at_217) rfl k) ?_
        refine oS (fun t k => XS.ifNo X73.here hx rfl (hb hby at_219) rfl ((if0 _ _).trans (tlt (by decide)).2.1) k) ?_
        refine oS (fun t k => XS.aconstNull X73.here hx rfl (hb hby at_222) k) ?_
        refine oS (fun t k => XS.goto X73.here hx rfl (pc0 := 223) (pc' := 231) rfl (hb hby at_223) (by decide) (by decide) k) ?_
        refine oS (fun t k => XS.astore X73.here hx rfl (hb hby at_231) rfl rfl (l' := #[.val (.int p1), .val (.int p2), .val (.int p3), .val (.int 1), .val (.int 2), .val (.int 1), .val (.ref b1), .val (.int (-1)), .val .null, .unset]) rfl k) ?_
        show oG _ _ _ _ _ _ _ (T73.setTop (mkF m 233 #[.val (.int p1), .val (.int p2), .val (.int p3), .val (.int 1), .val (.int 2), .val (.int 1), .val (.ref b1), .val (.int (-1)), .val .null, .unset] []))
        refine oS (fun t k => XS.iloadN X73.here hx rfl (hb hby at_233) rfl k) ?_
        obtain ⟨_, _, ⟨T192, L192, k192, n192⟩, -, X192, ⟨Lc192, hQ192, l192, y192, z192⟩, st192⟩ := Jvm.LawKit.callS X73 hx (y := mY0) hown (mvT hZ (oW hw 2 rfl)) (mvT hZ (oW hw 3 rfl)) (mvT hZ (oW hw 4 rfl)) (mvT hZ (oW hw 5 rfl)) (by decide) (backOf (W := 0) (rm_op_1 l Z a0 hw []  w h73 n0 O73 W ) hZ (oW hw 5 rfl) (oW hw 4 rfl) (by decide) (by decide)) (g := (mkF m 234 #[.val (.int p1), .val (.int p2), .val (.int p3), .val (.int 1), .val (.int 2), .val (.int 1), .val (.ref b1), .val (.int (-1)), .val .null, .unset] [(.int 1)])) rfl (by rw [hml]; rfl) (argsL := [(.int 1)]) (rest := []) (lenOf pd_5 rfl) rfl (by show 2 * 0 + _ ≤ _; exact Nat.le_of_eq rfl) (hb hby at_234) (fun _ _ => ⟨rfl, e73, (by decide : 1 + 0 ≤ _), (by decide : 36 + 0 ≤ _)⟩)
        dsimp only [Pt.U, Pt.locs, Pt.cells, Pt.slots] at X192 l192 y192 z192 st192 hQ192
        rw [l192, y192, z192] at X192
        clear l192 y192 z192
        obtain ⟨rfl, Nq192, e192⟩ := hQ192
        have N192 := Fr.app N73 Nq192
        refine oS (fun t k => st192 t k) ?_
        show oG _ _ _ _ _ _ _ (T192.setTop (mkF m 237 #[.val (.int p1), .val (.int p2), .val (.int p3), .val (.int 1), .val (.int 2), .val (.int 1), .val (.ref b1), .val (.int (-1)), .val .null, .unset] [(.ref (w 4))]))
        try clear st192 X73 e73
        try clear T73
        refine oS (fun t k => XS.iload X192.here hx rfl (hb hby at_237) rfl k) ?_
        obtain ⟨_, _, ⟨T193, L193, k193, n193⟩, -, X193, ⟨Lc193, hQ193, l193, y193, z193⟩, st193⟩ := Jvm.LawKit.callS X192 hx (y := mY2) hown (mvT hZ (oW hw 9 rfl)) (mvT hZ (oW hw 10 rfl)) (mvT hZ (oW hw 4 rfl)) (mvT hZ (oW hw 11 rfl)) (by decide) (backOf (W := 1) (rm_vt_2 l Z a0 hw []  w h73 n0 O73 W ) hZ (oW hw 11 rfl) (oW hw 4 rfl) (by decide) (by decide)) (g := (mkF m 239 #[.val (.int p1), .val (.int p2), .val (.int p3), .val (.int 1), .val (.int 2), .val (.int 1), .val (.ref b1), .val (.int (-1)), .val .null, .unset] [(.int 2), (.ref (w 4))])) rfl (by rw [hml]; rfl) (argsL := [(.int 2)]) (rest := [(.ref (w 4))]) (lenOf pd_4 rfl) rfl (by show 2 * 0 + _ ≤ _; exact Nat.le_of_eq rfl) (hb hby at_239) (fun _ _ => ⟨rfl, e192, (by decide : 1 + 0 ≤ _), (by decide : 36 + 0 ≤ _)⟩)
        dsimp only [Pt.U, Pt.locs, Pt.cells, Pt.slots] at X193 l193 y193 z193 st193 hQ193
        rw [l193, y193, z193] at X193
        clear l193 y193 z193
        obtain ⟨rfl, Nq193, e193⟩ := hQ193
        have N193 := Fr.app N192 Nq193
        refine oS (fun t k => st193 t k) ?_
        show oG _ _ _ _ _ _ _ (T193.setTop (mkF m 242 #[.val (.int p1), .val (.int p2), .val (.int p3), .val (.int 1), .val (.int 2), .val (.int 1), .val (.ref b1), .val (.int (-1)), .val .null, .unset] [(.ref (w 2)), (.ref (w 4))]))
        try clear st193 X192 e192
        refine oS (fun t k => XS.iload X193.here hx rfl (hb hby at_242) rfl k) ?_
        obtain ⟨_, _, ⟨T194, L194, k194, n194⟩, -, X194, ⟨Lc194, hQ194, l194, y194, z194⟩, st194⟩ := Jvm.LawKit.callS X193 hx (y := mY2) hown (mvT hZ (oW hw 9 rfl)) (mvT hZ (oW hw 10 rfl)) (mvT hZ (oW hw 4 rfl)) (mvT hZ (oW hw 11 rfl)) (by decide) (backOf (W := 2) (rm_vt_1 l Z a0 hw []  w h73 n0 O73 W ) hZ (oW hw 11 rfl) (oW hw 4 rfl) (by decide) (by decide)) (g := (mkF m 244 #[.val (.int p1), .val (.int p2), .val (.int p3), .val (.int 1), .val (.int 2), .val (.int 1), .val (.ref b1), .val (.int (-1)), .val .null, .unset] [(.int 1), (.ref (w 2)), (.ref (w 4))])) rfl (by rw [hml]; rfl) (argsL := [(.int 1)]) (rest := [(.ref (w 2)), (.ref (w 4))]) (lenOf pd_4 rfl) rfl (by show 2 * 0 + _ ≤ _; exact Nat.le_of_eq rfl) (hb hby at_244) (fun _ _ => ⟨rfl, e193, (by decide : 1 + 0 ≤ _), (by decide : 36 + 0 ≤ _)⟩)
        dsimp only [Pt.U, Pt.locs, Pt.cells, Pt.slots] at X194 l194 y194 z194 st194 hQ194
        rw [l194, y194, z194] at X194
        clear l194 y194 z194
        obtain ⟨rfl, Nq194, e194⟩ := hQ194
        have N194 := Fr.app N193 Nq194
        refine oS (fun t k => st194 t k) ?_
        show oG _ _ _ _ _ _ _ (T194.setTop (mkF m 247 #[.val (.int p1), .val (.int p2), .val (.int p3), .val (.int 1), .val (.int 2), .val (.int 1), .val (.ref b1), .val (.int (-1)), .val .null, .unset] [(.ref (w 3)), (.ref (w 2)), (.ref (w 4))]))
        try clear st194 X193 e193
        obtain ⟨cq195, kq195, q195a, q195b, q195c⟩ := isOf hZ e194 ((wE4 W).ext O73.2)
        obtain ⟨_, _, ⟨T195, L195, k195, n195⟩, -, X195, ⟨Lc195, hQ195, l195, y195, z195⟩, st195⟩ := X194.virtualBack hx (y := mY8) (z := mY8) hown (mvT hZ (oW hw 17 rfl)) (mvT hZ (oW hw 18 rfl)) (notFace_of_selects (args := #[]) (mvT hZ (oW hw 20 rfl))) (mvT hZ (oW hw 20 rfl)) (mvT hZ (oW hw 19 rfl)) (by decide) (backOf (W := 0) (rm_ty_121 l Z a0 hw []  w h73 n0 O73 W ) hZ (oW hw 21 rfl) (oW hw 7 rfl) (by decide) (by decide)) q195a q195c (g := (mkF m 247 #[.val (.int p1), .val (.int p2), .val (.int p3), .val (.int 1), .val (.int 2), .val (.int 1), .val (.ref b1), .val (.int (-1)), .val .null, .unset] [(.ref (w 3)), (.ref (w 2)), (.ref (w 4))])) rfl (by rw [hml]; rfl) (Steps.refl _) (argsL := [(.ref (w 2)), (.ref (w 3))]) (rest := []) (lenOf pd_6 rfl) rfl (by show 2 * 0 + _ ≤ _; exact Nat.le_of_eq rfl) (hb hby at_247) (fun _ _ => ⟨rfl, e194, (by decide : 1 + 0 ≤ _), (by decide : 36 + 0 ≤ _)⟩)
        dsimp only [Pt.U, Pt.locs, Pt.cells, Pt.slots] at X195 l195 y195 z195 st195 hQ195
        rw [l195, y195, z195] at X195
        clear l195 y195 z195
        obtain ⟨rfl, Nq195, e195⟩ := hQ195
        have N195 := Fr.app N194 Nq195
        refine oS (fun t k => st195.trans k) ?_
        show oG _ _ _ _ _ _ _ (T195.setTop (mkF m 250 #[.val (.int p1), .val (.int p2), .val (.int p3), .val (.int 1), .val (.int 2), .val (.int 1), .val (.ref b1), .val (.int (-1)), .val .null, .unset] [(.ref (w 7))]))
        try clear st195 X194 e194
        refine oS (fun t k => XS.aconstNull X195.here hx rfl (hb hby at_250) k) ?_
        obtain ⟨cq196, kq196, q196a, q196b, q196c⟩ := isOf hZ e195 ((wE7 W).ext O73.2)
        obtain ⟨_, _, ⟨T196, L196, k196, n196⟩, -, X196, ⟨Lc196, hQ196, l196, y196, z196⟩, st196⟩ := X195.virtualBack hx (y := mY7) (z := mY7) hown (mvT hZ (oW hw 39 rfl)) (mvT hZ (oW hw 40 rfl)) (notFace_of_selects (args := #[]) (mvT hZ (oW hw 42 rfl))) (mvT hZ (oW hw 42 rfl)) (mvT hZ (oW hw 41 rfl)) (by decide) (backOf (W := 0) (rm_oe0 l Z a0 hw [] (w 7)  h73 n0 O73  ((wF7_value W).ext O73.2)) hZ (oW hw 43 rfl) (oW hw 36 rfl) (by decide) (by decide)) q196a q196c (g := (mkF m 251 #[.val (.int p1), .val (.int p2), .val (.int p3), .val (.int 1), .val (.int 2), .val (.int 1), .val (.ref b1), .val (.int (-1)), .val .null, .unset] [.null, (.ref (w 7))])) rfl (by rw [hml]; rfl) (Steps.refl _) (argsL := [.null]) (rest := []) (lenOf pd_0 rfl) rfl (by show 2 * 0 + _ ≤ _; exact Nat.le_of_eq rfl) (hb hby at_251) (fun _ _ => ⟨rfl, e195, (by decide : 1 + 0 ≤ _), (by decide : 36 + 0 ≤ _)⟩)
        dsimp only [Pt.U, Pt.locs, Pt.cells, Pt.slots] at X196 l196 y196 z196 st196 hQ196
        rw [l196, y196, z196] at X196
        clear l196 y196 z196
        obtain ⟨rfl, Nq196, e196⟩ := hQ196
        have N196 := Fr.app N195 Nq196
        refine oS (fun t k => st196.trans k) ?_
        show oG _ _ _ _ _ _ _ (T196.setTop (mkF m 254 #[.val (.int p1), .val (.int p2), .val (.int p3), .val (.int 1), .val (.int 2), .val (.int 1), .val (.ref b1), .val (.int (-1)), .val .null, .unset] [.null]))
        try clear st196 X195 e195
        refine oS (fun t k => X196.checkcastNull hx (g := (mkF m 254 #[.val (.int p1), .val (.int p2), .val (.int p3), .val (.int 1), .val (.int 2), .val (.int 1), .val (.ref b1), .val (.int (-1)), .val .null, .unset] [.null])) rfl rfl (hb hby at_254) t k) ?_
        refine oS (fun t k => XS.astore X196.here hx rfl (hb hby at_257) rfl rfl (l' := #[.val (.int p1), .val (.int p2), .val (.int p3), .val (.int 1), .val (.int 2), .val (.int 1), .val (.ref b1), .val (.int (-1)), .val .null, .val .null]) rfl k) ?_
        refine oS (fun t k => XS.aload X196.here hx rfl (hb hby at_259) rfl rfl k) ?_
        refine oS (fun t k => XS.aload X196.here hx rfl (hb hby at_261) rfl rfl k) ?_
        refine oS (fun t k => Jvm.RoadKit.acmp (g := (mkF m 263 #[.val (.int p1), .val (.int p2), .val (.int p3), .val (.int 1), .val (.int 2), .val (.int 1), .val (.ref b1), .val (.int (-1)), .val .null, .val .null] [.null, .null])) X196 hx rfl rfl rfl (pc0 := 263) (pc' := 266) (same := true) rfl (hb hby at_263) rfl (decide_eq_true rfl) (by decide) (by decide) k) ?_
        show oG _ _ _ _ _ _ _ (T196.setTop (mkF m 266 #[.val (.int p1), .val (.int p2), .val (.int p3), .val (.int 1), .val (.int 2), .val (.int 1), .val (.ref b1), .val (.int (-1)), .val .null, .val .null] []))
        refine oS (fun t k => oIc li_1 X196.here hx rfl (hb hby at_266) k) ?_
        refine oS (fun t k => XS.goto X196.here hx rfl (pc0 := 267) (pc' := 271) rfl (hb hby at_267) (by decide) (by decide) k) ?_
        exact own_ret (v := some (.int 1)) X196 (fun h => by rw [Bd.returns] at h; cases h) Bd.notSynchronized (fun fs hr => retN X196 hx (t := .boolean) Bd.returns (by simp) (hb hby at_271) hr) (by rw [e196]; exact ⟨rfl, N196⟩) (by decide) (by decide)
      · rw [hs184]
        show oG _ _ _ _ _ _ _ (T73.setTop (mkF m 200 #[.val (.int p1), .val (.int p2), .val (.int p3), .val (.int 1), .val (.int 2), .val (.int 2), .val (.ref b1), .unset, .unset, .unset] []))
        refine oS (fun t k => XS.aload X73.here hx rfl (hb hby at_200) rfl rfl k) ?_
        refine oS (fun t k => XS.iloadN X73.here hx rfl (hb hby at_202) rfl k) ?_
        show oG _ _ _ _ _ _ _ (T73.setTop (mkF m 203 #[.val (.int p1), .val (.int p2), .val (.int p3), .val (.int 1), .val (.int 2), .val (.int 2), .val (.ref b1), .unset, .unset, .unset] [(.int 1), (.ref b1)]))
        refine oS (fun t k => oBp lb_9 X73.here hx rfl (hb hby at_203) k) ?_
        refine oS (S' := (T73.setTop (mkF m 206 #[.val (.int p1), .val (.int p2), .val (.int p3), .val (.int 1), .val (.int 2), .val (.int 2), .val (.ref b1), .unset, .unset, .unset] [(.int 9), (.ref b1)]))) (fun t k => XS.imul X73.here hx rfl (hb hby at_205) rfl (by rw [show (1 : Int32) * (9 : Int32) = (9 : Int32) from by decide]; exact k)) ?_
        refine oS (fun t k => XS.iload X73.here hx rfl (hb hby at_206) rfl k) ?_
        refine oS (fun t k => oIc li_3 X73.here hx rfl (hb hby at_208) k) ?_
        refine oS (S' := (T73.setTop (mkF m 210 #[.val (.int p1), .val (.int p2), .val (.int p3), .val (.int 1), .val (.int 2), .val (.int 2), .val (.ref b1), .unset, .unset, .unset] [(.int 6), (.int 9), (.ref b1)]))) (fun t k => XS.imul X73.here hx rfl (hb hby at_209) rfl (by rw [show (2 : Int32) * (3 : Int32) = (6 : Int32) from by decide]; exact k)) ?_
        refine oS (S' := (T73.setTop (mkF m 211 #[.val (.int p1), .val (.int p2), .val (.int p3), .val (.int 1), .val (.int 2), .val (.int 2), .val (.ref b1), .unset, .unset, .unset] [(.int 15), (.ref b1)]))) (fun t k => XS.iadd X73.here hx rfl (hb hby at_210) rfl (by rw [show (9 : Int32) + (6 : Int32) = (15 : Int32) from by decide]; exact k)) ?_
        refine oS (fun t k => XS.iload X73.here hx rfl (hb hby at_211) rfl k) ?_
        refine oS (S' := (T73.setTop (mkF m 214 #[.val (.int p1), .val (.int p2), .val (.int p3), .val (.int 1), .val (.int 2), .val (.int 2), .val (.ref b1), .unset, .unset, .unset] [(.int 17), (.ref b1)]))) (fun t k => XS.iadd X73.here hx rfl (hb hby at_213) rfl (by rw [show (15 : Int32) + (2 : Int32) = (17 : Int32) from by decide]; exact k)) ?_
        obtain ⟨cl197, Ar197, qk197, Sz197, Ng197, Ha197, Gf197⟩ := id V73
        have hin197 : ¬ ((17 : Int32) < 0 ∨ cl197.slots.size ≤ ((17 : Int32)).toNatClampNeg) := (inb_of Sz197 ⟨by decide, by decide⟩)
        have hat197 : cl197.slots[((17 : Int32)).toNatClampNeg]? = some (.int (-1)) := Ha197.at hin197 rfl
        refine oS (fun t k => X73.iaload hx (j := (17 : Int32)) (v := (.int (-1))) (by rw [e73]; exact Ar197.1) (State.isArrayOf_alike hZ.alike Ar197.2.1) Ar197.2.2 hin197 hat197 (g := (mkF m 214 #[.val (.int p1), .val (.int p2), .val (.int p3), .val (.int 1), .val (.int 2), .val (.int 2), .val (.ref b1), .unset, .unset, .unset] [(.int 17), (.ref b1)])) rfl rfl (hb hby at_214) t k) ?_
        refine oS (fun t k => XS.istore X73.here hx rfl (hb hby at_215) rfl (l' := #[.val (.int p1), .val (.int p2), .val (.int p3), .val (.int 1), .val (.int 2), .val (.int 2), .val (.ref b1), .val (.int (-1)), .unset, .unset]) rfl k) ?_
        show oG _ _ _ _ _ _ _ (T73.setTop (mkF m 217 #[.val (.int p1), .val (.int p2), .val (.int p3), .val (.int 1), .val (.int 2), .val (.int 2), .val (.ref b1), .val (.int (-1)), .unset, .unset] []))
        refine oS (fun t k => XS.iload X73.here hx rfl (hb hby at_217) rfl k) ?_
        refine oS (fun t k => XS.ifNo X73.here hx rfl (hb hby at_219) rfl ((if0 _ _).trans (tlt (by decide)).2.1) k) ?_
        refine oS (fun t k => XS.aconstNull X73.here hx rfl (hb hby at_222) k) ?_
        refine oS (fun t k => XS.goto X73.here hx rfl (pc0 := 223) (pc' := 231) rfl (hb hby at_223) (by decide) (by decide) k) ?_
        refine oS (fun t k => XS.astore X73.here hx rfl (hb hby at_231) rfl rfl (l' := #[.val (.int p1), .val (.int p2), .val (.int p3), .val (.int 1), .val (.int 2), .val (.int 2), .val (.ref b1), .val (.int (-1)), .val .null, .unset]) rfl k) ?_
        show oG _ _ _ _ _ _ _ (T73.setTop (mkF m 233 #[.val (.int p1), .val (.int p2), .val (.int p3), .val (.int 1), .val (.int 2), .val (.int 2), .val (.ref b1), .val (.int (-1)), .val .null, .unset] []))
        refine oS (fun t k => XS.iloadN X73.here hx rfl (hb hby at_233) rfl k) ?_
        obtain ⟨_, _, ⟨T198, L198, k198, n198⟩, -, X198, ⟨Lc198, hQ198, l198, y198, z198⟩, st198⟩ := Jvm.LawKit.callS X73 hx (y := mY0) hown (mvT hZ (oW hw 2 rfl)) (mvT hZ (oW hw 3 rfl)) (mvT hZ (oW hw 4 rfl)) (mvT hZ (oW hw 5 rfl)) (by decide) (backOf (W := 0) (rm_op_1 l Z a0 hw []  w h73 n0 O73 W ) hZ (oW hw 5 rfl) (oW hw 4 rfl) (by decide) (by decide)) (g := (mkF m 234 #[.val (.int p1), .val (.int p2), .val (.int p3), .val (.int 1), .val (.int 2), .val (.int 2), .val (.ref b1), .val (.int (-1)), .val .null, .unset] [(.int 1)])) rfl (by rw [hml]; rfl) (argsL := [(.int 1)]) (rest := []) (lenOf pd_5 rfl) rfl (by show 2 * 0 + _ ≤ _; exact Nat.le_of_eq rfl) (hb hby at_234) (fun _ _ => ⟨rfl, e73, (by decide : 1 + 0 ≤ _), (by decide : 36 + 0 ≤ _)⟩)
        dsimp only [Pt.U, Pt.locs, Pt.cells, Pt.slots] at X198 l198 y198 z198 st198 hQ198
        rw [l198, y198, z198] at X198
        clear l198 y198 z198
        obtain ⟨rfl, Nq198, e198⟩ := hQ198
        have N198 := Fr.app N73 Nq198
        refine oS (fun t k => st198 t k) ?_
        show oG _ _ _ _ _ _ _ (T198.setTop (mkF m 237 #[.val (.int p1), .val (.int p2), .val (.int p3), .val (.int 1), .val (.int 2), .val (.int 2), .val (.ref b1), .val (.int (-1)), .val .null, .unset] [(.ref (w 4))]))
        try clear st198 X73 e73
        try clear T73
        refine oS (fun t k => XS.iload X198.here hx rfl (hb hby at_237) rfl k) ?_
        obtain ⟨_, _, ⟨T199, L199, k199, n199⟩, -, X199, ⟨Lc199, hQ199, l199, y199, z199⟩, st199⟩ := Jvm.LawKit.callS X198 hx (y := mY2) hown (mvT hZ (oW hw 9 rfl)) (mvT hZ (oW hw 10 rfl)) (mvT hZ (oW hw 4 rfl)) (mvT hZ (oW hw 11 rfl)) (by decide) (backOf (W := 1) (rm_vt_2 l Z a0 hw []  w h73 n0 O73 W ) hZ (oW hw 11 rfl) (oW hw 4 rfl) (by decide) (by decide)) (g := (mkF m 239 #[.val (.int p1), .val (.int p2), .val (.int p3), .val (.int 1), .val (.int 2), .val (.int 2), .val (.ref b1), .val (.int (-1)), .val .null, .unset] [(.int 2), (.ref (w 4))])) rfl (by rw [hml]; rfl) (argsL := [(.int 2)]) (rest := [(.ref (w 4))]) (lenOf pd_4 rfl) rfl (by show 2 * 0 + _ ≤ _; exact Nat.le_of_eq rfl) (hb hby at_239) (fun _ _ => ⟨rfl, e198, (by decide : 1 + 0 ≤ _), (by decide : 36 + 0 ≤ _)⟩)
        dsimp only [Pt.U, Pt.locs, Pt.cells, Pt.slots] at X199 l199 y199 z199 st199 hQ199
        rw [l199, y199, z199] at X199
        clear l199 y199 z199
        obtain ⟨rfl, Nq199, e199⟩ := hQ199
        have N199 := Fr.app N198 Nq199
        refine oS (fun t k => st199 t k) ?_
        show oG _ _ _ _ _ _ _ (T199.setTop (mkF m 242 #[.val (.int p1), .val (.int p2), .val (.int p3), .val (.int 1), .val (.int 2), .val (.int 2), .val (.ref b1), .val (.int (-1)), .val .null, .unset] [(.ref (w 2)), (.ref (w 4))]))
        try clear st199 X198 e198
        refine oS (fun t k => XS.iload X199.here hx rfl (hb hby at_242) rfl k) ?_
        obtain ⟨_, _, ⟨T200, L200, k200, n200⟩, -, X200, ⟨Lc200, hQ200, l200, y200, z200⟩, st200⟩ := Jvm.LawKit.callS X199 hx (y := mY2) hown (mvT hZ (oW hw 9 rfl)) (mvT hZ (oW hw 10 rfl)) (mvT hZ (oW hw 4 rfl)) (mvT hZ (oW hw 11 rfl)) (by decide) (backOf (W := 2) (rm_vt_2 l Z a0 hw []  w h73 n0 O73 W ) hZ (oW hw 11 rfl) (oW hw 4 rfl) (by decide) (by decide)) (g := (mkF m 244 #[.val (.int p1), .val (.int p2), .val (.int p3), .val (.int 1), .val (.int 2), .val (.int 2), .val (.ref b1), .val (.int (-1)), .val .null, .unset] [(.int 2), (.ref (w 2)), (.ref (w 4))])) rfl (by rw [hml]; rfl) (argsL := [(.int 2)]) (rest := [(.ref (w 2)), (.ref (w 4))]) (lenOf pd_4 rfl) rfl (by show 2 * 0 + _ ≤ _; exact Nat.le_of_eq rfl) (hb hby at_244) (fun _ _ => ⟨rfl, e199, (by decide : 1 + 0 ≤ _), (by decide : 36 + 0 ≤ _)⟩)
        dsimp only [Pt.U, Pt.locs, Pt.cells, Pt.slots] at X200 l200 y200 z200 st200 hQ200
        rw [l200, y200, z200] at X200
        clear l200 y200 z200
        obtain ⟨rfl, Nq200, e200⟩ := hQ200
        have N200 := Fr.app N199 Nq200
        refine oS (fun t k => st200 t k) ?_
        show oG _ _ _ _ _ _ _ (T200.setTop (mkF m 247 #[.val (.int p1), .val (.int p2), .val (.int p3), .val (.int 1), .val (.int 2), .val (.int 2), .val (.ref b1), .val (.int (-1)), .val .null, .unset] [(.ref (w 2)), (.ref (w 2)), (.ref (w 4))]))
        try clear st200 X199 e199
        obtain ⟨cq201, kq201, q201a, q201b, q201c⟩ := isOf hZ e200 ((wE4 W).ext O73.2)
        obtain ⟨_, _, ⟨T201, L201, k201, n201⟩, -, X201, ⟨Lc201, hQ201, l201, y201, z201⟩, st201⟩ := X200.virtualBack hx (y := mY8) (z := mY8) hown (mvT hZ (oW hw 17 rfl)) (mvT hZ (oW hw 18 rfl)) (notFace_of_selects (args := #[]) (mvT hZ (oW hw 20 rfl))) (mvT hZ (oW hw 20 rfl)) (mvT hZ (oW hw 19 rfl)) (by decide) (backOf (W := 0) (rm_ty_122 l Z a0 hw []  w h73 n0 O73 W ) hZ (oW hw 21 rfl) (oW hw 7 rfl) (by decide) (by decide)) q201a q201c (g := (mkF m 247 #[.val (.int p1), .val (.int p2), .val (.int p3), .val (.int 1), .val (.int 2), .val (.int 2), .val (.ref b1), .val (.int (-1)), .val .null, .unset] [(.ref (w 2)), (.ref (w 2)), (.ref (w 4))])) rfl (by rw [hml]; rfl) (Steps.refl _) (argsL := [(.ref (w 2)), (.ref (w 2))]) (rest := []) (lenOf pd_6 rfl) rfl (by show 2 * 0 + _ ≤ _; exact Nat.le_of_eq rfl) (hb hby at_247) (fun _ _ => ⟨rfl, e200, (by decide : 1 + 0 ≤ _), (by decide : 36 + 0 ≤ _)⟩)
        dsimp only [Pt.U, Pt.locs, Pt.cells, Pt.slots] at X201 l201 y201 z201 st201 hQ201
        rw [l201, y201, z201] at X201
        clear l201 y201 z201
        obtain ⟨rfl, Nq201, e201⟩ := hQ201
        have N201 := Fr.app N200 Nq201
        refine oS (fun t k => st201.trans k) ?_
        show oG _ _ _ _ _ _ _ (T201.setTop (mkF m 250 #[.val (.int p1), .val (.int p2), .val (.int p3), .val (.int 1), .val (.int 2), .val (.int 2), .val (.ref b1), .val (.int (-1)), .val .null, .unset] [(.ref (w 7))]))
        try clear st201 X200 e200
        refine oS (fun t k => XS.aconstNull X201.here hx rfl (hb hby at_250) k) ?_
        obtain ⟨cq202, kq202, q202a, q202b, q202c⟩ := isOf hZ e201 ((wE7 W).ext O73.2)
        obtain ⟨_, _, ⟨T202, L202, k202, n202⟩, -, X202, ⟨Lc202, hQ202, l202, y202, z202⟩, st202⟩ := X201.virtualBack hx (y := mY7) (z := mY7) hown (mvT hZ (oW hw 39 rfl)) (mvT hZ (oW hw 40 rfl)) (notFace_of_selects (args := #[]) (mvT hZ (oW hw 42 rfl))) (mvT hZ (oW hw 42 rfl)) (mvT hZ (oW hw 41 rfl)) (by decide) (backOf (W := 0) (rm_oe0 l Z a0 hw [] (w 7)  h73 n0 O73  ((wF7_value W).ext O73.2)) hZ (oW hw 43 rfl) (oW hw 36 rfl) (by decide) (by decide)) q202a q202c (g := (mkF m 251 #[.val (.int p1), .val (.int p2), .val (.int p3), .val (.int 1), .val (.int 2), .val (.int 2), .val (.ref b1), .val (.int (-1)), .val .null, .unset] [.null, (.ref (w 7))])) rfl (by rw [hml]; rfl) (Steps.refl _) (argsL := [.null]) (rest := []) (lenOf pd_0 rfl) rfl (by show 2 * 0 + _ ≤ _; exact Nat.le_of_eq rfl) (hb hby at_251) (fun _ _ => ⟨rfl, e201, (by decide : 1 + 0 ≤ _), (by decide : 36 + 0 ≤ _)⟩)
        dsimp only [Pt.U, Pt.locs, Pt.cells, Pt.slots] at X202 l202 y202 z202 st202 hQ202
        rw [l202, y202, z202] at X202
        clear l202 y202 z202
        obtain ⟨rfl, Nq202, e202⟩ := hQ202
        have N202 := Fr.app N201 Nq202
        refine oS (fun t k => st202.trans k) ?_
        show oG _ _ _ _ _ _ _ (T202.setTop (mkF m 254 #[.val (.int p1), .val (.int p2), .val (.int p3), .val (.int 1), .val (.int 2), .val (.int 2), .val (.ref b1), .val (.int (-1)), .val .null, .unset] [.null]))
        try clear st202 X201 e201
        refine oS (fun t k => X202.checkcastNull hx (g := (mkF m 254 #[.val (.int p1), .val (.int p2), .val (.int p3), .val (.int 1), .val (.int 2), .val (.int 2), .val (.ref b1), .val (.int (-1)), .val .null, .unset] [.null])) rfl rfl (hb hby at_254) t k) ?_
        refine oS (fun t k => XS.astore X202.here hx rfl (hb hby at_257) rfl rfl (l' := #[.val (.int p1), .val (.int p2), .val (.int p3), .val (.int 1), .val (.int 2), .val (.int 2), .val (.ref b1), .val (.int (-1)), .val .null, .val .null]) rfl k) ?_
        refine oS (fun t k => XS.aload X202.here hx rfl (hb hby at_259) rfl rfl k) ?_
        refine oS (fun t k => XS.aload X202.here hx rfl (hb hby at_261) rfl rfl k) ?_
        refine oS (fun t k => Jvm.RoadKit.acmp (g := (mkF m 263 #[.val (.int p1), .val (.int p2), .val (.int p3), .val (.int 1), .val (.int 2), .val (.int 2), .val (.ref b1), .val (.int (-1)), .val .null, .val .null] [.null, .null])) X202 hx rfl rfl rfl (pc0 := 263) (pc' := 266) (same := true) rfl (hb hby at_263) rfl (decide_eq_true rfl) (by decide) (by decide) k) ?_
        show oG _ _ _ _ _ _ _ (T202.setTop (mkF m 266 #[.val (.int p1), .val (.int p2), .val (.int p3), .val (.int 1), .val (.int 2), .val (.int 2), .val (.ref b1), .val (.int (-1)), .val .null, .val .null] []))
        refine oS (fun t k => oIc li_1 X202.here hx rfl (hb hby at_266) k) ?_
        refine oS (fun t k => XS.goto X202.here hx rfl (pc0 := 267) (pc' := 271) rfl (hb hby at_267) (by decide) (by decide) k) ?_
        exact own_ret (v := some (.int 1)) X202 (fun h => by rw [Bd.returns] at h; cases h) Bd.notSynchronized (fun fs hr => retN X202 hx (t := .boolean) Bd.returns (by simp) (hb hby at_271) hr) (by rw [e202]; exact ⟨rfl, N202⟩) (by decide) (by decide)
  · rw [hs74]
    show oG _ _ _ _ _ _ _ (T73.setTop (mkF m 200 #[.val (.int p1), .val (.int p2), .val (.int p3), .val (.int 2), .val (.int ((p2 &&& (2147483647 : Int32)) % (3 : Int32))), .val (.int ((p3 &&& (2147483647 : Int32)) % (3 : Int32))), .val (.ref b1), .unset, .unset, .unset] []))
    show oG _ _ _ _ _ _ _ (T73.setTop (mkF m 200 #[.val (.int p1), .val (.int p2), .val (.int p3), .val (.int 2), .val (.int ((p2 &&& (2147483647 : Int32)) % (3 : Int32))), .val (.int ((p3 &&& (2147483647 : Int32)) % (3 : Int32))), .val (.ref b1), .unset, .unset, .unset] []))
    rcases own_three p2 with hs203 | hs203 | hs203
    · rw [hs203]
      show oG _ _ _ _ _ _ _ (T73.setTop (mkF m 200 #[.val (.int p1), .val (.int p2), .val (.int p3), .val (.int 2), .val (.int 0), .val (.int ((p3 &&& (2147483647 : Int32)) % (3 : Int32))), .val (.ref b1), .unset, .unset, .unset] []))
      show oG _ _ _ _ _ _ _ (T73.setTop (mkF m 200 #[.val (.int p1), .val (.int p2), .val (.int p3), .val (.int 2), .val (.int 0), .val (.int ((p3 &&& (2147483647 : Int32)) % (3 : Int32))), .val (.ref b1), .unset, .unset, .unset] []))
      rcases own_three p3 with hs204 | hs204 | hs204
      · rw [hs204]
        show oG _ _ _ _ _ _ _ (T73.setTop (mkF m 200 #[.val (.int p1), .val (.int p2), .val (.int p3), .val (.int 2), .val (.int 0), .val (.int 0), .val (.ref b1), .unset, .unset, .unset] []))
        refine oS (fun t k => XS.aload X73.here hx rfl (hb hby at_200) rfl rfl k) ?_
        refine oS (fun t k => XS.iloadN X73.here hx rfl (hb hby at_202) rfl k) ?_
        show oG _ _ _ _ _ _ _ (T73.setTop (mkF m 203 #[.val (.int p1), .val (.int p2), .val (.int p3), .val (.int 2), .val (.int 0), .val (.int 0), .val (.ref b1), .unset, .unset, .unset] [(.int 2), (.ref b1)]))
        refine oS (fun t k => oBp lb_9 X73.here hx rfl (hb hby at_203) k) ?_
        refine oS (S' := (T73.setTop (mkF m 206 #[.val (.int p1), .val (.int p2), .val (.int p3), .val (.int 2), .val (.int 0), .val (.int 0), .val (.ref b1), .unset, .unset, .unset] [(.int 18), (.ref b1)]))) (fun t k => XS.imul X73.here hx rfl (hb hby at_205) rfl (by rw [show (2 : Int32) * (9 : Int32) = (18 : Int32) from by decide]; exact k)) ?_
        refine oS (fun t k => XS.iload X73.here hx rfl (hb hby at_206) rfl k) ?_
        refine oS (fun t k => oIc li_3 X73.here hx rfl (hb hby at_208) k) ?_
        refine oS (S' := (T73.setTop (mkF m 210 #[.val (.int p1), .val (.int p2), .val (.int p3), .val (.int 2), .val (.int 0), .val (.int 0), .val (.ref b1), .unset, .unset, .unset] [(.int 0), (.int 18), (.ref b1)]))) (fun t k => XS.imul X73.here hx rfl (hb hby at_209) rfl (by rw [show (0 : Int32) * (3 : Int32) = (0 : Int32) from by decide]; exact k)) ?_
        refine oS (S' := (T73.setTop (mkF m 211 #[.val (.int p1), .val (.int p2), .val (.int p3), .val (.int 2), .val (.int 0), .val (.int 0), .val (.ref b1), .unset, .unset, .unset] [(.int 18), (.ref b1)]))) (fun t k => XS.iadd X73.here hx rfl (hb hby at_210) rfl (by rw [show (18 : Int32) + (0 : Int32) = (18 : Int32) from by decide]; exact k)) ?_
        refine oS (fun t k => XS.iload X73.here hx rfl (hb hby at_211) rfl k) ?_
        refine oS (S' := (T73.setTop (mkF m 214 #[.val (.int p1), .val (.int p2), .val (.int p3), .val (.int 2), .val (.int 0), .val (.int 0), .val (.ref b1), .unset, .unset, .unset] [(.int 18), (.ref b1)]))) (fun t k => XS.iadd X73.here hx rfl (hb hby at_213) rfl (by rw [show (18 : Int32) + (0 : Int32) = (18 : Int32) from by decide]; exact k)) ?_
        obtain ⟨cl205, Ar205, qk205, Sz205, Ng205, Ha205, Gf205⟩ := id V73
        have hin205 : ¬ ((18 : Int32) < 0 ∨ cl205.slots.size ≤ ((18 : Int32)).toNatClampNeg) := (inb_of Sz205 ⟨by decide, by decide⟩)
        have hat205 : cl205.slots[((18 : Int32)).toNatClampNeg]? = some (.int 0) := Ha205.at hin205 rfl
        refine oS (fun t k => X73.iaload hx (j := (18 : Int32)) (v := (.int 0)) (by rw [e73]; exact Ar205.1) (State.isArrayOf_alike hZ.alike Ar205.2.1) Ar205.2.2 hin205 hat205 (g := (mkF m 214 #[.val (.int p1), .val (.int p2), .val (.int p3), .val (.int 2), .val (.int 0), .val (.int 0), .val (.ref b1), .unset, .unset, .unset] [(.int 18), (.ref b1)])) rfl rfl (hb hby at_214) t k) ?_
        refine oS (fun t k => XS.istore X73.here hx rfl (hb hby at_215) rfl (l' := #[.val (.int p1), .val (.int p2), .val (.int p3), .val (.int 2), .val (.int 0), .val (.int 0), .val (.ref b1), .val (.int 0), .unset, .unset]) rfl k) ?_
        show oG _ _ _ _ _ _ _ (T73.setTop (mkF m 217 #[.val (.int p1), .val (.int p2), .val (.int p3), .val (.int 2), .val (.int 0), .val (.int 0), .val (.ref b1), .val (.int 0), .unset, .unset] []))
        refine oS (fun t k => XS.iload X73.here hx rfl (hb hby at_217) rfl k) ?_
        refine oS (fun t k => XS.ifYes X73.here hx rfl (pc0 := 219) (pc' := 226) rfl (hb hby at_219) rfl ((if0 _ _).trans (flt (by decide)).2.1) (by decide) (by decide) k) ?_
        refine oS (fun t k => XS.iload X73.here hx rfl (hb hby at_226) rfl k) ?_
        obtain ⟨_, _, ⟨T206, L206, k206, n206⟩, -, X206, ⟨Lc206, hQ206, l206, y206, z206⟩, st206⟩ := Jvm.LawKit.callS X73 hx (y := mY2) hown (mvT hZ (oW hw 9 rfl)) (mvT hZ (oW hw 10 rfl)) (mvT hZ (oW hw 4 rfl)) (mvT hZ (oW hw 11 rfl)) (by decide) (backOf (W := 0) (rm_vt_0 l Z a0 hw []  w h73 n0 O73 W ) hZ (oW hw 11 rfl) (oW hw 4 rfl) (by decide) (by decide)) (g := (mkF m 228 #[.val (.int p1), .val (.int p2), .val (.int p3), .val (.int 2), .val (.int 0), .val (.int 0), .val (.ref b1), .val (.int 0), .unset, .unset] [(.int 0)])) rfl (by rw [hml]; rfl) (argsL := [(.int 0)]) (rest := []) (lenOf pd_4 rfl) rfl (by show 2 * 0 + _ ≤ _; exact Nat.le_of_eq rfl) (hb hby at_228) (fun _ _ => ⟨rfl, e73, (by decide : 1 + 0 ≤ _), (by decide : 36 + 0 ≤ _)⟩)
        dsimp only [Pt.U, Pt.locs, Pt.cells, Pt.slots] at X206 l206 y206 z206 st206 hQ206
        rw [l206, y206, z206] at X206
        clear l206 y206 z206
        obtain ⟨rfl, Nq206, e206⟩ := hQ206
        have N206 := Fr.app N73 Nq206
        refine oS (fun t k => st206 t k) ?_
        show oG _ _ _ _ _ _ _ (T206.setTop (mkF m 231 #[.val (.int p1), .val (.int p2), .val (.int p3), .val (.int 2), .val (.int 0), .val (.int 0), .val (.ref b1), .val (.int 0), .unset, .unset] [(.ref (w 1))]))
        try clear st206 X73 e73
        try clear T73
        refine oS (fun t k => XS.astore X206.here hx rfl (hb hby at_231) rfl rfl (l' := #[.val (.int p1), .val (.int p2), .val (.int p3), .val (.int 2), .val (.int 0), .val (.int 0), .val (.ref b1), .val (.int 0), .val (.ref (w 1)), .unset]) rfl k) ?_
        refine oS (fun t k => XS.iloadN X206.here hx rfl (hb hby at_233) rfl k) ?_
        obtain ⟨_, _, ⟨T207, L207, k207, n207⟩, -, X207, ⟨Lc207, hQ207, l207, y207, z207⟩, st207⟩ := Jvm.LawKit.callS X206 hx (y := mY0) hown (mvT hZ (oW hw 2 rfl)) (mvT hZ (oW hw 3 rfl)) (mvT hZ (oW hw 4 rfl)) (mvT hZ (oW hw 5 rfl)) (by decide) (backOf (W := 0) (rm_op_2 l Z a0 hw []  w h73 n0 O73 W ) hZ (oW hw 5 rfl) (oW hw 4 rfl) (by decide) (by decide)) (g := (mkF m 234 #[.val (.int p1), .val (.int p2), .val (.int p3), .val (.int 2), .val (.int 0), .val (.int 0), .val (.ref b1), .val (.int 0), .val (.ref (w 1)), .unset] [(.int 2)])) rfl (by rw [hml]; rfl) (argsL := [(.int 2)]) (rest := []) (lenOf pd_5 rfl) rfl (by show 2 * 0 + _ ≤ _; exact Nat.le_of_eq rfl) (hb hby at_234) (fun _ _ => ⟨rfl, e206, (by decide : 1 + 0 ≤ _), (by decide : 36 + 0 ≤ _)⟩)
        dsimp only [Pt.U, Pt.locs, Pt.cells, Pt.slots] at X207 l207 y207 z207 st207 hQ207
        rw [l207, y207, z207] at X207
        clear l207 y207 z207
        obtain ⟨rfl, Nq207, e207⟩ := hQ207
        have N207 := Fr.app N206 Nq207
        refine oS (fun t k => st207 t k) ?_
        show oG _ _ _ _ _ _ _ (T207.setTop (mkF m 237 #[.val (.int p1), .val (.int p2), .val (.int p3), .val (.int 2), .val (.int 0), .val (.int 0), .val (.ref b1), .val (.int 0), .val (.ref (w 1)), .unset] [(.ref (w 6))]))
        try clear st207 X206 e206
        refine oS (fun t k => XS.iload X207.here hx rfl (hb hby at_237) rfl k) ?_
        obtain ⟨_, _, ⟨T208, L208, k208, n208⟩, -, X208, ⟨Lc208, hQ208, l208, y208, z208⟩, st208⟩ := Jvm.LawKit.callS X207 hx (y := mY2) hown (mvT hZ (oW hw 9 rfl)) (mvT hZ (oW hw 10 rfl)) (mvT hZ (oW hw 4 rfl)) (mvT hZ (oW hw 11 rfl)) (by decide) (backOf (W := 1) (rm_vt_0 l Z a0 hw []  w h73 n0 O73 W ) hZ (oW hw 11 rfl) (oW hw 4 rfl) (by decide) (by decide)) (g := (mkF m 239 #[.val (.int p1), .val (.int p2), .val (.int p3), .val (.int 2), .val (.int 0), .val (.int 0), .val (.ref b1), .val (.int 0), .val (.ref (w 1)), .unset] [(.int 0), (.ref (w 6))])) rfl (by rw [hml]; rfl) (argsL := [(.int 0)]) (rest := [(.ref (w 6))]) (lenOf pd_4 rfl) rfl (by show 2 * 0 + _ ≤ _; exact Nat.le_of_eq rfl) (hb hby at_239) (fun _ _ => ⟨rfl, e207, (by decide : 1 + 0 ≤ _), (by decide : 36 + 0 ≤ _)⟩)
        dsimp only [Pt.U, Pt.locs, Pt.cells, Pt.slots] at X208 l208 y208 z208 st208 hQ208
        rw [l208, y208, z208] at X208
        clear l208 y208 z208
        obtain ⟨rfl, Nq208, e208⟩ := hQ208
        have N208 := Fr.app N207 Nq208
        refine oS (fun t k => st208 t k) ?_
        show oG _ _ _ _ _ _ _ (T208.setTop (mkF m 242 #[.val (.int p1), .val (.int p2), .val (.int p3), .val (.int 2), .val (.int 0), .val (.int 0), .val (.ref b1), .val (.int 0), .val (.ref (w 1)), .unset] [(.ref (w 1)), (.ref (w 6))]))
        try clear st208 X207 e207
        refine oS (fun t k => XS.iload X208.here hx rfl (hb hby at_242) rfl k) ?_
        obtain ⟨_, _, ⟨T209, L209, k209, n209⟩, -, X209, ⟨Lc209, hQ209, l209, y209, z209⟩, st209⟩ := Jvm.LawKit.callS X208 hx (y := mY2) hown (mvT hZ (oW hw 9 rfl)) (mvT hZ (oW hw 10 rfl)) (mvT hZ (oW hw 4 rfl)) (mvT hZ (oW hw 11 rfl)) (by decide) (backOf (W := 2) (rm_vt_0 l Z a0 hw []  w h73 n0 O73 W ) hZ (oW hw 11 rfl) (oW hw 4 rfl) (by decide) (by decide)) (g := (mkF m 244 #[.val (.int p1), .val (.int p2), .val (.int p3), .val (.int 2), .val (.int 0), .val (.int 0), .val (.ref b1), .val (.int 0), .val (.ref (w 1)), .unset] [(.int 0), (.ref (w 1)), (.ref (w 6))])) rfl (by rw [hml]; rfl) (argsL := [(.int 0)]) (rest := [(.ref (w 1)), (.ref (w 6))]) (lenOf pd_4 rfl) rfl (by show 2 * 0 + _ ≤ _; exact Nat.le_of_eq rfl) (hb hby at_244) (fun _ _ => ⟨rfl, e208, (by decide : 1 + 0 ≤ _), (by decide : 36 + 0 ≤ _)⟩)
        dsimp only [Pt.U, Pt.locs, Pt.cells, Pt.slots] at X209 l209 y209 z209 st209 hQ209
        rw [l209, y209, z209] at X209
        clear l209 y209 z209
        obtain ⟨rfl, Nq209, e209⟩ := hQ209
        have N209 := Fr.app N208 Nq209
        refine oS (fun t k => st209 t k) ?_
        show oG _ _ _ _ _ _ _ (T209.setTop (mkF m 247 #[.val (.int p1), .val (.int p2), .val (.int p3), .val (.int 2), .val (.int 0), .val (.int 0), .val (.ref b1), .val (.int 0), .val (.ref (w 1)), .unset] [(.ref (w 1)), (.ref (w 1)), (.ref (w 6))]))
        try clear st209 X208 e208
        obtain ⟨cq210, kq210, q210a, q210b, q210c⟩ := isOf hZ e209 ((wE6 W).ext O73.2)
        obtain ⟨_, _, ⟨T210, L210, k210, n210⟩, -, X210, ⟨Lc210, hQ210, l210, y210, z210⟩, st210⟩ := X209.virtualBack hx (y := mY8) (z := mY8) hown (mvT hZ (oW hw 17 rfl)) (mvT hZ (oW hw 18 rfl)) (notFace_of_selects (args := #[]) (mvT hZ (oW hw 20 rfl))) (mvT hZ (oW hw 20 rfl)) (mvT hZ (oW hw 19 rfl)) (by decide) (backOf (W := 0) (rm_ty_200 l Z a0 hw []  w h73 n0 O73 W ) hZ (oW hw 21 rfl) (oW hw 7 rfl) (by decide) (by decide)) q210a q210c (g := (mkF m 247 #[.val (.int p1), .val (.int p2), .val (.int p3), .val (.int 2), .val (.int 0), .val (.int 0), .val (.ref b1), .val (.int 0), .val (.ref (w 1)), .unset] [(.ref (w 1)), (.ref (w 1)), (.ref (w 6))])) rfl (by rw [hml]; rfl) (Steps.refl _) (argsL := [(.ref (w 1)), (.ref (w 1))]) (rest := []) (lenOf pd_6 rfl) rfl (by show 2 * 0 + _ ≤ _; exact Nat.le_of_eq rfl) (hb hby at_247) (fun _ _ => ⟨rfl, e209, (by decide : 1 + 1 ≤ _), (by decide : 36 + 1 ≤ _)⟩)
        dsimp only [Pt.U, Pt.locs, Pt.cells, Pt.slots] at X210 l210 y210 z210 st210 hQ210
        rw [l210, y210, z210] at X210
        clear l210 y210 z210
        obtain ⟨r210, rfl, Nq210, K210, sr210, P210_0, P210_1⟩ := hQ210
        have N210 := Fr.app N209 Nq210
        have O210 := O73.keep K210 (fun x q => absurd q List.not_mem_nil)
        have gr210 : n0 ≤ r210 := Nat.le_trans (O73.1 ▸ O73.2.1) sr210
        have ne_b1_r210 : b1 ≠ r210 := Nat.ne_of_lt (Nat.lt_of_lt_of_le V73.lt sr210)
        refine oS (fun t k => st210.trans k) ?_
        show oG _ _ _ _ _ _ _ (T210.setTop (mkF m 250 #[.val (.int p1), .val (.int p2), .val (.int p3), .val (.int 2), .val (.int 0), .val (.int 0), .val (.ref b1), .val (.int 0), .val (.ref (w 1)), .unset] [(.ref r210)]))
        try clear st210 X209 e209
        refine oS (fun t k => XS.aconstNull X210.here hx rfl (hb hby at_250) k) ?_
        obtain ⟨cq211, kq211, q211a, q211b, q211c⟩ := isOf hZ rfl P210_0
        obtain ⟨_, _, ⟨T211, L211, k211, n211⟩, -, X211, ⟨Lc211, hQ211, l211, y211, z211⟩, st211⟩ := X210.virtualBack hx (y := mY7) (z := mY7) hown (mvT hZ (oW hw 39 rfl)) (mvT hZ (oW hw 40 rfl)) (notFace_of_selects (args := #[]) (mvT hZ (oW hw 42 rfl))) (mvT hZ (oW hw 42 rfl)) (mvT hZ (oW hw 41 rfl)) (by decide) (backOf (W := 0) (rm_oe l Z a0 hw [] r210 (w 1)  T210.heap n0 O210  P210_1) hZ (oW hw 43 rfl) (oW hw 36 rfl) (by decide) (by decide)) q211a q211c (g := (mkF m 251 #[.val (.int p1), .val (.int p2), .val (.int p3), .val (.int 2), .val (.int 0), .val (.int 0), .val (.ref b1), .val (.int 0), .val (.ref (w 1)), .unset] [.null, (.ref r210)])) rfl (by rw [hml]; rfl) (Steps.refl _) (argsL := [.null]) (rest := []) (lenOf pd_0 rfl) rfl (by show 2 * 0 + _ ≤ _; exact Nat.le_of_eq rfl) (hb hby at_251) (fun _ _ => ⟨rfl, rfl, (by decide : 2 + 0 ≤ _), (by decide : 37 + 0 ≤ _)⟩)
        dsimp only [Pt.U, Pt.locs, Pt.cells, Pt.slots] at X211 l211 y211 z211 st211 hQ211
        rw [l211, y211, z211] at X211
        clear l211 y211 z211
        obtain ⟨rfl, Nq211, e211⟩ := hQ211
        have N211 := Fr.app N210 Nq211
        refine oS (fun t k => st211.trans k) ?_
        show oG _ _ _ _ _ _ _ (T211.setTop (mkF m 254 #[.val (.int p1), .val (.int p2), .val (.int p3), .val (.int 2), .val (.int 0), .val (.int 0), .val (.ref b1), .val (.int 0), .val (.ref (w 1)), .unset] [(.ref (w 1))]))
        try clear st211 X210 e210
        obtain ⟨T212, X212, e212, st212⟩ := castY X211 hx hZ hown (oW hw 64 rfl) e211 (Ins.self ((wE1 W).ext O210.2)) (g := (mkF m 254 #[.val (.int p1), .val (.int p2), .val (.int p3), .val (.int 2), .val (.int 0), .val (.int 0), .val (.ref b1), .val (.int 0), .val (.ref (w 1)), .unset] [(.ref (w 1))])) rfl rfl (hb hby at_254)
        refine oS (fun t k => st212 t k) ?_
        try clear st212 X211 e211
        refine oS (fun t k => XS.astore X212.here hx rfl (hb hby at_257) rfl rfl (l' := #[.val (.int p1), .val (.int p2), .val (.int p3), .val (.int 2), .val (.int 0), .val (.int 0), .val (.ref b1), .val (.int 0), .val (.ref (w 1)), .val (.ref (w 1))]) rfl k) ?_
        refine oS (fun t k => XS.aload X212.here hx rfl (hb hby at_259) rfl rfl k) ?_
        refine oS (fun t k => XS.aload X212.here hx rfl (hb hby at_261) rfl rfl k) ?_
        refine oS (fun t k => Jvm.RoadKit.acmp (g := (mkF m 263 #[.val (.int p1), .val (.int p2), .val (.int p3), .val (.int 2), .val (.int 0), .val (.int 0), .val (.ref b1), .val (.int 0), .val (.ref (w 1)), .val (.ref (w 1))] [(.ref (w 1)), (.ref (w 1))])) X212 hx rfl rfl rfl (pc0 := 263) (pc' := 266) (same := true) rfl (hb hby at_263) rfl (decide_eq_true rfl) (by decide) (by decide) k) ?_
        show oG _ _ _ _ _ _ _ (T212.setTop (mkF m 266 #[.val (.int p1), .val (.int p2), .val (.int p3), .val (.int 2), .val (.int 0), .val (.int 0), .val (.ref b1), .val (.int 0), .val (.ref (w 1)), .val (.ref (w 1))] []))
        refine oS (fun t k => oIc li_1 X212.here hx rfl (hb hby at_266) k) ?_
        refine oS (fun t k => XS.goto X212.here hx rfl (pc0 := 267) (pc' := 271) rfl (hb hby at_267) (by decide) (by decide) k) ?_
        exact own_ret (v := some (.int 1)) X212 (fun h => by rw [Bd.returns] at h; cases h) Bd.notSynchronized (fun fs hr => retN X212 hx (t := .boolean) Bd.returns (by simp) (hb hby at_271) hr) (by rw [e212]; exact ⟨rfl, N211⟩) (by decide) (by decide)
      · rw [hs204]
        show oG _ _ _ _ _ _ _ (T73.setTop (mkF m 200 #[.val (.int p1), .val (.int p2), .val (.int p3), .val (.int 2), .val (.int 0), .val (.int 1), .val (.ref b1), .unset, .unset, .unset] []))
        refine oS (fun t k => XS.aload X73.here hx rfl (hb hby at_200) rfl rfl k) ?_
        refine oS (fun t k => XS.iloadN X73.here hx rfl (hb hby at_202) rfl k) ?_
        show oG _ _ _ _ _ _ _ (T73.setTop (mkF m 203 #[.val (.int p1), .val (.int p2), .val (.int p3), .val (.int 2), .val (.int 0), .val (.int 1), .val (.ref b1), .unset, .unset, .unset] [(.int 2), (.ref b1)]))
        refine oS (fun t k => oBp lb_9 X73.here hx rfl (hb hby at_203) k) ?_
        refine oS (S' := (T73.setTop (mkF m 206 #[.val (.int p1), .val (.int p2), .val (.int p3), .val (.int 2), .val (.int 0), .val (.int 1), .val (.ref b1), .unset, .unset, .unset] [(.int 18), (.ref b1)]))) (fun t k => XS.imul X73.here hx rfl (hb hby at_205) rfl (by rw [show (2 : Int32) * (9 : Int32) = (18 : Int32) from by decide]; exact k)) ?_
        refine oS (fun t k => XS.iload X73.here hx rfl (hb hby at_206) rfl k) ?_
        refine oS (fun t k => oIc li_3 X73.here hx rfl (hb hby at_208) k) ?_
        refine oS (S' := (T73.setTop (mkF m 210 #[.val (.int p1), .val (.int p2), .val (.int p3), .val (.int 2), .val (.int 0), .val (.int 1), .val (.ref b1), .unset, .unset, .unset] [(.int 0), (.int 18), (.ref b1)]))) (fun t k => XS.imul X73.here hx rfl (hb hby at_209) rfl (by rw [show (0 : Int32) * (3 : Int32) = (0 : Int32) from by decide]; exact k)) ?_
        refine oS (S' := (T73.setTop (mkF m 211 #[.val (.int p1), .val (.int p2), .val (.int p3), .val (.int 2), .val (.int 0), .val (.int 1), .val (.ref b1), .unset, .unset, .unset] [(.int 18), (.ref b1)]))) (fun t k => XS.iadd X73.here hx rfl (hb hby at_210) rfl (by rw [show (18 : Int32) + (0 : Int32) = (18 : Int32) from by decide]; exact k)) ?_
        refine oS (fun t k => XS.iload X73.here hx rfl (hb hby at_211) rfl k) ?_
        refine oS (S' := (T73.setTop (mkF m 214 #[.val (.int p1), .val (.int p2), .val (.int p3), .val (.int 2), .val (.int 0), .val (.int 1), .val (.ref b1), .unset, .unset, .unset] [(.int 19), (.ref b1)]))) (fun t k => XS.iadd X73.here hx rfl (hb hby at_213) rfl (by rw [show (18 : Int32) + (1 : Int32) = (19 : Int32) from by decide]; exact k)) ?_
        obtain ⟨cl213, Ar213, qk213, Sz213, Ng213, Ha213, Gf213⟩ := id V73
        have hin213 : ¬ ((19 : Int32) < 0 ∨ cl213.slots.size ≤ ((19 : Int32)).toNatClampNeg) := (inb_of Sz213 ⟨by decide, by decide⟩)
        have hat213 : cl213.slots[((19 : Int32)).toNatClampNeg]? = some (.int (-1)) := Ha213.at hin213 rfl
        refine oS (fun t k => X73.iaload hx (j := (19 : Int32)) (v := (.int (-1))) (by rw [e73]; exact Ar213.1) (State.isArrayOf_alike hZ.alike Ar213.2.1) Ar213.2.2 hin213 hat213 (g := (mkF m 214 #[.val (.int p1), .val (.int p2), .val (.int p3), .val (.int 2), .val (.int 0), .val (.int 1), .val (.ref b1), .unset, .unset, .unset] [(.int 19), (.ref b1)])) rfl rfl (hb hby at_214) t k) ?_
        refine oS (fun t k => XS.istore X73.here hx rfl (hb hby at_215) rfl (l' := #[.val (.int p1), .val (.int p2), .val (.int p3), .val (.int 2), .val (.int 0), .val (.int 1), .val (.ref b1), .val (.int (-1)), .unset, .unset]) rfl k) ?_
        show oG _ _ _ _ _ _ _ (T73.setTop (mkF m 217 #[.val (.int p1), .val (.int p2), .val (.int p3), .val (.int 2), .val (.int 0), .val (.int 1), .val (.ref b1), .val (.int (-1)), .unset, .unset] []))
        refine oS (fun t k => XS.iload X73.here hx rfl (hb hby at_217) rfl k) ?_
        refine oS (fun t k => XS.ifNo X73.here hx rfl (hb hby at_219) rfl ((if0 _ _).trans (tlt (by decide)).2.1) k) ?_
        refine oS (fun t k => XS.aconstNull X73.here hx rfl (hb hby at_222) k) ?_
        refine oS (fun t k => XS.goto X73.here hx rfl (pc0 := 223) (pc' := 231) rfl (hb hby at_223) (by decide) (by decide) k) ?_
        refine oS (fun t k => XS.astore X73.here hx rfl (hb hby at_231) rfl rfl (l' := #[.val (.int p1), .val (.int p2), .val (.int p3), .val (.int 2), .val (.int 0), .val (.int 1), .val (.ref b1), .val (.int (-1)), .val .null, .unset]) rfl k) ?_
        show oG _ _ _ _ _ _ _ (T73.setTop (mkF m 233 #[.val (.int p1), .val (.int p2), .val (.int p3), .val (.int 2), .val (.int 0), .val (.int 1), .val (.ref b1), .val (.int (-1)), .val .null, .unset] []))
        refine oS (fun t k => XS.iloadN X73.here hx rfl (hb hby at_233) rfl k) ?_
        obtain ⟨_, _, ⟨T214, L214, k214, n214⟩, -, X214, ⟨Lc214, hQ214, l214, y214, z214⟩, st214⟩ := Jvm.LawKit.callS X73 hx (y := mY0) hown (mvT hZ (oW hw 2 rfl)) (mvT hZ (oW hw 3 rfl)) (mvT hZ (oW hw 4 rfl)) (mvT hZ (oW hw 5 rfl)) (by decide) (backOf (W := 0) (rm_op_2 l Z a0 hw []  w h73 n0 O73 W ) hZ (oW hw 5 rfl) (oW hw 4 rfl) (by decide) (by decide)) (g := (mkF m 234 #[.val (.int p1), .val (.int p2), .val (.int p3), .val (.int 2), .val (.int 0), .val (.int 1), .val (.ref b1), .val (.int (-1)), .val .null, .unset] [(.int 2)])) rfl (by rw [hml]; rfl) (argsL := [(.int 2)]) (rest := []) (lenOf pd_5 rfl) rfl (by show 2 * 0 + _ ≤ _; exact Nat.le_of_eq rfl) (hb hby at_234) (fun _ _ => ⟨rfl, e73, (by decide : 1 + 0 ≤ _), (by decide : 36 + 0 ≤ _)⟩)
        dsimp only [Pt.U, Pt.locs, Pt.cells, Pt.slots] at X214 l214 y214 z214 st214 hQ214
        rw [l214, y214, z214] at X214
        clear l214 y214 z214
        obtain ⟨rfl, Nq214, e214⟩ := hQ214
        have N214 := Fr.app N73 Nq214
        refine oS (fun t k => st214 t k) ?_
        show oG _ _ _ _ _ _ _ (T214.setTop (mkF m 237 #[.val (.int p1), .val (.int p2), .val (.int p3), .val (.int 2), .val (.int 0), .val (.int 1), .val (.ref b1), .val (.int (-1)), .val .null, .unset] [(.ref (w 6))]))
        try clear st214 X73 e73
        try clear T73
        refine oS (fun t k => XS.iload X214.here hx rfl (hb hby at_237) rfl k) ?_
        obtain ⟨_, _, ⟨T215, L215, k215, n215⟩, -, X215, ⟨Lc215, hQ215, l215, y215, z215⟩, st215⟩ := Jvm.LawKit.callS X214 hx (y := mY2) hown (mvT hZ (oW hw 9 rfl)) (mvT hZ (oW hw 10 rfl)) (mvT hZ (oW hw 4 rfl)) (mvT hZ (oW hw 11 rfl)) (by decide) (backOf (W := 1) (rm_vt_0 l Z a0 hw []  w h73 n0 O73 W ) hZ (oW hw 11 rfl) (oW hw 4 rfl) (by decide) (by decide)) (g := (mkF m 239 #[.val (.int p1), .val (.int p2), .val (.int p3), .val (.int 2), .val (.int 0), .val (.int 1), .val (.ref b1), .val (.int (-1)), .val .null, .unset] [(.int 0), (.ref (w 6))])) rfl (by rw [hml]; rfl) (argsL := [(.int 0)]) (rest := [(.ref (w 6))]) (lenOf pd_4 rfl) rfl (by show 2 * 0 + _ ≤ _; exact Nat.le_of_eq rfl) (hb hby at_239) (fun _ _ => ⟨rfl, e214, (by decide : 1 + 0 ≤ _), (by decide : 36 + 0 ≤ _)⟩)
        dsimp only [Pt.U, Pt.locs, Pt.cells, Pt.slots] at X215 l215 y215 z215 st215 hQ215
        rw [l215, y215, z215] at X215
        clear l215 y215 z215
        obtain ⟨rfl, Nq215, e215⟩ := hQ215
        have N215 := Fr.app N214 Nq215
        refine oS (fun t k => st215 t k) ?_
        show oG _ _ _ _ _ _ _ (T215.setTop (mkF m 242 #[.val (.int p1), .val (.int p2), .val (.int p3), .val (.int 2), .val (.int 0), .val (.int 1), .val (.ref b1), .val (.int (-1)), .val .null, .unset] [(.ref (w 1)), (.ref (w 6))]))
        try clear st215 X214 e214
        refine oS (fun t k => XS.iload X215.here hx rfl (hb hby at_242) rfl k) ?_
        obtain ⟨_, _, ⟨T216, L216, k216, n216⟩, -, X216, ⟨Lc216, hQ216, l216, y216, z216⟩, st216⟩ := Jvm.LawKit.callS X215 hx (y := mY2) hown (mvT hZ (oW hw 9 rfl)) (mvT hZ (oW hw 10 rfl)) (mvT hZ (oW hw 4 rfl)) (mvT hZ (oW hw 11 rfl)) (by decide) (backOf (W := 2) (rm_vt_1 l Z a0 hw []  w h73 n0 O73 W ) hZ (oW hw 11 rfl) (oW hw 4 rfl) (by decide) (by decide)) (g := (mkF m 244 #[.val (.int p1), .val (.int p2), .val (.int p3), .val (.int 2), .val (.int 0), .val (.int 1), .val (.ref b1), .val (.int (-1)), .val .null, .unset] [(.int 1), (.ref (w 1)), (.ref (w 6))])) rfl (by rw [hml]; rfl) (argsL := [(.int 1)]) (rest := [(.ref (w 1)), (.ref (w 6))]) (lenOf pd_4 rfl) rfl (by show 2 * 0 + _ ≤ _; exact Nat.le_of_eq rfl) (hb hby at_244) (fun _ _ => ⟨rfl, e215, (by decide : 1 + 0 ≤ _), (by decide : 36 + 0 ≤ _)⟩)
        dsimp only [Pt.U, Pt.locs, Pt.cells, Pt.slots] at X216 l216 y216 z216 st216 hQ216
        rw [l216, y216, z216] at X216
        clear l216 y216 z216
        obtain ⟨rfl, Nq216, e216⟩ := hQ216
        have N216 := Fr.app N215 Nq216
        refine oS (fun t k => st216 t k) ?_
        show oG _ _ _ _ _ _ _ (T216.setTop (mkF m 247 #[.val (.int p1), .val (.int p2), .val (.int p3), .val (.int 2), .val (.int 0), .val (.int 1), .val (.ref b1), .val (.int (-1)), .val .null, .unset] [(.ref (w 3)), (.ref (w 1)), (.ref (w 6))]))
        try clear st216 X215 e215
        obtain ⟨cq217, kq217, q217a, q217b, q217c⟩ := isOf hZ e216 ((wE6 W).ext O73.2)
        obtain ⟨_, _, ⟨T217, L217, k217, n217⟩, -, X217, ⟨Lc217, hQ217, l217, y217, z217⟩, st217⟩ := X216.virtualBack hx (y := mY8) (z := mY8) hown (mvT hZ (oW hw 17 rfl)) (mvT hZ (oW hw 18 rfl)) (notFace_of_selects (args := #[]) (mvT hZ (oW hw 20 rfl))) (mvT hZ (oW hw 20 rfl)) (mvT hZ (oW hw 19 rfl)) (by decide) (backOf (W := 0) (rm_ty_201 l Z a0 hw []  w h73 n0 O73 W ) hZ (oW hw 21 rfl) (oW hw 7 rfl) (by decide) (by decide)) q217a q217c (g := (mkF m 247 #[.val (.int p1), .val (.int p2), .val (.int p3), .val (.int 2), .val (.int 0), .val (.int 1), .val (.ref b1), .val (.int (-1)), .val .null, .unset] [(.ref (w 3)), (.ref (w 1)), (.ref (w 6))])) rfl (by rw [hml]; rfl) (Steps.refl _) (argsL := [(.ref (w 1)), (.ref (w 3))]) (rest := []) (lenOf pd_6 rfl) rfl (by show 2 * 0 + _ ≤ _; exact Nat.le_of_eq rfl) (hb hby at_247) (fun _ _ => ⟨rfl, e216, (by decide : 1 + 0 ≤ _), (by decide : 36 + 0 ≤ _)⟩)
        dsimp only [Pt.U, Pt.locs, Pt.cells, Pt.slots] at X217 l217 y217 z217 st217 hQ217
        rw [l217, y217, z217] at X217
        clear l217 y217 z217
        obtain ⟨rfl, Nq217, e217⟩ := hQ217
        have N217 := Fr.app N216 Nq217
        refine oS (fun t k => st217.trans k) ?_
        show oG _ _ _ _ _ _ _ (T217.setTop (mkF m 250 #[.val (.int p1), .val (.int p2), .val (.int p3), .val (.int 2), .val (.int 0), .val (.int 1), .val (.ref b1), .val (.int (-1)), .val .null, .unset] [(.ref (w 7))]))
        try clear st217 X216 e216
        refine oS (fun t k => XS.aconstNull X217.here hx rfl (hb hby at_250) k) ?_
        obtain ⟨cq218, kq218, q218a, q218b, q218c⟩ := isOf hZ e217 ((wE7 W).ext O73.2)
        obtain ⟨_, _, ⟨T218, L218, k218, n218⟩, -, X218, ⟨Lc218, hQ218, l218, y218, z218⟩, st218⟩ := X217.virtualBack hx (y := mY7) (z := mY7) hown (mvT hZ (oW hw 39 rfl)) (mvT hZ (oW hw 40 rfl)) (notFace_of_selects (args := #[]) (mvT hZ (oW hw 42 rfl))) (mvT hZ (oW hw 42 rfl)) (mvT hZ (oW hw 41 rfl)) (by decide) (backOf (W := 0) (rm_oe0 l Z a0 hw [] (w 7)  h73 n0 O73  ((wF7_value W).ext O73.2)) hZ (oW hw 43 rfl) (oW hw 36 rfl) (by decide) (by decide)) q218a q218c (g := (mkF m 251 #[.val (.int p1), .val (.int p2), .val (.int p3), .val (.int 2), .val (.int 0), .val (.int 1), .val (.ref b1), .val (.int (-1)), .val .null, .unset] [.null, (.ref (w 7))])) rfl (by rw [hml]; rfl) (Steps.refl _) (argsL := [.null]) (rest := []) (lenOf pd_0 rfl) rfl (by show 2 * 0 + _ ≤ _; exact Nat.le_of_eq rfl) (hb hby at_251) (fun _ _ => ⟨rfl, e217, (by decide : 1 + 0 ≤ _), (by decide : 36 + 0 ≤ _)⟩)
        dsimp only [Pt.U, Pt.locs, Pt.cells, Pt.slots] at X218 l218 y218 z218 st218 hQ218
        rw [l218, y218, z218] at X218
        clear l218 y218 z218
        obtain ⟨rfl, Nq218, e218⟩ := hQ218
        have N218 := Fr.app N217 Nq218
        refine oS (fun t k => st218.trans k) ?_
        show oG _ _ _ _ _ _ _ (T218.setTop (mkF m 254 #[.val (.int p1), .val (.int p2), .val (.int p3), .val (.int 2), .val (.int 0), .val (.int 1), .val (.ref b1), .val (.int (-1)), .val .null, .unset] [.null]))
        try clear st218 X217 e217
        refine oS (fun t k => X218.checkcastNull hx (g := (mkF m 254 #[.val (.int p1), .val (.int p2), .val (.int p3), .val (.int 2), .val (.int 0), .val (.int 1), .val (.ref b1), .val (.int (-1)), .val .null, .unset] [.null])) rfl rfl (hb hby at_254) t k) ?_
        refine oS (fun t k => XS.astore X218.here hx rfl (hb hby at_257) rfl rfl (l' := #[.val (.int p1), .val (.int p2), .val (.int p3), .val (.int 2), .val (.int 0), .val (.int 1), .val (.ref b1), .val (.int (-1)), .val .null, .val .null]) rfl k) ?_
        refine oS (fun t k => XS.aload X218.here hx rfl (hb hby at_259) rfl rfl k) ?_
        refine oS (fun t k => XS.aload X218.here hx rfl (hb hby at_261) rfl rfl k) ?_
        refine oS (fun t k => Jvm.RoadKit.acmp (g := (mkF m 263 #[.val (.int p1), .val (.int p2), .val (.int p3), .val (.int 2), .val (.int 0), .val (.int 1), .val (.ref b1), .val (.int (-1)), .val .null, .val .null] [.null, .null])) X218 hx rfl rfl rfl (pc0 := 263) (pc' := 266) (same := true) rfl (hb hby at_263) rfl (decide_eq_true rfl) (by decide) (by decide) k) ?_
        show oG _ _ _ _ _ _ _ (T218.setTop (mkF m 266 #[.val (.int p1), .val (.int p2), .val (.int p3), .val (.int 2), .val (.int 0), .val (.int 1), .val (.ref b1), .val (.int (-1)), .val .null, .val .null] []))
        refine oS (fun t k => oIc li_1 X218.here hx rfl (hb hby at_266) k) ?_
        refine oS (fun t k => XS.goto X218.here hx rfl (pc0 := 267) (pc' := 271) rfl (hb hby at_267) (by decide) (by decide) k) ?_
        exact own_ret (v := some (.int 1)) X218 (fun h => by rw [Bd.returns] at h; cases h) Bd.notSynchronized (fun fs hr => retN X218 hx (t := .boolean) Bd.returns (by simp) (hb hby at_271) hr) (by rw [e218]; exact ⟨rfl, N218⟩) (by decide) (by decide)
      · rw [hs204]
        show oG _ _ _ _ _ _ _ (T73.setTop (mkF m 200 #[.val (.int p1), .val (.int p2), .val (.int p3), .val (.int 2), .val (.int 0), .val (.int 2), .val (.ref b1), .unset, .unset, .unset] []))
        refine oS (fun t k => XS.aload X73.here hx rfl (hb hby at_200) rfl rfl k) ?_
        refine oS (fun t k => XS.iloadN X73.here hx rfl (hb hby at_202) rfl k) ?_
        show oG _ _ _ _ _ _ _ (T73.setTop (mkF m 203 #[.val (.int p1), .val (.int p2), .val (.int p3), .val (.int 2), .val (.int 0), .val (.int 2), .val (.ref b1), .unset, .unset, .unset] [(.int 2), (.ref b1)]))
        refine oS (fun t k => oBp lb_9 X73.here hx rfl (hb hby at_203) k) ?_
        refine oS (S' := (T73.setTop (mkF m 206 #[.val (.int p1), .val (.int p2), .val (.int p3), .val (.int 2), .val (.int 0), .val (.int 2), .val (.ref b1), .unset, .unset, .unset] [(.int 18), (.ref b1)]))) (fun t k => XS.imul X73.here hx rfl (hb hby at_205) rfl (by rw [show (2 : Int32) * (9 : Int32) = (18 : Int32) from by decide]; exact k)) ?_
        refine oS (fun t k => XS.iload X73.here hx rfl (hb hby at_206) rfl k) ?_
        refine oS (fun t k => oIc li_3 X73.here hx rfl (hb hby at_208) k) ?_
        refine oS (S' := (T73.setTop (mkF m 210 #[.val (.int p1), .val (.int p2), .val (.int p3), .val (.int 2), .val (.int 0), .val (.int 2), .val (.ref b1), .unset, .unset, .unset] [(.int 0), (.int 18), (.ref b1)]))) (fun t k => XS.imul X73.here hx rfl (hb hby at_209) rfl (by rw [show (0 : Int32) * (3 : Int32) = (0 : Int32) from by decide]; exact k)) ?_
        refine oS (S' := (T73.setTop (mkF m 211 #[.val (.int p1), .val (.int p2), .val (.int p3), .val (.int 2), .val (.int 0), .val (.int 2), .val (.ref b1), .unset, .unset, .unset] [(.int 18), (.ref b1)]))) (fun t k => XS.iadd X73.here hx rfl (hb hby at_210) rfl (by rw [show (18 : Int32) + (0 : Int32) = (18 : Int32) from by decide]; exact k)) ?_
        refine oS (fun t k => XS.iload X73.here hx rfl (hb hby at_211) rfl k) ?_
        refine oS (S' := (T73.setTop (mkF m 214 #[.val (.int p1), .val (.int p2), .val (.int p3), .val (.int 2), .val (.int 0), .val (.int 2), .val (.ref b1), .unset, .unset, .unset] [(.int 20), (.ref b1)]))) (fun t k => XS.iadd X73.here hx rfl (hb hby at_213) rfl (by rw [show (18 : Int32) + (2 : Int32) = (20 : Int32) from by decide]; exact k)) ?_
        obtain ⟨cl219, Ar219, qk219, Sz219, Ng219, Ha219, Gf219⟩ := id V73
        have hin219 : ¬ ((20 : Int32) < 0 ∨ cl219.slots.size ≤ ((20 : Int32)).toNatClampNeg) := (inb_of Sz219 ⟨by decide, by decide⟩)
        have hat219 : cl219.slots[((20 : Int32)).toNatClampNeg]? = some (.int (-1)) := Ha219.at hin219 rfl
        refine oS (fun t k => X73.iaload hx (j := (20 : Int32)) (v := (.int (-1))) (by rw [e73]; exact Ar219.1) (State.isArrayOf_alike hZ.alike Ar219.2.1) Ar219.2.2 hin219 hat219 (g := (mkF m 214 #[.val (.int p1), .val (.int p2), .val (.int p3), .val (.int 2), .val (.int 0), .val (.int 2), .val (.ref b1), .unset, .unset, .unset] [(.int 20), (.ref b1)])) rfl rfl (hb hby at_214) t k) ?_
        refine oS (fun t k => XS.istore X73.here hx rfl (hb hby at_215) rfl (l' := #[.val (.int p1), .val (.int p2), .val (.int p3), .val (.int 2), .val (.int 0), .val (.int 2), .val (.ref b1), .val (.int (-1)), .unset, .unset]) rfl k) ?_
        show oG _ _ _ _ _ _ _ (T73.setTop (mkF m 217 #[.val (.int p1), .val (.int p2), .val (.int p3), .val (.int 2), .val (.int 0), .val (.int 2), .val (.ref b1), .val (.int (-1)), .unset, .unset] []))
        refine oS (fun t k => XS.iload X73.here hx rfl (hb hby at_217) rfl k) ?_
        refine oS (fun t k => XS.ifNo X73.here hx rfl (hb hby at_219) rfl ((if0 _ _).trans (tlt (by decide)).2.1) k) ?_
        refine oS (fun t k => XS.aconstNull X73.here hx rfl (hb hby at_222) k) ?_
        refine oS (fun t k => XS.goto X73.here hx rfl (pc0 := 223) (pc' := 231) rfl (hb hby at_223) (by decide) (by decide) k) ?_
        refine oS (fun t k => XS.astore X73.here hx rfl (hb hby at_231) rfl rfl (l' := #[.val (.int p1), .val (.int p2), .val (.int p3), .val (.int 2), .val (.int 0), .val (.int 2), .val (.ref b1), .val (.int (-1)), .val .null, .unset]) rfl k) ?_
        show oG _ _ _ _ _ _ _ (T73.setTop (mkF m 233 #[.val (.int p1), .val (.int p2), .val (.int p3), .val (.int 2), .val (.int 0), .val (.int 2), .val (.ref b1), .val (.int (-1)), .val .null, .unset] []))
        refine oS (fun t k => XS.iloadN X73.here hx rfl (hb hby at_233) rfl k) ?_
        obtain ⟨_, _, ⟨T220, L220, k220, n220⟩, -, X220, ⟨Lc220, hQ220, l220, y220, z220⟩, st220⟩ := Jvm.LawKit.callS X73 hx (y := mY0) hown (mvT hZ (oW hw 2 rfl)) (mvT hZ (oW hw 3 rfl)) (mvT hZ (oW hw 4 rfl)) (mvT hZ (oW hw 5 rfl)) (by decide) (backOf (W := 0) (rm_op_2 l Z a0 hw []  w h73 n0 O73 W ) hZ (oW hw 5 rfl) (oW hw 4 rfl) (by decide) (by decide)) (g := (mkF m 234 #[.val (.int p1), .val (.int p2), .val (.int p3), .val (.int 2), .val (.int 0), .val (.int 2), .val (.ref b1), .val (.int (-1)), .val .null, .unset] [(.int 2)])) rfl (by rw [hml]; rfl) (argsL := [(.int 2)]) (rest := []) (lenOf pd_5 rfl) rfl (by show 2 * 0 + _ ≤ _; exact Nat.le_of_eq rfl) (hb hby at_234) (fun _ _ => ⟨rfl, e73, (by decide : 1 + 0 ≤ _), (by decide : 36 + 0 ≤ _)⟩)
        dsimp only [Pt.U, Pt.locs, Pt.cells, Pt.slots] at X220 l220 y220 z220 st220 hQ220
        rw [l220, y220, z220] at X220
        clear l220 y220 z220
        obtain ⟨rfl, Nq220, e220⟩ := hQ220
        have N220 := Fr.app N73 Nq220
        refine oS (fun t k => st220 t k) ?_
        show oG _ _ _ _ _ _ _ (T220.setTop (mkF m 237 #[.val (.int p1), .val (.int p2), .val (.int p3), .val (.int 2), .val (.int 0), .val (.int 2), .val (.ref b1), .val (.int (-1)), .val .null, .unset] [(.ref (w 6))]))
        try clear st220 X73 e73
        try clear T73
        refine oS (fun t k => XS.iload X220.here hx rfl (hb hby at_237) rfl k) ?_
        obtain ⟨_, _, ⟨T221, L221, k221, n221⟩, -, X221, ⟨Lc221, hQ221, l221, y221, z221⟩, st221⟩ := Jvm.LawKit.callS X220 hx (y := mY2) hown (mvT hZ (oW hw 9 rfl)) (mvT hZ (oW hw 10 rfl)) (mvT hZ (oW hw 4 rfl)) (mvT hZ (oW hw 11 rfl)) (by decide) (backOf (W := 1) (rm_vt_0 l Z a0 hw []  w h73 n0 O73 W ) hZ (oW hw 11 rfl) (oW hw 4 rfl) (by decide) (by decide)) (g := (mkF m 239 #[.val (.int p1), .val (.int p2), .val (.int p3), .val (.int 2), .val (.int 0), .val (.int 2), .val (.ref b1), .val (.int (-1)), .val .null, .unset] [(.int 0), (.ref (w 6))])) rfl (by rw [hml]; rfl) (argsL := [(.int 0)]) (rest := [(.ref (w 6))]) (lenOf pd_4 rfl) rfl (by show 2 * 0 + _ ≤ _; exact Nat.le_of_eq rfl) (hb hby at_239) (fun _ _ => ⟨rfl, e220, (by decide : 1 + 0 ≤ _), (by decide : 36 + 0 ≤ _)⟩)
        dsimp only [Pt.U, Pt.locs, Pt.cells, Pt.slots] at X221 l221 y221 z221 st221 hQ221
        rw [l221, y221, z221] at X221
        clear l221 y221 z221
        obtain ⟨rfl, Nq221, e221⟩ := hQ221
        have N221 := Fr.app N220 Nq221
        refine oS (fun t k => st221 t k) ?_
        show oG _ _ _ _ _ _ _ (T221.setTop (mkF m 242 #[.val (.int p1), .val (.int p2), .val (.int p3), .val (.int 2), .val (.int 0), .val (.int 2), .val (.ref b1), .val (.int (-1)), .val .null, .unset] [(.ref (w 1)), (.ref (w 6))]))
        try clear st221 X220 e220
        refine oS (fun t k => XS.iload X221.here hx rfl (hb hby at_242) rfl k) ?_
        obtain ⟨_, _, ⟨T222, L222, k222, n222⟩, -, X222, ⟨Lc222, hQ222, l222, y222, z222⟩, st222⟩ := Jvm.LawKit.callS X221 hx (y := mY2) hown (mvT hZ (oW hw 9 rfl)) (mvT hZ (oW hw 10 rfl)) (mvT hZ (oW hw 4 rfl)) (mvT hZ (oW hw 11 rfl)) (by decide) (backOf (W := 2) (rm_vt_2 l Z a0 hw []  w h73 n0 O73 W ) hZ (oW hw 11 rfl) (oW hw 4 rfl) (by decide) (by decide)) (g := (mkF m 244 #[.val (.int p1), .val (.int p2), .val (.int p3), .val (.int 2), .val (.int 0), .val (.int 2), .val (.ref b1), .val (.int (-1)), .val .null, .unset] [(.int 2), (.ref (w 1)), (.ref (w 6))])) rfl (by rw [hml]; rfl) (argsL := [(.int 2)]) (rest := [(.ref (w 1)), (.ref (w 6))]) (lenOf pd_4 rfl) rfl (by show 2 * 0 + _ ≤ _; exact Nat.le_of_eq rfl) (hb hby at_244) (fun _ _ => ⟨rfl, e221, (by decide : 1 + 0 ≤ _), (by decide : 36 + 0 ≤ _)⟩)
        dsimp only [Pt.U, Pt.locs, Pt.cells, Pt.slots] at X222 l222 y222 z222 st222 hQ222
        rw [l222, y222, z222] at X222
        clear l222 y222 z222
        obtain ⟨rfl, Nq222, e222⟩ := hQ222
        have N222 := Fr.app N221 Nq222
        refine oS (fun t k => st222 t k) ?_
        show oG _ _ _ _ _ _ _ (T222.setTop (mkF m 247 #[.val (.int p1), .val (.int p2), .val (.int p3), .val (.int 2), .val (.int 0), .val (.int 2), .val (.ref b1), .val (.int (-1)), .val .null, .unset] [(.ref (w 2)), (.ref (w 1)), (.ref (w 6))]))
        try clear st222 X221 e221
        obtain ⟨cq223, kq223, q223a, q223b, q223c⟩ := isOf hZ e222 ((wE6 W).ext O73.2)
        obtain ⟨_, _, ⟨T223, L223, k223, n223⟩, -, X223, ⟨Lc223, hQ223, l223, y223, z223⟩, st223⟩ := X222.virtualBack hx (y := mY8) (z := mY8) hown (mvT hZ (oW hw 17 rfl)) (mvT hZ (oW hw 18 rfl)) (notFace_of_selects (args := #[]) (mvT hZ (oW hw 20 rfl))) (mvT hZ (oW hw 20 rfl)) (mvT hZ (oW hw 19 rfl)) (by decide) (backOf (W := 0) (rm_ty_202 l Z a0 hw []  w h73 n0 O73 W ) hZ (oW hw 21 rfl) (oW hw 7 rfl) (by decide) (by decide)) q223a q223c (g := (mkF m 247 #[.val (.int p1), .val (.int p2), .val (.int p3), .val (.int 2), .val (.int 0), .val (.int 2), .val (.ref b1), .val (.int (-1)), .val .null, .unset] [(.ref (w 2)), (.ref (w 1)), (.ref (w 6))])) rfl (by rw [hml]; rfl) (Steps.refl _) (argsL := [(.ref (w 1)), (.ref (w 2))]) (rest := []) (lenOf pd_6 rfl) rfl (by show 2 * 0 + _ ≤ _; exact Nat.le_of_eq rfl) (hb hby at_247) (fun _ _ => ⟨rfl, e222, (by decide : 1 + 0 ≤ _), (by decide : 36 + 0 ≤ _)⟩)
        dsimp only [Pt.U, Pt.locs, Pt.cells, Pt.slots] at X223 l223 y223 z223 st223 hQ223
        rw [l223, y223, z223] at X223
        clear l223 y223 z223
        obtain ⟨rfl, Nq223, e223⟩ := hQ223
        have N223 := Fr.app N222 Nq223
        refine oS (fun t k => st223.trans k) ?_
        show oG _ _ _ _ _ _ _ (T223.setTop (mkF m 250 #[.val (.int p1), .val (.int p2), .val (.int p3), .val (.int 2), .val (.int 0), .val (.int 2), .val (.ref b1), .val (.int (-1)), .val .null, .unset] [(.ref (w 7))]))
        try clear st223 X222 e222
        refine oS (fun t k => XS.aconstNull X223.here hx rfl (hb hby at_250) k) ?_
        obtain ⟨cq224, kq224, q224a, q224b, q224c⟩ := isOf hZ e223 ((wE7 W).ext O73.2)
        obtain ⟨_, _, ⟨T224, L224, k224, n224⟩, -, X224, ⟨Lc224, hQ224, l224, y224, z224⟩, st224⟩ := X223.virtualBack hx (y := mY7) (z := mY7) hown (mvT hZ (oW hw 39 rfl)) (mvT hZ (oW hw 40 rfl)) (notFace_of_selects (args := #[]) (mvT hZ (oW hw 42 rfl))) (mvT hZ (oW hw 42 rfl)) (mvT hZ (oW hw 41 rfl)) (by decide) (backOf (W := 0) (rm_oe0 l Z a0 hw [] (w 7)  h73 n0 O73  ((wF7_value W).ext O73.2)) hZ (oW hw 43 rfl) (oW hw 36 rfl) (by decide) (by decide)) q224a q224c (g := (mkF m 251 #[.val (.int p1), .val (.int p2), .val (.int p3), .val (.int 2), .val (.int 0), .val (.int 2), .val (.ref b1), .val (.int (-1)), .val .null, .unset] [.null, (.ref (w 7))])) rfl (by rw [hml]; rfl) (Steps.refl _) (argsL := [.null]) (rest := []) (lenOf pd_0 rfl) rfl (by show 2 * 0 + _ ≤ _; exact Nat.le_of_eq rfl) (hb hby at_251) (fun _ _ => ⟨rfl, e223, (by decide : 1 + 0 ≤ _), (by decide : 36 + 0 ≤ _)⟩)
        dsimp only [Pt.U, Pt.locs, Pt.cells, Pt.slots] at X224 l224 y224 z224 st224 hQ224
        rw [l224, y224, z224] at X224
        clear l224 y224 z224
        obtain ⟨rfl, Nq224, e224⟩ := hQ224
        have N224 := Fr.app N223 Nq224
        refine oS (fun t k => st224.trans k) ?_
        show oG _ _ _ _ _ _ _ (T224.setTop (mkF m 254 #[.val (.int p1), .val (.int p2), .val (.int p3), .val (.int 2), .val (.int 0), .val (.int 2), .val (.ref b1), .val (.int (-1)), .val .null, .unset] [.null]))
        try clear st224 X223 e223
        refine oS (fun t k => X224.checkcastNull hx (g := (mkF m 254 #[.val (.int p1), .val (.int p2), .val (.int p3), .val (.int 2), .val (.int 0), .val (.int 2), .val (.ref b1), .val (.int (-1)), .val .null, .unset] [.null])) rfl rfl (hb hby at_254) t k) ?_
        refine oS (fun t k => XS.astore X224.here hx rfl (hb hby at_257) rfl rfl (l' := #[.val (.int p1), .val (.int p2), .val (.int p3), .val (.int 2), .val (.int 0), .val (.int 2), .val (.ref b1), .val (.int (-1)), .val .null, .val .null]) rfl k) ?_
        refine oS (fun t k => XS.aload X224.here hx rfl (hb hby at_259) rfl rfl k) ?_
        refine oS (fun t k => XS.aload X224.here hx rfl (hb hby at_261) rfl rfl k) ?_
        refine oS (fun t k => Jvm.RoadKit.acmp (g := (mkF m 263 #[.val (.int p1), .val (.int p2), .val (.int p3), .val (.int 2), .val (.int 0), .val (.int 2), .val (.ref b1), .val (.int (-1)), .val .null, .val .null] [.null, .null])) X224 hx rfl rfl rfl (pc0 := 263) (pc' := 266) (same := true) rfl (hb hby at_263) rfl (decide_eq_true rfl) (by decide) (by decide) k) ?_
        show oG _ _ _ _ _ _ _ (T224.setTop (mkF m 266 #[.val (.int p1), .val (.int p2), .val (.int p3), .val (.int 2), .val (.int 0), .val (.int 2), .val (.ref b1), .val (.int (-1)), .val .null, .val .null] []))
        refine oS (fun t k => oIc li_1 X224.here hx rfl (hb hby at_266) k) ?_
        refine oS (fun t k => XS.goto X224.here hx rfl (pc0 := 267) (pc' := 271) rfl (hb hby at_267) (by decide) (by decide) k) ?_
        exact own_ret (v := some (.int 1)) X224 (fun h => by rw [Bd.returns] at h; cases h) Bd.notSynchronized (fun fs hr => retN X224 hx (t := .boolean) Bd.returns (by simp) (hb hby at_271) hr) (by rw [e224]; exact ⟨rfl, N224⟩) (by decide) (by decide)
    · rw [hs203]
      show oG _ _ _ _ _ _ _ (T73.setTop (mkF m 200 #[.val (.int p1), .val (.int p2), .val (.int p3), .val (.int 2), .val (.int 1), .val (.int ((p3 &&& (2147483647 : Int32)) % (3 : Int32))), .val (.ref b1), .unset, .unset, .unset] []))
      show oG _ _ _ _ _ _ _ (T73.setTop (mkF m 200 #[.val (.int p1), .val (.int p2), .val (.int p3), .val (.int 2), .val (.int 1), .val (.int ((p3 &&& (2147483647 : Int32)) % (3 : Int32))), .val (.ref b1), .unset, .unset, .unset] []))
      rcases own_three p3 with hs225 | hs225 | hs225
      · rw [hs225]
        show oG _ _ _ _ _ _ _ (T73.setTop (mkF m 200 #[.val (.int p1), .val (.int p2), .val (.int p3), .val (.int 2), .val (.int 1), .val (.int 0), .val (.ref b1), .unset, .unset, .unset] []))
        refine oS (fun t k => XS.aload X73.here hx rfl (hb hby at_200) rfl rfl k) ?_
        refine oS (fun t k => XS.iloadN X73.here hx rfl (hb hby at_202) rfl k) ?_
        show oG _ _ _ _ _ _ _ (T73.setTop (mkF m 203 #[.val (.int p1), .val (.int p2), .val (.int p3), .val (.int 2), .val (.int 1), .val (.int 0), .val (.ref b1), .unset, .unset, .unset] [(.int 2), (.ref b1)]))
        refine oS (fun t k => oBp lb_9 X73.here hx rfl (hb hby at_203) k) ?_
        refine oS (S' := (T73.setTop (mkF m 206 #[.val (.int p1), .val (.int p2), .val (.int p3), .val (.int 2), .val (.int 1), .val (.int 0), .val (.ref b1), .unset, .unset, .unset] [(.int 18), (.ref b1)]))) (fun t k => XS.imul X73.here hx rfl (hb hby at_205) rfl (by rw [show (2 : Int32) * (9 : Int32) = (18 : Int32) from by decide]; exact k)) ?_
        refine oS (fun t k => XS.iload X73.here hx rfl (hb hby at_206) rfl k) ?_
        refine oS (fun t k => oIc li_3 X73.here hx rfl (hb hby at_208) k) ?_
        refine oS (S' := (T73.setTop (mkF m 210 #[.val (.int p1), .val (.int p2), .val (.int p3), .val (.int 2), .val (.int 1), .val (.int 0), .val (.ref b1), .unset, .unset, .unset] [(.int 3), (.int 18), (.ref b1)]))) (fun t k => XS.imul X73.here hx rfl (hb hby at_209) rfl (by rw [show (1 : Int32) * (3 : Int32) = (3 : Int32) from by decide]; exact k)) ?_
        refine oS (S' := (T73.setTop (mkF m 211 #[.val (.int p1), .val (.int p2), .val (.int p3), .val (.int 2), .val (.int 1), .val (.int 0), .val (.ref b1), .unset, .unset, .unset] [(.int 21), (.ref b1)]))) (fun t k => XS.iadd X73.here hx rfl (hb hby at_210) rfl (by rw [show (18 : Int32) + (3 : Int32) = (21 : Int32) from by decide]; exact k)) ?_
        refine oS (fun t k => XS.iload X73.here hx rfl (hb hby at_211) rfl k) ?_
        refine oS (S' := (T73.setTop (mkF m 214 #[.val (.int p1), .val (.int p2), .val (.int p3), .val (.int 2), .val (.int 1), .val (.int 0), .val (.ref b1), .unset, .unset, .unset] [(.int 21), (.ref b1)]))) (fun t k => XS.iadd X73.here hx rfl (hb hby at_213) rfl (by rw [show (21 : Int32) + (0 : Int32) = (21 : Int32) from by decide]; exact k)) ?_
        obtain ⟨cl226, Ar226, qk226, Sz226, Ng226, Ha226, Gf226⟩ := id V73
        have hin226 : ¬ ((21 : Int32) < 0 ∨ cl226.slots.size ≤ ((21 : Int32)).toNatClampNeg) := (inb_of Sz226 ⟨by decide, by decide⟩)
        have hat226 : cl226.slots[((21 : Int32)).toNatClampNeg]? = some (.int (-1)) := Ha226.at hin226 rfl
        refine oS (fun t k => X73.iaload hx (j := (21 : Int32)) (v := (.int (-1))) (by rw [e73]; exact Ar226.1) (State.isArrayOf_alike hZ.alike Ar226.2.1) Ar226.2.2 hin226 hat226 (g := (mkF m 214 #[.val (.int p1), .val (.int p2), .val (.int p3), .val (.int 2), .val (.int 1), .val (.int 0), .val (.ref b1), .unset, .unset, .unset] [(.int 21), (.ref b1)])) rfl rfl (hb hby at_214) t k) ?_
        refine oS (fun t k => XS.istore X73.here hx rfl (hb hby at_215) rfl (l' := #[.val (.int p1), .val (.int p2), .val (.int p3), .val (.int 2), .val (.int 1), .val (.int 0), .val (.ref b1), .val (.int (-1)), .unset, .unset]) rfl k) ?_
        show oG _ _ _ _ _ _ _ (T73.setTop (mkF m 217 #[.val (.int p1), .val (.int p2), .val (.int p3), .val (.int 2), .val (.int 1), .val (.int 0), .val (.ref b1), .val (.int (-1)), .unset, .unset] []))
        refine oS (fun t k => XS.iload X73.here hx rfl (hb hby at_217) rfl k) ?_
        refine oS (fun t k => XS.ifNo X73.here hx rfl (hb hby at_219) rfl ((if0 _ _).trans (tlt (by decide)).2.1) k) ?_
        refine oS (fun t k => XS.aconstNull X73.here hx rfl (hb hby at_222) k) ?_
        refine oS (fun t k => XS.goto X73.here hx rfl (pc0 := 223) (pc' := 231) rfl (hb hby at_223) (by decide) (by decide) k) ?_
        refine oS (fun t k => XS.astore X73.here hx rfl (hb hby at_231) rfl rfl (l' := #[.val (.int p1), .val (.int p2), .val (.int p3), .val (.int 2), .val (.int 1), .val (.int 0), .val (.ref b1), .val (.int (-1)), .val .null, .unset]) rfl k) ?_
        show oG _ _ _ _ _ _ _ (T73.setTop (mkF m 233 #[.val (.int p1), .val (.int p2), .val (.int p3), .val (.int 2), .val (.int 1), .val (.int 0), .val (.ref b1), .val (.int (-1)), .val .null, .unset] []))
        refine oS (fun t k => XS.iloadN X73.here hx rfl (hb hby at_233) rfl k) ?_
        obtain ⟨_, _, ⟨T227, L227, k227, n227⟩, -, X227, ⟨Lc227, hQ227, l227, y227, z227⟩, st227⟩ := Jvm.LawKit.callS X73 hx (y := mY0) hown (mvT hZ (oW hw 2 rfl)) (mvT hZ (oW hw 3 rfl)) (mvT hZ (oW hw 4 rfl)) (mvT hZ (oW hw 5 rfl)) (by decide) (backOf (W := 0) (rm_op_2 l Z a0 hw []  w h73 n0 O73 W ) hZ (oW hw 5 rfl) (oW hw 4 rfl) (by decide) (by decide)) (g := (mkF m 234 #[.val (.int p1), .val (.int p2), .val (.int p3), .val (.int 2), .val (.int 1), .val (.int 0), .val (.ref b1), .val (.int (-1)), .val .null, .unset] [(.int 2)])) rfl (by rw [hml]; rfl) (argsL := [(.int 2)]) (rest := []) (lenOf pd_5 rfl) rfl (by show 2 * 0 + _ ≤ _; exact Nat.le_of_eq rfl) (hb hby at_234) (fun _ _ => ⟨rfl, e73, (by decide : 1 + 0 ≤ _), (by decide : 36 + 0 ≤ _)⟩)
        dsimp only [Pt.U, Pt.locs, Pt.cells, Pt.slots] at X227 l227 y227 z227 st227 hQ227
        rw [l227, y227, z227] at X227
        clear l227 y227 z227
        obtain ⟨rfl, Nq227, e227⟩ := hQ227
        have N227 := Fr.app N73 Nq227
        refine oS (fun t k => st227 t k) ?_
        show oG _ _ _ _ _ _ _ (T227.setTop (mkF m 237 #[.val (.int p1), .val (.int p2), .val (.int p3), .val (.int 2), .val (.int 1), .val (.int 0), .val (.ref b1), .val (.int (-1)), .val .null, .unset] [(.ref (w 6))]))
        try clear st227 X73 e73
        try clear T73
        refine oS (fun t k => XS.iload X227.here hx rfl (hb hby at_237) rfl k) ?_
        obtain ⟨_, _, ⟨T228, L228, k228, n228⟩, -, X228, ⟨Lc228, hQ228, l228, y228, z228⟩, st228⟩ := Jvm.LawKit.callS X227 hx (y := mY2) hown (mvT hZ (oW hw 9 rfl)) (mvT hZ (oW hw 10 rfl)) (mvT hZ (oW hw 4 rfl)) (mvT hZ (oW hw 11 rfl)) (by decide) (backOf (W := 1) (rm_vt_1 l Z a0 hw []  w h73 n0 O73 W ) hZ (oW hw 11 rfl) (oW hw 4 rfl) (by decide) (by decide)) (g := (mkF m 239 #[.val (.int p1), .val (.int p2), .val (.int p3), .val (.int 2), .val (.int 1), .val (.int 0), .val (.ref b1), .val (.int (-1)), .val .null, .unset] [(.int 1), (.ref (w 6))])) rfl (by rw [hml]; rfl) (argsL := [(.int 1)]) (rest := [(.ref (w 6))]) (lenOf pd_4 rfl) rfl (by show 2 * 0 + _ ≤ _; exact Nat.le_of_eq rfl) (hb hby at_239) (fun _ _ => ⟨rfl, e227, (by decide : 1 + 0 ≤ _), (by decide : 36 + 0 ≤ _)⟩)
        dsimp only [Pt.U, Pt.locs, Pt.cells, Pt.slots] at X228 l228 y228 z228 st228 hQ228
        rw [l228, y228, z228] at X228
        clear l228 y228 z228
        obtain ⟨rfl, Nq228, e228⟩ := hQ228
        have N228 := Fr.app N227 Nq228
        refine oS (fun t k => st228 t k) ?_
        show oG _ _ _ _ _ _ _ (T228.setTop (mkF m 242 #[.val (.int p1), .val (.int p2), .val (.int p3), .val (.int 2), .val (.int 1), .val (.int 0), .val (.ref b1), .val (.int (-1)), .val .null, .unset] [(.ref (w 3)), (.ref (w 6))]))
        try clear st228 X227 e227
        refine oS (fun t k => XS.iload X228.here hx rfl (hb hby at_242) rfl k) ?_
        obtain ⟨_, _, ⟨T229, L229, k229, n229⟩, -, X229, ⟨Lc229, hQ229, l229, y229, z229⟩, st229⟩ := Jvm.LawKit.callS X228 hx (y := mY2) hown (mvT hZ (oW hw 9 rfl)) (mvT hZ (oW hw 10 rfl)) (mvT hZ (oW hw 4 rfl)) (mvT hZ (oW hw 11 rfl)) (by decide) (backOf (W := 2) (rm_vt_0 l Z a0 hw []  w h73 n0 O73 W ) hZ (oW hw 11 rfl) (oW hw 4 rfl) (by decide) (by decide)) (g := (mkF m 244 #[.val (.int p1), .val (.int p2), .val (.int p3), .val (.int 2), .val (.int 1), .val (.int 0), .val (.ref b1), .val (.int (-1)), .val .null, .unset] [(.int 0), (.ref (w 3)), (.ref (w 6))])) rfl (by rw [hml]; rfl) (argsL := [(.int 0)]) (rest := [(.ref (w 3)), (.ref (w 6))]) (lenOf pd_4 rfl) rfl (by show 2 * 0 + _ ≤ _; exact Nat.le_of_eq rfl) (hb hby at_244) (fun _ _ => ⟨rfl, e228, (by decide : 1 + 0 ≤ _), (by decide : 36 + 0 ≤ _)⟩)
        dsimp only [Pt.U, Pt.locs, Pt.cells, Pt.slots] at X229 l229 y229 z229 st229 hQ229
        rw [l229, y229, z229] at X229
        clear l229 y229 z229
        obtain ⟨rfl, Nq229, e229⟩ := hQ229
        have N229 := Fr.app N228 Nq229
        refine oS (fun t k => st229 t k) ?_
        show oG _ _ _ _ _ _ _ (T229.setTop (mkF m 247 #[.val (.int p1), .val (.int p2), .val (.int p3), .val (.int 2), .val (.int 1), .val (.int 0), .val (.ref b1), .val (.int (-1)), .val .null, .unset] [(.ref (w 1)), (.ref (w 3)), (.ref (w 6))]))
        try clear st229 X228 e228
        obtain ⟨cq230, kq230, q230a, q230b, q230c⟩ := isOf hZ e229 ((wE6 W).ext O73.2)
        obtain ⟨_, _, ⟨T230, L230, k230, n230⟩, -, X230, ⟨Lc230, hQ230, l230, y230, z230⟩, st230⟩ := X229.virtualBack hx (y := mY8) (z := mY8) hown (mvT hZ (oW hw 17 rfl)) (mvT hZ (oW hw 18 rfl)) (notFace_of_selects (args := #[]) (mvT hZ (oW hw 20 rfl))) (mvT hZ (oW hw 20 rfl)) (mvT hZ (oW hw 19 rfl)) (by decide) (backOf (W := 0) (rm_ty_210 l Z a0 hw []  w h73 n0 O73 W ) hZ (oW hw 21 rfl) (oW hw 7 rfl) (by decide) (by decide)) q230a q230c (g := (mkF m 247 #[.val (.int p1), .val (.int p2), .val (.int p3), .val (.int 2), .val (.int 1), .val (.int 0), .val (.ref b1), .val (.int (-1)), .val .null, .unset] [(.ref (w 1)), (.ref (w 3)), (.ref (w 6))])) rfl (by rw [hml]; rfl) (Steps.refl _) (argsL := [(.ref (w 3)), (.ref (w 1))]) (rest := []) (lenOf pd_6 rfl) rfl (by show 2 * 0 + _ ≤ _; exact Nat.le_of_eq rfl) (hb hby at_247) (fun _ _ => ⟨rfl, e229, (by decide : 1 + 0 ≤ _), (by decide : 36 + 0 ≤ _)⟩)
        dsimp only [Pt.U, Pt.locs, Pt.cells, Pt.slots] at X230 l230 y230 z230 st230 hQ230
        rw [l230, y230, z230] at X230
        clear l230 y230 z230
        obtain ⟨rfl, Nq230, e230⟩ := hQ230
        have N230 := Fr.app N229 Nq230
        refine oS (fun t k => st230.trans k) ?_
        show oG _ _ _ _ _ _ _ (T230.setTop (mkF m 250 #[.val (.int p1), .val (.int p2), .val (.int p3), .val (.int 2), .val (.int 1), .val (.int 0), .val (.ref b1), .val (.int (-1)), .val .null, .unset] [(.ref (w 7))]))
        try clear st230 X229 e229
        refine oS (fun t k => XS.aconstNull X230.here hx rfl (hb hby at_250) k) ?_
        obtain ⟨cq231, kq231, q231a, q231b, q231c⟩ := isOf hZ e230 ((wE7 W).ext O73.2)
        obtain ⟨_, _, ⟨T231, L231, k231, n231⟩, -, X231, ⟨Lc231, hQ231, l231, y231, z231⟩, st231⟩ := X230.virtualBack hx (y := mY7) (z := mY7) hown (mvT hZ (oW hw 39 rfl)) (mvT hZ (oW hw 40 rfl)) (notFace_of_selects (args := #[]) (mvT hZ (oW hw 42 rfl))) (mvT hZ (oW hw 42 rfl)) (mvT hZ (oW hw 41 rfl)) (by decide) (backOf (W := 0) (rm_oe0 l Z a0 hw [] (w 7)  h73 n0 O73  ((wF7_value W).ext O73.2)) hZ (oW hw 43 rfl) (oW hw 36 rfl) (by decide) (by decide)) q231a q231c (g := (mkF m 251 #[.val (.int p1), .val (.int p2), .val (.int p3), .val (.int 2), .val (.int 1), .val (.int 0), .val (.ref b1), .val (.int (-1)), .val .null, .unset] [.null, (.ref (w 7))])) rfl (by rw [hml]; rfl) (Steps.refl _) (argsL := [.null]) (rest := []) (lenOf pd_0 rfl) rfl (by show 2 * 0 + _ ≤ _; exact Nat.le_of_eq rfl) (hb hby at_251) (fun _ _ => ⟨rfl, e230, (by decide : 1 + 0 ≤ _), (by decide : 36 + 0 ≤ _)⟩)
        dsimp only [Pt.U, Pt.locs, Pt.cells, Pt.slots] at X231 l231 y231 z231 st231 hQ231
        rw [l231, y231, z231] at X231
        clear l231 y231 z231
        obtain ⟨rfl, Nq231, e231⟩ := hQ231
        have N231 := Fr.app N230 Nq231
        refine oS (fun t k => st231.trans k) ?_
        show oG _ _ _ _ _ _ _ (T231.setTop (mkF m 254 #[.val (.int p1), .val (.int p2), .val (.int p3), .val (.int 2), .val (.int 1), .val (.int 0), .val (.ref b1), .val (.int (-1)), .val .null, .unset] [.null]))
        try clear st231 X230 e230
        refine oS (fun t k => X231.checkcastNull hx (g := (mkF m 254 #[.val (.int p1), .val (.int p2), .val (.int p3), .val (.int 2), .val (.int 1), .val (.int 0), .val (.ref b1), .val (.int (-1)), .val .null, .unset] [.null])) rfl rfl (hb hby at_254) t k) ?_
        refine oS (fun t k => XS.astore X231.here hx rfl (hb hby at_257) rfl rfl (l' := #[.val (.int p1), .val (.int p2), .val (.int p3), .val (.int 2), .val (.int 1), .val (.int 0), .val (.ref b1), .val (.int (-1)), .val .null, .val .null]) rfl k) ?_
        refine oS (fun t k => XS.aload X231.here hx rfl (hb hby at_259) rfl rfl k) ?_
        refine oS (fun t k => XS.aload X231.here hx rfl (hb hby at_261) rfl rfl k) ?_
        refine oS (fun t k => Jvm.RoadKit.acmp (g := (mkF m 263 #[.val (.int p1), .val (.int p2), .val (.int p3), .val (.int 2), .val (.int 1), .val (.int 0), .val (.ref b1), .val (.int (-1)), .val .null, .val .null] [.null, .null])) X231 hx rfl rfl rfl (pc0 := 263) (pc' := 266) (same := true) rfl (hb hby at_263) rfl (decide_eq_true rfl) (by decide) (by decide) k) ?_
        show oG _ _ _ _ _ _ _ (T231.setTop (mkF m 266 #[.val (.int p1), .val (.int p2), .val (.int p3), .val (.int 2), .val (.int 1), .val (.int 0), .val (.ref b1), .val (.int (-1)), .val .null, .val .null] []))
        refine oS (fun t k => oIc li_1 X231.here hx rfl (hb hby at_266) k) ?_
        refine oS (fun t k => XS.goto X231.here hx rfl (pc0 := 267) (pc' := 271) rfl (hb hby at_267) (by decide) (by decide) k) ?_
        exact own_ret (v := some (.int 1)) X231 (fun h => by rw [Bd.returns] at h; cases h) Bd.notSynchronized (fun fs hr => retN X231 hx (t := .boolean) Bd.returns (by simp) (hb hby at_271) hr) (by rw [e231]; exact ⟨rfl, N231⟩) (by decide) (by decide)
      · rw [hs225]
        show oG _ _ _ _ _ _ _ (T73.setTop (mkF m 200 #[.val (.int p1), .val (.int p2), .val (.int p3), .val (.int 2), .val (.int 1), .val (.int 1), .val (.ref b1), .unset, .unset, .unset] []))
        refine oS (fun t k => XS.aload X73.here hx rfl (hb hby at_200) rfl rfl k) ?_
        refine oS (fun t k => XS.iloadN X73.here hx rfl (hb hby at_202) rfl k) ?_
        show oG _ _ _ _ _ _ _ (T73.setTop (mkF m 203 #[.val (.int p1), .val (.int p2), .val (.int p3), .val (.int 2), .val (.int 1), .val (.int 1), .val (.ref b1), .unset, .unset, .unset] [(.int 2), (.ref b1)]))
        refine oS (fun t k => oBp lb_9 X73.here hx rfl (hb hby at_203) k) ?_
        refine oS (S' := (T73.setTop (mkF m 206 #[.val (.int p1), .val (.int p2), .val (.int p3), .val (.int 2), .val (.int 1), .val (.int 1), .val (.ref b1), .unset, .unset, .unset] [(.int 18), (.ref b1)]))) (fun t k => XS.imul X73.here hx rfl (hb hby at_205) rfl (by rw [show (2 : Int32) * (9 : Int32) = (18 : Int32) from by decide]; exact k)) ?_
        refine oS (fun t k => XS.iload X73.here hx rfl (hb hby at_206) rfl k) ?_
        refine oS (fun t k => oIc li_3 X73.here hx rfl (hb hby at_208) k) ?_
        refine oS (S' := (T73.setTop (mkF m 210 #[.val (.int p1), .val (.int p2), .val (.int p3), .val (.int 2), .val (.int 1), .val (.int 1), .val (.ref b1), .unset, .unset, .unset] [(.int 3), (.int 18), (.ref b1)]))) (fun t k => XS.imul X73.here hx rfl (hb hby at_209) rfl (by rw [show (1 : Int32) * (3 : Int32) = (3 : Int32) from by decide]; exact k)) ?_
        refine oS (S' := (T73.setTop (mkF m 211 #[.val (.int p1), .val (.int p2), .val (.int p3), .val (.int 2), .val (.int 1), .val (.int 1), .val (.ref b1), .unset, .unset, .unset] [(.int 21), (.ref b1)]))) (fun t k => XS.iadd X73.here hx rfl (hb hby at_210) rfl (by rw [show (18 : Int32) + (3 : Int32) = (21 : Int32) from by decide]; exact k)) ?_
        refine oS (fun t k => XS.iload X73.here hx rfl (hb hby at_211) rfl k) ?_
        refine oS (S' := (T73.setTop (mkF m 214 #[.val (.int p1), .val (.int p2), .val (.int p3), .val (.int 2), .val (.int 1), .val (.int 1), .val (.ref b1), .unset, .unset, .unset] [(.int 22), (.ref b1)]))) (fun t k => XS.iadd X73.here hx rfl (hb hby at_213) rfl (by rw [show (21 : Int32) + (1 : Int32) = (22 : Int32) from by decide]; exact k)) ?_
        obtain ⟨cl232, Ar232, qk232, Sz232, Ng232, Ha232, Gf232⟩ := id V73
        have hin232 : ¬ ((22 : Int32) < 0 ∨ cl232.slots.size ≤ ((22 : Int32)).toNatClampNeg) := (inb_of Sz232 ⟨by decide, by decide⟩)
        have hat232 : cl232.slots[((22 : Int32)).toNatClampNeg]? = some (.int (-1)) := Ha232.at hin232 rfl
        refine oS (fun t k => X73.iaload hx (j := (22 : Int32)) (v := (.int (-1))) (by rw [e73]; exact Ar232.1) (State.isArrayOf_alike hZ.alike Ar232.2.1) Ar232.2.2 hin232 hat232 (g := (mkF m 214 #[.val (.int p1), .val (.int p2), .val (.int p3), .val (.int 2), .val (.int 1), .val (.int 1), .val (.ref b1), .unset, .unset, .unset] [(.int 22), (.ref b1)])) rfl rfl (hb hby at_214) t k) ?_
        refine oS (fun t k => XS.istore X73.here hx rfl (hb hby at_215) rfl (l' := #[.val (.int p1), .val (.int p2), .val (.int p3), .val (.int 2), .val (.int 1), .val (.int 1), .val (.ref b1), .val (.int (-1)), .unset, .unset]) rfl k) ?_
        show oG _ _ _ _ _ _ _ (T73.setTop (mkF m 217 #[.val (.int p1), .val (.int p2), .val (.int p3), .val (.int 2), .val (.int 1), .val (.int 1), .val (.ref b1), .val (.int (-1)), .unset, .unset] []))
        refine oS (fun t k => XS.iload X73.here hx rfl (hb hby at_217) rfl k) ?_
        refine oS (fun t k => XS.ifNo X73.here hx rfl (hb hby at_219) rfl ((if0 _ _).trans (tlt (by decide)).2.1) k) ?_
        refine oS (fun t k => XS.aconstNull X73.here hx rfl (hb hby at_222) k) ?_
        refine oS (fun t k => XS.goto X73.here hx rfl (pc0 := 223) (pc' := 231) rfl (hb hby at_223) (by decide) (by decide) k) ?_
        refine oS (fun t k => XS.astore X73.here hx rfl (hb hby at_231) rfl rfl (l' := #[.val (.int p1), .val (.int p2), .val (.int p3), .val (.int 2), .val (.int 1), .val (.int 1), .val (.ref b1), .val (.int (-1)), .val .null, .unset]) rfl k) ?_
        show oG _ _ _ _ _ _ _ (T73.setTop (mkF m 233 #[.val (.int p1), .val (.int p2), .val (.int p3), .val (.int 2), .val (.int 1), .val (.int 1), .val (.ref b1), .val (.int (-1)), .val .null, .unset] []))
        refine oS (fun t k => XS.iloadN X73.here hx rfl (hb hby at_233) rfl k) ?_
        obtain ⟨_, _, ⟨T233, L233, k233, n233⟩, -, X233, ⟨Lc233, hQ233, l233, y233, z233⟩, st233⟩ := Jvm.LawKit.callS X73 hx (y := mY0) hown (mvT hZ (oW hw 2 rfl)) (mvT hZ (oW hw 3 rfl)) (mvT hZ (oW hw 4 rfl)) (mvT hZ (oW hw 5 rfl)) (by decide) (backOf (W := 0) (rm_op_2 l Z a0 hw []  w h73 n0 O73 W ) hZ (oW hw 5 rfl) (oW hw 4 rfl) (by decide) (by decide)) (g := (mkF m 234 #[.val (.int p1), .val (.int p2), .val (.int p3), .val (.int 2), .val (.int 1), .val (.int 1), .val (.ref b1), .val (.int (-1)), .val .null, .unset] [(.int 2)])) rfl (by rw [hml]; rfl) (argsL := [(.int 2)]) (rest := []) (lenOf pd_5 rfl) rfl (by show 2 * 0 + _ ≤ _; exact Nat.le_of_eq rfl) (hb hby at_234) (fun _ _ => ⟨rfl, e73, (by decide : 1 + 0 ≤ _), (by decide : 36 + 0 ≤ _)⟩)
        dsimp only [Pt.U, Pt.locs, Pt.cells, Pt.slots] at X233 l233 y233 z233 st233 hQ233
        rw [l233, y233, z233] at X233
        clear l233 y233 z233
        obtain ⟨rfl, Nq233, e233⟩ := hQ233
        have N233 := Fr.app N73 Nq233
        refine oS (fun t k => st233 t k) ?_
        show oG _ _ _ _ _ _ _ (T233.setTop (mkF m 237 #[.val (.int p1), .val (.int p2), .val (.int p3), .val (.int 2), .val (.int 1), .val (.int 1), .val (.ref b1), .val (.int (-1)), .val .null, .unset] [(.ref (w 6))]))
        try clear st233 X73 e73
        try clear T73
        refine oS (fun t k => XS.iload X233.here hx rfl (hb hby at_237) rfl k) ?_
        obtain ⟨_, _, ⟨T234, L234, k234, n234⟩, -, X234, ⟨Lc234, hQ234, l234, y234, z234⟩, st234⟩ := Jvm.LawKit.callS X233 hx (y := mY2) hown (mvT hZ (oW hw 9 rfl)) (mvT hZ (oW hw 10 rfl)) (mvT hZ (oW hw 4 rfl)) (mvT hZ (oW hw 11 rfl)) (by decide) (backOf (W := 1) (rm_vt_1 l Z a0 hw []  w h73 n0 O73 W ) hZ (oW hw 11 rfl) (oW hw 4 rfl) (by decide) (by decide)) (g := (mkF m 239 #[.val (.int p1), .val (.int p2), .val (.int p3), .val (.int 2), .val (.int 1), .val (.int 1), .val (.ref b1), .val (.int (-1)), .val .null, .unset] [(.int 1), (.ref (w 6))])) rfl (by rw [hml]; rfl) (argsL := [(.int 1)]) (rest := [(.ref (w 6))]) (lenOf pd_4 rfl) rfl (by show 2 * 0 + _ ≤ _; exact Nat.le_of_eq rfl) (hb hby at_239) (fun _ _ => ⟨rfl, e233, (by decide : 1 + 0 ≤ _), (by decide : 36 + 0 ≤ _)⟩)
        dsimp only [Pt.U, Pt.locs, Pt.cells, Pt.slots] at X234 l234 y234 z234 st234 hQ234
        rw [l234, y234, z234] at X234
        clear l234 y234 z234
        obtain ⟨rfl, Nq234, e234⟩ := hQ234
        have N234 := Fr.app N233 Nq234
        refine oS (fun t k => st234 t k) ?_
        show oG _ _ _ _ _ _ _ (T234.setTop (mkF m 242 #[.val (.int p1), .val (.int p2), .val (.int p3), .val (.int 2), .val (.int 1), .val (.int 1), .val (.ref b1), .val (.int (-1)), .val .null, .unset] [(.ref (w 3)), (.ref (w 6))]))
        try clear st234 X233 e233
        refine oS (fun t k => XS.iload X234.here hx rfl (hb hby at_242) rfl k) ?_
        obtain ⟨_, _, ⟨T235, L235, k235, n235⟩, -, X235, ⟨Lc235, hQ235, l235, y235, z235⟩, st235⟩ := Jvm.LawKit.callS X234 hx (y := mY2) hown (mvT hZ (oW hw 9 rfl)) (mvT hZ (oW hw 10 rfl)) (mvT hZ (oW hw 4 rfl)) (mvT hZ (oW hw 11 rfl)) (by decide) (backOf (W := 2) (rm_vt_1 l Z a0 hw []  w h73 n0 O73 W ) hZ (oW hw 11 rfl) (oW hw 4 rfl) (by decide) (by decide)) (g := (mkF m 244 #[.val (.int p1), .val (.int p2), .val (.int p3), .val (.int 2), .val (.int 1), .val (.int 1), .val (.ref b1), .val (.int (-1)), .val .null, .unset] [(.int 1), (.ref (w 3)), (.ref (w 6))])) rfl (by rw [hml]; rfl) (argsL := [(.int 1)]) (rest := [(.ref (w 3)), (.ref (w 6))]) (lenOf pd_4 rfl) rfl (by show 2 * 0 + _ ≤ _; exact Nat.le_of_eq rfl) (hb hby at_244) (fun _ _ => ⟨rfl, e234, (by decide : 1 + 0 ≤ _), (by decide : 36 + 0 ≤ _)⟩)
        dsimp only [Pt.U, Pt.locs, Pt.cells, Pt.slots] at X235 l235 y235 z235 st235 hQ235
        rw [l235, y235, z235] at X235
        clear l235 y235 z235
        obtain ⟨rfl, Nq235, e235⟩ := hQ235
        have N235 := Fr.app N234 Nq235
        refine oS (fun t k => st235 t k) ?_
        show oG _ _ _ _ _ _ _ (T235.setTop (mkF m 247 #[.val (.int p1), .val (.int p2), .val (.int p3), .val (.int 2), .val (.int 1), .val (.int 1), .val (.ref b1), .val (.int (-1)), .val .null, .unset] [(.ref (w 3)), (.ref (w 3)), (.ref (w 6))]))
        try clear st235 X234 e234
        obtain ⟨cq236, kq236, q236a, q236b, q236c⟩ := isOf hZ e235 ((wE6 W).ext O73.2)
        obtain ⟨_, _, ⟨T236, L236, k236, n236⟩, -, X236, ⟨Lc236, hQ236, l236, y236, z236⟩, st236⟩ := X235.virtualBack hx (y := mY8) (z := mY8) hown (mvT hZ (oW hw 17 rfl)) (mvT hZ (oW hw 18 rfl)) (notFace_of_selects (args := #[]) (mvT hZ (oW hw 20 rfl))) (mvT hZ (oW hw 20 rfl)) (mvT hZ (oW hw 19 rfl)) (by decide) (backOf (W := 0) (rm_ty_211 l Z a0 hw []  w h73 n0 O73 W ) hZ (oW hw 21 rfl) (oW hw 7 rfl) (by decide) (by decide)) q236a q236c (g := (mkF m 247 #[.val (.int p1), .val (.int p2), .val (.int p3), .val (.int 2), .val (.int 1), .val (.int 1), .val (.ref b1), .val (.int (-1)), .val .null, .unset] [(.ref (w 3)), (.ref (w 3)), (.ref (w 6))])) rfl (by rw [hml]; rfl) (Steps.refl _) (argsL := [(.ref (w 3)), (.ref (w 3))]) (rest := []) (lenOf pd_6 rfl) rfl (by show 2 * 0 + _ ≤ _; exact Nat.le_of_eq rfl) (hb hby at_247) (fun _ _ => ⟨rfl, e235, (by decide : 1 + 0 ≤ _), (by decide : 36 + 0 ≤ _)⟩)
        dsimp only [Pt.U, Pt.locs, Pt.cells, Pt.slots] at X236 l236 y236 z236 st236 hQ236
        rw [l236, y236, z236] at X236
        clear l236 y236 z236
        obtain ⟨rfl, Nq236, e236⟩ := hQ236
        have N236 := Fr.app N235 Nq236
        refine oS (fun t k => st236.trans k) ?_
        show oG _ _ _ _ _ _ _ (T236.setTop (mkF m 250 #[.val (.int p1), .val (.int p2), .val (.int p3), .val (.int 2), .val (.int 1), .val (.int 1), .val (.ref b1), .val (.int (-1)), .val .null, .unset] [(.ref (w 7))]))
        try clear st236 X235 e235
        refine oS (fun t k => XS.aconstNull X236.here hx rfl (hb hby at_250) k) ?_
        obtain ⟨cq237, kq237, q237a, q237b, q237c⟩ := isOf hZ e236 ((wE7 W).ext O73.2)
        obtain ⟨_, _, ⟨T237, L237, k237, n237⟩, -, X237, ⟨Lc237, hQ237, l237, y237, z237⟩, st237⟩ := X236.virtualBack hx (y := mY7) (z := mY7) hown (mvT hZ (oW hw 39 rfl)) (mvT hZ (oW hw 40 rfl)) (notFace_of_selects (args := #[]) (mvT hZ (oW hw 42 rfl))) (mvT hZ (oW hw 42 rfl)) (mvT hZ (oW hw 41 rfl)) (by decide) (backOf (W := 0) (rm_oe0 l Z a0 hw [] (w 7)  h73 n0 O73  ((wF7_value W).ext O73.2)) hZ (oW hw 43 rfl) (oW hw 36 rfl) (by decide) (by decide)) q237a q237c (g := (mkF m 251 #[.val (.int p1), .val (.int p2), .val (.int p3), .val (.int 2), .val (.int 1), .val (.int 1), .val (.ref b1), .val (.int (-1)), .val .null, .unset] [.null, (.ref (w 7))])) rfl (by rw [hml]; rfl) (Steps.refl _) (argsL := [.null]) (rest := []) (lenOf pd_0 rfl) rfl (by show 2 * 0 + _ ≤ _; exact Nat.le_of_eq rfl) (hb hby at_251) (fun _ _ => ⟨rfl, e236, (by decide : 1 + 0 ≤ _), (by decide : 36 + 0 ≤ _)⟩)
        dsimp only [Pt.U, Pt.locs, Pt.cells, Pt.slots] at X237 l237 y237 z237 st237 hQ237
        rw [l237, y237, z237] at X237
        clear l237 y237 z237
        obtain ⟨rfl, Nq237, e237⟩ := hQ237
        have N237 := Fr.app N236 Nq237
        refine oS (fun t k => st237.trans k) ?_
        show oG _ _ _ _ _ _ _ (T237.setTop (mkF m 254 #[.val (.int p1), .val (.int p2), .val (.int p3), .val (.int 2), .val (.int 1), .val (.int 1), .val (.ref b1), .val (.int (-1)), .val .null, .unset] [.null]))
        try clear st237 X236 e236
        refine oS (fun t k => X237.checkcastNull hx (g := (mkF m 254 #[.val (.int p1), .val (.int p2), .val (.int p3), .val (.int 2), .val (.int 1), .val (.int 1), .val (.ref b1), .val (.int (-1)), .val .null, .unset] [.null])) rfl rfl (hb hby at_254) t k) ?_
        refine oS (fun t k => XS.astore X237.here hx rfl (hb hby at_257) rfl rfl (l' := #[.val (.int p1), .val (.int p2), .val (.int p3), .val (.int 2), .val (.int 1), .val (.int 1), .val (.ref b1), .val (.int (-1)), .val .null, .val .null]) rfl k) ?_
        refine oS (fun t k => XS.aload X237.here hx rfl (hb hby at_259) rfl rfl k) ?_
        refine oS (fun t k => XS.aload X237.here hx rfl (hb hby at_261) rfl rfl k) ?_
        refine oS (fun t k => Jvm.RoadKit.acmp (g := (mkF m 263 #[.val (.int p1), .val (.int p2), .val (.int p3), .val (.int 2), .val (.int 1), .val (.int 1), .val (.ref b1), .val (.int (-1)), .val .null, .val .null] [.null, .null])) X237 hx rfl rfl rfl (pc0 := 263) (pc' := 266) (same := true) rfl (hb hby at_263) rfl (decide_eq_true rfl) (by decide) (by decide) k) ?_
        show oG _ _ _ _ _ _ _ (T237.setTop (mkF m 266 #[.val (.int p1), .val (.int p2), .val (.int p3), .val (.int 2), .val (.int 1), .val (.int 1), .val (.ref b1), .val (.int (-1)), .val .null, .val .null] []))
        refine oS (fun t k => oIc li_1 X237.here hx rfl (hb hby at_266) k) ?_
        refine oS (fun t k => XS.goto X237.here hx rfl (pc0 := 267) (pc' := 271) rfl (hb hby at_267) (by decide) (by decide) k) ?_
        exact own_ret (v := some (.int 1)) X237 (fun h => by rw [Bd.returns] at h; cases h) Bd.notSynchronized (fun fs hr => retN X237 hx (t := .boolean) Bd.returns (by simp) (hb hby at_271) hr) (by rw [e237]; exact ⟨rfl, N237⟩) (by decide) (by decide)
      · rw [hs225]
        show oG _ _ _ _ _ _ _ (T73.setTop (mkF m 200 #[.val (.int p1), .val (.int p2), .val (.int p3), .val (.int 2), .val (.int 1), .val (.int 2), .val (.ref b1), .unset, .unset, .unset] []))
        refine oS (fun t k => XS.aload X73.here hx rfl (hb hby at_200) rfl rfl k) ?_
        refine oS (fun t k => XS.iloadN X73.here hx rfl (hb hby at_202) rfl k) ?_
        show oG _ _ _ _ _ _ _ (T73.setTop (mkF m 203 #[.val (.int p1), .val (.int p2), .val (.int p3), .val (.int 2), .val (.int 1), .val (.int 2), .val (.ref b1), .unset, .unset, .unset] [(.int 2), (.ref b1)]))
        refine oS (fun t k => oBp lb_9 X73.here hx rfl (hb hby at_203) k) ?_
        refine oS (S' := (T73.setTop (mkF m 206 #[.val (.int p1), .val (.int p2), .val (.int p3), .val (.int 2), .val (.int 1), .val (.int 2), .val (.ref b1), .unset, .unset, .unset] [(.int 18), (.ref b1)]))) (fun t k => XS.imul X73.here hx rfl (hb hby at_205) rfl (by rw [show (2 : Int32) * (9 : Int32) = (18 : Int32) from by decide]; exact k)) ?_
        refine oS (fun t k => XS.iload X73.here hx rfl (hb hby at_206) rfl k) ?_
        refine oS (fun t k => oIc li_3 X73.here hx rfl (hb hby at_208) k) ?_
        refine oS (S' := (T73.setTop (mkF m 210 #[.val (.int p1), .val (.int p2), .val (.int p3), .val (.int 2), .val (.int 1), .val (.int 2), .val (.ref b1), .unset, .unset, .unset] [(.int 3), (.int 18), (.ref b1)]))) (fun t k => XS.imul X73.here hx rfl (hb hby at_209) rfl (by rw [show (1 : Int32) * (3 : Int32) = (3 : Int32) from by decide]; exact k)) ?_
        refine oS (S' := (T73.setTop (mkF m 211 #[.val (.int p1), .val (.int p2), .val (.int p3), .val (.int 2), .val (.int 1), .val (.int 2), .val (.ref b1), .unset, .unset, .unset] [(.int 21), (.ref b1)]))) (fun t k => XS.iadd X73.here hx rfl (hb hby at_210) rfl (by rw [show (18 : Int32) + (3 : Int32) = (21 : Int32) from by decide]; exact k)) ?_
        refine oS (fun t k => XS.iload X73.here hx rfl (hb hby at_211) rfl k) ?_
        refine oS (S' := (T73.setTop (mkF m 214 #[.val (.int p1), .val (.int p2), .val (.int p3), .val (.int 2), .val (.int 1), .val (.int 2), .val (.ref b1), .unset, .unset, .unset] [(.int 23), (.ref b1)]))) (fun t k => XS.iadd X73.here hx rfl (hb hby at_213) rfl (by rw [show (21 : Int32) + (2 : Int32) = (23 : Int32) from by decide]; exact k)) ?_
        obtain ⟨cl238, Ar238, qk238, Sz238, Ng238, Ha238, Gf238⟩ := id V73
        have hin238 : ¬ ((23 : Int32) < 0 ∨ cl238.slots.size ≤ ((23 : Int32)).toNatClampNeg) := (inb_of Sz238 ⟨by decide, by decide⟩)
        have hat238 : cl238.slots[((23 : Int32)).toNatClampNeg]? = some (.int (-1)) := Ha238.at hin238 rfl
        refine oS (fun t k => X73.iaload hx (j := (23 : Int32)) (v := (.int (-1))) (by rw [e73]; exact Ar238.1) (State.isArrayOf_alike hZ.alike Ar238.2.1) Ar238.2.2 hin238 hat238 (g := (mkF m 214 #[.val (.int p1), .val (.int p2), .val (.int p3), .val (.int 2), .val (.int 1), .val (.int 2), .val (.ref b1), .unset, .unset, .unset] [(.int 23), (.ref b1)])) rfl rfl (hb hby at_214) t k) ?_
        refine oS (fun t k => XS.istore X73.here hx rfl (hb hby at_215) rfl (l' := #[.val (.int p1), .val (.int p2), .val (.int p3), .val (.int 2), .val (.int 1), .val (.int 2), .val (.ref b1), .val (.int (-1)), .unset, .unset]) rfl k) ?_
        show oG _ _ _ _ _ _ _ (T73.setTop (mkF m 217 #[.val (.int p1), .val (.int p2), .val (.int p3), .val (.int 2), .val (.int 1), .val (.int 2), .val (.ref b1), .val (.int (-1)), .unset, .unset] []))
        refine oS (fun t k => XS.iload X73.here hx rfl (hb hby at_217) rfl k) ?_
        refine oS (fun t k => XS.ifNo X73.here hx rfl (hb hby at_219) rfl ((if0 _ _).trans (tlt (by decide)).2.1) k) ?_
        refine oS (fun t k => XS.aconstNull X73.here hx rfl (hb hby at_222) k) ?_
        refine oS (fun t k => XS.goto X73.here hx rfl (pc0 := 223) (pc' := 231) rfl (hb hby at_223) (by decide) (by decide) k) ?_
        refine oS (fun t k => XS.astore X73.here hx rfl (hb hby at_231) rfl rfl (l' := #[.val (.int p1), .val (.int p2), .val (.int p3), .val (.int 2), .val (.int 1), .val (.int 2), .val (.ref b1), .val (.int (-1)), .val .null, .unset]) rfl k) ?_
        show oG _ _ _ _ _ _ _ (T73.setTop (mkF m 233 #[.val (.int p1), .val (.int p2), .val (.int p3), .val (.int 2), .val (.int 1), .val (.int 2), .val (.ref b1), .val (.int (-1)), .val .null, .unset] []))
        refine oS (fun t k => XS.iloadN X73.here hx rfl (hb hby at_233) rfl k) ?_
        obtain ⟨_, _, ⟨T239, L239, k239, n239⟩, -, X239, ⟨Lc239, hQ239, l239, y239, z239⟩, st239⟩ := Jvm.LawKit.callS X73 hx (y := mY0) hown (mvT hZ (oW hw 2 rfl)) (mvT hZ (oW hw 3 rfl)) (mvT hZ (oW hw 4 rfl)) (mvT hZ (oW hw 5 rfl)) (by decide) (backOf (W := 0) (rm_op_2 l Z a0 hw []  w h73 n0 O73 W ) hZ (oW hw 5 rfl) (oW hw 4 rfl) (by decide) (by decide)) (g := (mkF m 234 #[.val (.int p1), .val (.int p2), .val (.int p3), .val (.int 2), .val (.int 1), .val (.int 2), .val (.ref b1), .val (.int (-1)), .val .null, .unset] [(.int 2)])) rfl (by rw [hml]; rfl) (argsL := [(.int 2)]) (rest := []) (lenOf pd_5 rfl) rfl (by show 2 * 0 + _ ≤ _; exact Nat.le_of_eq rfl) (hb hby at_234) (fun _ _ => ⟨rfl, e73, (by decide : 1 + 0 ≤ _), (by decide : 36 + 0 ≤ _)⟩)
        dsimp only [Pt.U, Pt.locs, Pt.cells, Pt.slots] at X239 l239 y239 z239 st239 hQ239
        rw [l239, y239, z239] at X239
        clear l239 y239 z239
        obtain ⟨rfl, Nq239, e239⟩ := hQ239
        have N239 := Fr.app N73 Nq239
        refine oS (fun t k => st239 t k) ?_
        show oG _ _ _ _ _ _ _ (T239.setTop (mkF m 237 #[.val (.int p1), .val (.int p2), .val (.int p3), .val (.int 2), .val (.int 1), .val (.int 2), .val (.ref b1), .val (.int (-1)), .val .null, .unset] [(.ref (w 6))]))
        try clear st239 X73 e73
        try clear T73
        refine oS (fun t k => XS.iload X239.here hx rfl (hb hby at_237) rfl k) ?_
        obtain ⟨_, _, ⟨T240, L240, k240, n240⟩, -, X240, ⟨Lc240, hQ240, l240, y240, z240⟩, st240⟩ := Jvm.LawKit.callS X239 hx (y := mY2) hown (mvT hZ (oW hw 9 rfl)) (mvT hZ (oW hw 10 rfl)) (mvT hZ (oW hw 4 rfl)) (mvT hZ (oW hw 11 rfl)) (by decide) (backOf (W := 1) (rm_vt_1 l Z a0 hw []  w h73 n0 O73 W ) hZ (oW hw 11 rfl) (oW hw 4 rfl) (by decide) (by decide)) (g := (mkF m 239 #[.val (.int p1), .val (.int p2), .val (.int p3), .val (.int 2), .val (.int 1), .val (.int 2), .val (.ref b1), .val (.int (-1)), .val .null, .unset] [(.int 1), (.ref (w 6))])) rfl (by rw [hml]; rfl) (argsL := [(.int 1)]) (rest := [(.ref (w 6))]) (lenOf pd_4 rfl) rfl (by show 2 * 0 + _ ≤ _; exact Nat.le_of_eq rfl) (hb hby at_239) (fun _ _ => ⟨rfl, e239, (by decide : 1 + 0 ≤ _), (by decide : 36 + 0 ≤ _)⟩)
        dsimp only [Pt.U, Pt.locs, Pt.cells, Pt.slots] at X240 l240 y240 z240 st240 hQ240
        rw [l240, y240, z240] at X240
        clear l240 y240 z240
        obtain ⟨rfl, Nq240, e240⟩ := hQ240
        have N240 := Fr.app N239 Nq240
        refine oS (fun t k => st240 t k) ?_
        show oG _ _ _ _ _ _ _ (T240.setTop (mkF m 242 #[.val (.int p1), .val (.int p2), .val (.int p3), .val (.int 2), .val (.int 1), .val (.int 2), .val (.ref b1), .val (.int (-1)), .val .null, .unset] [(.ref (w 3)), (.ref (w 6))]))
        try clear st240 X239 e239
        refine oS (fun t k => XS.iload X240.here hx rfl (hb hby at_242) rfl k) ?_
        obtain ⟨_, _, ⟨T241, L241, k241, n241⟩, -, X241, ⟨Lc241, hQ241, l241, y241, z241⟩, st241⟩ := Jvm.LawKit.callS X240 hx (y := mY2) hown (mvT hZ (oW hw 9 rfl)) (mvT hZ (oW hw 10 rfl)) (mvT hZ (oW hw 4 rfl)) (mvT hZ (oW hw 11 rfl)) (by decide) (backOf (W := 2) (rm_vt_2 l Z a0 hw []  w h73 n0 O73 W ) hZ (oW hw 11 rfl) (oW hw 4 rfl) (by decide) (by decide)) (g := (mkF m 244 #[.val (.int p1), .val (.int p2), .val (.int p3), .val (.int 2), .val (.int 1), .val (.int 2), .val (.ref b1), .val (.int (-1)), .val .null, .unset] [(.int 2), (.ref (w 3)), (.ref (w 6))])) rfl (by rw [hml]; rfl) (argsL := [(.int 2)]) (rest := [(.ref (w 3)), (.ref (w 6))]) (lenOf pd_4 rfl) rfl (by show 2 * 0 + _ ≤ _; exact Nat.le_of_eq rfl) (hb hby at_244) (fun _ _ => ⟨rfl, e240, (by decide : 1 + 0 ≤ _), (by decide : 36 + 0 ≤ _)⟩)
        dsimp only [Pt.U, Pt.locs, Pt.cells, Pt.slots] at X241 l241 y241 z241 st241 hQ241
        rw [l241, y241, z241] at X241
        clear l241 y241 z241
        obtain ⟨rfl, Nq241, e241⟩ := hQ241
        have N241 := Fr.app N240 Nq241
        refine oS (fun t k => st241 t k) ?_
        show oG _ _ _ _ _ _ _ (T241.setTop (mkF m 247 #[.val (.int p1), .val (.int p2), .val (.int p3), .val (.int 2), .val (.int 1), .val (.int 2), .val (.ref b1), .val (.int (-1)), .val .null, .unset] [(.ref (w 2)), (.ref (w 3)), (.ref (w 6))]))
        try clear st241 X240 e240
        obtain ⟨cq242, kq242, q242a, q242b, q242c⟩ := isOf hZ e241 ((wE6 W).ext O73.2)
        obtain ⟨_, _, ⟨T242, L242, k242, n242⟩, -, X242, ⟨Lc242, hQ242, l242, y242, z242⟩, st242⟩ := X241.virtualBack hx (y := mY8) (z := mY8) hown (mvT hZ (oW hw 17 rfl)) (mvT hZ (oW hw 18 rfl)) (notFace_of_selects (args := #[]) (mvT hZ (oW hw 20 rfl))) (mvT hZ (oW hw 20 rfl)) (mvT hZ (oW hw 19 rfl)) (by decide) (backOf (W := 0) (rm_ty_212 l Z a0 hw []  w h73 n0 O73 W ) hZ (oW hw 21 rfl) (oW hw 7 rfl) (by decide) (by decide)) q242a q242c (g := (mkF m 247 #[.val (.int p1), .val (.int p2), .val (.int p3), .val (.int 2), .val (.int 1), .val (.int 2), .val (.ref b1), .val (.int (-1)), .val .null, .unset] [(.ref (w 2)), (.ref (w 3)), (.ref (w 6))])) rfl (by rw [hml]; rfl) (Steps.refl _) (argsL := [(.ref (w 3)), (.ref (w 2))]) (rest := []) (lenOf pd_6 rfl) rfl (by show 2 * 0 + _ ≤ _; exact Nat.le_of_eq rfl) (hb hby at_247) (fun _ _ => ⟨rfl, e241, (by decide : 1 + 0 ≤ _), (by decide : 36 + 0 ≤ _)⟩)
        dsimp only [Pt.U, Pt.locs, Pt.cells, Pt.slots] at X242 l242 y242 z242 st242 hQ242
        rw [l242, y242, z242] at X242
        clear l242 y242 z242
        obtain ⟨rfl, Nq242, e242⟩ := hQ242
        have N242 := Fr.app N241 Nq242
        refine oS (fun t k => st242.trans k) ?_
        show oG _ _ _ _ _ _ _ (T242.setTop (mkF m 250 #[.val (.int p1), .val (.int p2), .val (.int p3), .val (.int 2), .val (.int 1), .val (.int 2), .val (.ref b1), .val (.int (-1)), .val .null, .unset] [(.ref (w 7))]))
        try clear st242 X241 e241
        refine oS (fun t k => XS.aconstNull X242.here hx rfl (hb hby at_250) k) ?_
        obtain ⟨cq243, kq243, q243a, q243b, q243c⟩ := isOf hZ e242 ((wE7 W).ext O73.2)
        obtain ⟨_, _, ⟨T243, L243, k243, n243⟩, -, X243, ⟨Lc243, hQ243, l243, y243, z243⟩, st243⟩ := X242.virtualBack hx (y := mY7) (z := mY7) hown (mvT hZ (oW hw 39 rfl)) (mvT hZ (oW hw 40 rfl)) (notFace_of_selects (args := #[]) (mvT hZ (oW hw 42 rfl))) (mvT hZ (oW hw 42 rfl)) (mvT hZ (oW hw 41 rfl)) (by decide) (backOf (W := 0) (rm_oe0 l Z a0 hw [] (w 7)  h73 n0 O73  ((wF7_value W).ext O73.2)) hZ (oW hw 43 rfl) (oW hw 36 rfl) (by decide) (by decide)) q243a q243c (g := (mkF m 251 #[.val (.int p1), .val (.int p2), .val (.int p3), .val (.int 2), .val (.int 1), .val (.int 2), .val (.ref b1), .val (.int (-1)), .val .null, .unset] [.null, (.ref (w 7))])) rfl (by rw [hml]; rfl) (Steps.refl _) (argsL := [.null]) (rest := []) (lenOf pd_0 rfl) rfl (by show 2 * 0 + _ ≤ _; exact Nat.le_of_eq rfl) (hb hby at_251) (fun _ _ => ⟨rfl, e242, (by decide : 1 + 0 ≤ _), (by decide : 36 + 0 ≤ _)⟩)
        dsimp only [Pt.U, Pt.locs, Pt.cells, Pt.slots] at X243 l243 y243 z243 st243 hQ243
        rw [l243, y243, z243] at X243
        clear l243 y243 z243
        obtain ⟨rfl, Nq243, e243⟩ := hQ243
        have N243 := Fr.app N242 Nq243
        refine oS (fun t k => st243.trans k) ?_
        show oG _ _ _ _ _ _ _ (T243.setTop (mkF m 254 #[.val (.int p1), .val (.int p2), .val (.int p3), .val (.int 2), .val (.int 1), .val (.int 2), .val (.ref b1), .val (.int (-1)), .val .null, .unset] [.null]))
        try clear st243 X242 e242
        refine oS (fun t k => X243.checkcastNull hx (g := (mkF m 254 #[.val (.int p1), .val (.int p2), .val (.int p3), .val (.int 2), .val (.int 1), .val (.int 2), .val (.ref b1), .val (.int (-1)), .val .null, .unset] [.null])) rfl rfl (hb hby at_254) t k) ?_
        refine oS (fun t k => XS.astore X243.here hx rfl (hb hby at_257) rfl rfl (l' := #[.val (.int p1), .val (.int p2), .val (.int p3), .val (.int 2), .val (.int 1), .val (.int 2), .val (.ref b1), .val (.int (-1)), .val .null, .val .null]) rfl k) ?_
        refine oS (fun t k => XS.aload X243.here hx rfl (hb hby at_259) rfl rfl k) ?_
        refine oS (fun t k => XS.aload X243.here hx rfl (hb hby at_261) rfl rfl k) ?_
        refine oS (fun t k => Jvm.RoadKit.acmp (g := (mkF m 263 #[.val (.int p1), .val (.int p2), .val (.int p3), .val (.int 2), .val (.int 1), .val (.int 2), .val (.ref b1), .val (.int (-1)), .val .null, .val .null] [.null, .null])) X243 hx rfl rfl rfl (pc0 := 263) (pc' := 266) (same := true) rfl (hb hby at_263) rfl (decide_eq_true rfl) (by decide) (by decide) k) ?_
        show oG _ _ _ _ _ _ _ (T243.setTop (mkF m 266 #[.val (.int p1), .val (.int p2), .val (.int p3), .val (.int 2), .val (.int 1), .val (.int 2), .val (.ref b1), .val (.int (-1)), .val .null, .val .null] []))
        refine oS (fun t k => oIc li_1 X243.here hx rfl (hb hby at_266) k) ?_
        refine oS (fun t k => XS.goto X243.here hx rfl (pc0 := 267) (pc' := 271) rfl (hb hby at_267) (by decide) (by decide) k) ?_
        exact own_ret (v := some (.int 1)) X243 (fun h => by rw [Bd.returns] at h; cases h) Bd.notSynchronized (fun fs hr => retN X243 hx (t := .boolean) Bd.returns (by simp) (hb hby at_271) hr) (by rw [e243]; exact ⟨rfl, N243⟩) (by decide) (by decide)
    · rw [hs203]
      show oG _ _ _ _ _ _ _ (T73.setTop (mkF m 200 #[.val (.int p1), .val (.int p2), .val (.int p3), .val (.int 2), .val (.int 2), .val (.int ((p3 &&& (2147483647 : Int32)) % (3 : Int32))), .val (.ref b1), .unset, .unset, .unset] []))
      show oG _ _ _ _ _ _ _ (T73.setTop (mkF m 200 #[.val (.int p1), .val (.int p2), .val (.int p3), .val (.int 2), .val (.int 2), .val (.int ((p3 &&& (2147483647 : Int32)) % (3 : Int32))), .val (.ref b1), .unset, .unset, .unset] []))
      rcases own_three p3 with hs244 | hs244 | hs244
      · rw [hs244]
        show oG _ _ _ _ _ _ _ (T73.setTop (mkF m 200 #[.val (.int p1), .val (.int p2), .val (.int p3), .val (.int 2), .val (.int 2), .val (.int 0), .val (.ref b1), .unset, .unset, .unset] []))
        refine oS (fun t k => XS.aload X73.here hx rfl (hb hby at_200) rfl rfl k) ?_
        refine oS (fun t k => XS.iloadN X73.here hx rfl (hb hby at_202) rfl k) ?_
        show oG _ _ _ _ _ _ _ (T73.setTop (mkF m 203 #[.val (.int p1), .val (.int p2), .val (.int p3), .val (.int 2), .val (.int 2), .val (.int 0), .val (.ref b1), .unset, .unset, .unset] [(.int 2), (.ref b1)]))
        refine oS (fun t k => oBp lb_9 X73.here hx rfl (hb hby at_203) k) ?_
        refine oS (S' := (T73.setTop (mkF m 206 #[.val (.int p1), .val (.int p2), .val (.int p3), .val (.int 2), .val (.int 2), .val (.int 0), .val (.ref b1), .unset, .unset, .unset] [(.int 18), (.ref b1)]))) (fun t k => XS.imul X73.here hx rfl (hb hby at_205) rfl (by rw [show (2 : Int32) * (9 : Int32) = (18 : Int32) from by decide]; exact k)) ?_
        refine oS (fun t k => XS.iload X73.here hx rfl (hb hby at_206) rfl k) ?_
        refine oS (fun t k => oIc li_3 X73.here hx rfl (hb hby at_208) k) ?_
        refine oS (S' := (T73.setTop (mkF m 210 #[.val (.int p1), .val (.int p2), .val (.int p3), .val (.int 2), .val (.int 2), .val (.int 0), .val (.ref b1), .unset, .unset, .unset] [(.int 6), (.int 18), (.ref b1)]))) (fun t k => XS.imul X73.here hx rfl (hb hby at_209) rfl (by rw [show (2 : Int32) * (3 : Int32) = (6 : Int32) from by decide]; exact k)) ?_
        refine oS (S' := (T73.setTop (mkF m 211 #[.val (.int p1), .val (.int p2), .val (.int p3), .val (.int 2), .val (.int 2), .val (.int 0), .val (.ref b1), .unset, .unset, .unset] [(.int 24), (.ref b1)]))) (fun t k => XS.iadd X73.here hx rfl (hb hby at_210) rfl (by rw [show (18 : Int32) + (6 : Int32) = (24 : Int32) from by decide]; exact k)) ?_
        refine oS (fun t k => XS.iload X73.here hx rfl (hb hby at_211) rfl k) ?_
        refine oS (S' := (T73.setTop (mkF m 214 #[.val (.int p1), .val (.int p2), .val (.int p3), .val (.int 2), .val (.int 2), .val (.int 0), .val (.ref b1), .unset, .unset, .unset] [(.int 24), (.ref b1)]))) (fun t k => XS.iadd X73.here hx rfl (hb hby at_213) rfl (by rw [show (24 : Int32) + (0 : Int32) = (24 : Int32) from by decide]; exact k)) ?_
        obtain ⟨cl245, Ar245, qk245, Sz245, Ng245, Ha245, Gf245⟩ := id V73
        have hin245 : ¬ ((24 : Int32) < 0 ∨ cl245.slots.size ≤ ((24 : Int32)).toNatClampNeg) := (inb_of Sz245 ⟨by decide, by decide⟩)
        have hat245 : cl245.slots[((24 : Int32)).toNatClampNeg]? = some (.int (-1)) := Ha245.at hin245 rfl
        refine oS (fun t k => X73.iaload hx (j := (24 : Int32)) (v := (.int (-1))) (by rw [e73]; exact Ar245.1) (State.isArrayOf_alike hZ.alike Ar245.2.1) Ar245.2.2 hin245 hat245 (g := (mkF m 214 #[.val (.int p1), .val (.int p2), .val (.int p3), .val (.int 2), .val (.int 2), .val (.int 0), .val (.ref b1), .unset, .unset, .unset] [(.int 24), (.ref b1)])) rfl rfl (hb hby at_214) t k) ?_
        refine oS (fun t k => XS.istore X73.here hx rfl (hb hby at_215) rfl (l' := #[.val (.int p1), .val (.int p2), .val (.int p3), .val (.int 2), .val (.int 2), .val (.int 0), .val (.ref b1), .val (.int (-1)), .unset, .unset]) rfl k) ?_
        show oG _ _ _ _ _ _ _ (T73.setTop (mkF m 217 #[.val (.int p1), .val (.int p2), .val (.int p3), .val (.int 2), .val (.int 2), .val (.int 0), .val (.ref b1), .val (.int (-1)), .unset, .unset] []))
        refine oS (fun t k => XS.iload X73.here hx rfl (hb hby at_217) rfl k) ?_
        refine oS (fun t k => XS.ifNo X73.here hx rfl (hb hby at_219) rfl ((if0 _ _).trans (tlt (by decide)).2.1) k) ?_
        refine oS (fun t k => XS.aconstNull X73.here hx rfl (hb hby at_222) k) ?_
        refine oS (fun t k => XS.goto X73.here hx rfl (pc0 := 223) (pc' := 231) rfl (hb hby at_223) (by decide) (by decide) k) ?_
        refine oS (fun t k => XS.astore X73.here hx rfl (hb hby at_231) rfl rfl (l' := #[.val (.int p1), .val (.int p2), .val (.int p3), .val (.int 2), .val (.int 2), .val (.int 0), .val (.ref b1), .val (.int (-1)), .val .null, .unset]) rfl k) ?_
        show oG _ _ _ _ _ _ _ (T73.setTop (mkF m 233 #[.val (.int p1), .val (.int p2), .val (.int p3), .val (.int 2), .val (.int 2), .val (.int 0), .val (.ref b1), .val (.int (-1)), .val .null, .unset] []))
        refine oS (fun t k => XS.iloadN X73.here hx rfl (hb hby at_233) rfl k) ?_
        obtain ⟨_, _, ⟨T246, L246, k246, n246⟩, -, X246, ⟨Lc246, hQ246, l246, y246, z246⟩, st246⟩ := Jvm.LawKit.callS X73 hx (y := mY0) hown (mvT hZ (oW hw 2 rfl)) (mvT hZ (oW hw 3 rfl)) (mvT hZ (oW hw 4 rfl)) (mvT hZ (oW hw 5 rfl)) (by decide) (backOf (W := 0) (rm_op_2 l Z a0 hw []  w h73 n0 O73 W ) hZ (oW hw 5 rfl) (oW hw 4 rfl) (by decide) (by decide)) (g := (mkF m 234 #[.val (.int p1), .val (.int p2), .val (.int p3), .val (.int 2), .val (.int 2), .val (.int 0), .val (.ref b1), .val (.int (-1)), .val .null, .unset] [(.int 2)])) rfl (by rw [hml]; rfl) (argsL := [(.int 2)]) (rest := []) (lenOf pd_5 rfl) rfl (by show 2 * 0 + _ ≤ _; exact Nat.le_of_eq rfl) (hb hby at_234) (fun _ _ => ⟨rfl, e73, (by decide : 1 + 0 ≤ _), (by decide : 36 + 0 ≤ _)⟩)
        dsimp only [Pt.U, Pt.locs, Pt.cells, Pt.slots] at X246 l246 y246 z246 st246 hQ246
        rw [l246, y246, z246] at X246
        clear l246 y246 z246
        obtain ⟨rfl, Nq246, e246⟩ := hQ246
        have N246 := Fr.app N73 Nq246
        refine oS (fun t k => st246 t k) ?_
        show oG _ _ _ _ _ _ _ (T246.setTop (mkF m 237 #[.val (.int p1), .val (.int p2), .val (.int p3), .val (.int 2), .val (.int 2), .val (.int 0), .val (.ref b1), .val (.int (-1)), .val .null, .unset] [(.ref (w 6))]))
        try clear st246 X73 e73
        try clear T73
        refine oS (fun t k => XS.iload X246.here hx rfl (hb hby at_237) rfl k) ?_
        obtain ⟨_, _, ⟨T247, L247, k247, n247⟩, -, X247, ⟨Lc247, hQ247, l247, y247, z247⟩, st247⟩ := Jvm.LawKit.callS X246 hx (y := mY2) hown (mvT hZ (oW hw 9 rfl)) (mvT hZ (oW hw 10 rfl)) (mvT hZ (oW hw 4 rfl)) (mvT hZ (oW hw 11 rfl)) (by decide) (backOf (W := 1) (rm_vt_2 l Z a0 hw []  w h73 n0 O73 W ) hZ (oW hw 11 rfl) (oW hw 4 rfl) (by decide) (by decide)) (g := (mkF m 239 #[.val (.int p1), .val (.int p2), .val (.int p3), .val (.int 2), .val (.int 2), .val (.int 0), .val (.ref b1), .val (.int (-1)), .val .null, .unset] [(.int 2), (.ref (w 6))])) rfl (by rw [hml]; rfl) (argsL := [(.int 2)]) (rest := [(.ref (w 6))]) (lenOf pd_4 rfl) rfl (by show 2 * 0 + _ ≤ _; exact Nat.le_of_eq rfl) (hb hby at_239) (fun _ _ => ⟨rfl, e246, (by decide : 1 + 0 ≤ _), (by decide : 36 + 0 ≤ _)⟩)
        dsimp only [Pt.U, Pt.locs, Pt.cells, Pt.slots] at X247 l247 y247 z247 st247 hQ247
        rw [l247, y247, z247] at X247
        clear l247 y247 z247
        obtain ⟨rfl, Nq247, e247⟩ := hQ247
        have N247 := Fr.app N246 Nq247
        refine oS (fun t k => st247 t k) ?_
        show oG _ _ _ _ _ _ _ (T247.setTop (mkF m 242 #[.val (.int p1), .val (.int p2), .val (.int p3), .val (.int 2), .val (.int 2), .val (.int 0), .val (.ref b1), .val (.int (-1)), .val .null, .unset] [(.ref (w 2)), (.ref (w 6))]))
        try clear st247 X246 e246
        refine oS (fun t k => XS.iload X247.here hx rfl (hb hby at_242) rfl k) ?_
        obtain ⟨_, _, ⟨T248, L248, k248, n248⟩, -, X248, ⟨Lc248, hQ248, l248, y248, z248⟩, st248⟩ := Jvm.LawKit.callS X247 hx (y := mY2) hown (mvT hZ (oW hw 9 rfl)) (mvT hZ (oW hw 10 rfl)) (mvT hZ (oW hw 4 rfl)) (mvT hZ (oW hw 11 rfl)) (by decide) (backOf (W := 2) (rm_vt_0 l Z a0 hw []  w h73 n0 O73 W ) hZ (oW hw 11 rfl) (oW hw 4 rfl) (by decide) (by decide)) (g := (mkF m 244 #[.val (.int p1), .val (.int p2), .val (.int p3), .val (.int 2), .val (.int 2), .val (.int 0), .val (.ref b1), .val (.int (-1)), .val .null, .unset] [(.int 0), (.ref (w 2)), (.ref (w 6))])) rfl (by rw [hml]; rfl) (argsL := [(.int 0)]) (rest := [(.ref (w 2)), (.ref (w 6))]) (lenOf pd_4 rfl) rfl (by show 2 * 0 + _ ≤ _; exact Nat.le_of_eq rfl) (hb hby at_244) (fun _ _ => ⟨rfl, e247, (by decide : 1 + 0 ≤ _), (by decide : 36 + 0 ≤ _)⟩)
        dsimp only [Pt.U, Pt.locs, Pt.cells, Pt.slots] at X248 l248 y248 z248 st248 hQ248
        rw [l248, y248, z248] at X248
        clear l248 y248 z248
        obtain ⟨rfl, Nq248, e248⟩ := hQ248
        have N248 := Fr.app N247 Nq248
        refine oS (fun t k => st248 t k) ?_
        show oG _ _ _ _ _ _ _ (T248.setTop (mkF m 247 #[.val (.int p1), .val (.int p2), .val (.int p3), .val (.int 2), .val (.int 2), .val (.int 0), .val (.ref b1), .val (.int (-1)), .val .null, .unset] [(.ref (w 1)), (.ref (w 2)), (.ref (w 6))]))
        try clear st248 X247 e247
        obtain ⟨cq249, kq249, q249a, q249b, q249c⟩ := isOf hZ e248 ((wE6 W).ext O73.2)
        obtain ⟨_, _, ⟨T249, L249, k249, n249⟩, -, X249, ⟨Lc249, hQ249, l249, y249, z249⟩, st249⟩ := X248.virtualBack hx (y := mY8) (z := mY8) hown (mvT hZ (oW hw 17 rfl)) (mvT hZ (oW hw 18 rfl)) (notFace_of_selects (args := #[]) (mvT hZ (oW hw 20 rfl))) (mvT hZ (oW hw 20 rfl)) (mvT hZ (oW hw 19 rfl)) (by decide) (backOf (W := 0) (rm_ty_220 l Z a0 hw []  w h73 n0 O73 W ) hZ (oW hw 21 rfl) (oW hw 7 rfl) (by decide) (by decide)) q249a q249c (g := (mkF m 247 #[.val (.int p1), .val (.int p2), .val (.int p3), .val (.int 2), .val (.int 2), .val (.int 0), .val (.ref b1), .val (.int (-1)), .val .null, .unset] [(.ref (w 1)), (.ref (w 2)), (.ref (w 6))])) rfl (by rw [hml]; rfl) (Steps.refl _) (argsL := [(.ref (w 2)), (.ref (w 1))]) (rest := []) (lenOf pd_6 rfl) rfl (by show 2 * 0 + _ ≤ _; exact Nat.le_of_eq rfl) (hb hby at_247) (fun _ _ => ⟨rfl, e248, (by decide : 1 + 0 ≤ _), (by decide : 36 + 0 ≤ _)⟩)
        dsimp only [Pt.U, Pt.locs, Pt.cells, Pt.slots] at X249 l249 y249 z249 st249 hQ249
        rw [l249, y249, z249] at X249
        clear l249 y249 z249
        obtain ⟨rfl, Nq249, e249⟩ := hQ249
        have N249 := Fr.app N248 Nq249
        refine oS (fun t k => st249.trans k) ?_
        show oG _ _ _ _ _ _ _ (T249.setTop (mkF m 250 #[.val (.int p1), .val (.int p2), .val (.int p3), .val (.int 2), .val (.int 2), .val (.int 0), .val (.ref b1), .val (.int (-1)), .val .null, .unset] [(.ref (w 7))]))
        try clear st249 X248 e248
        refine oS (fun t k => XS.aconstNull X249.here hx rfl (hb hby at_250) k) ?_
        obtain ⟨cq250, kq250, q250a, q250b, q250c⟩ := isOf hZ e249 ((wE7 W).ext O73.2)
        obtain ⟨_, _, ⟨T250, L250, k250, n250⟩, -, X250, ⟨Lc250, hQ250, l250, y250, z250⟩, st250⟩ := X249.virtualBack hx (y := mY7) (z := mY7) hown (mvT hZ (oW hw 39 rfl)) (mvT hZ (oW hw 40 rfl)) (notFace_of_selects (args := #[]) (mvT hZ (oW hw 42 rfl))) (mvT hZ (oW hw 42 rfl)) (mvT hZ (oW hw 41 rfl)) (by decide) (backOf (W := 0) (rm_oe0 l Z a0 hw [] (w 7)  h73 n0 O73  ((wF7_value W).ext O73.2)) hZ (oW hw 43 rfl) (oW hw 36 rfl) (by decide) (by decide)) q250a q250c (g := (mkF m 251 #[.val (.int p1), .val (.int p2), .val (.int p3), .val (.int 2), .val (.int 2), .val (.int 0), .val (.ref b1), .val (.int (-1)), .val .null, .unset] [.null, (.ref (w 7))])) rfl (by rw [hml]; rfl) (Steps.refl _) (argsL := [.null]) (rest := []) (lenOf pd_0 rfl) rfl (by show 2 * 0 + _ ≤ _; exact Nat.le_of_eq rfl) (hb hby at_251) (fun _ _ => ⟨rfl, e249, (by decide : 1 + 0 ≤ _), (by decide : 36 + 0 ≤ _)⟩)
        dsimp only [Pt.U, Pt.locs, Pt.cells, Pt.slots] at X250 l250 y250 z250 st250 hQ250
        rw [l250, y250, z250] at X250
        clear l250 y250 z250
        obtain ⟨rfl, Nq250, e250⟩ := hQ250
        have N250 := Fr.app N249 Nq250
        refine oS (fun t k => st250.trans k) ?_
        show oG _ _ _ _ _ _ _ (T250.setTop (mkF m 254 #[.val (.int p1), .val (.int p2), .val (.int p3), .val (.int 2), .val (.int 2), .val (.int 0), .val (.ref b1), .val (.int (-1)), .val .null, .unset] [.null]))
        try clear st250 X249 e249
        refine oS (fun t k => X250.checkcastNull hx (g := (mkF m 254 #[.val (.int p1), .val (.int p2), .val (.int p3), .val (.int 2), .val (.int 2), .val (.int 0), .val (.ref b1), .val (.int (-1)), .val .null, .unset] [.null])) rfl rfl (hb hby at_254) t k) ?_
        refine oS (fun t k => XS.astore X250.here hx rfl (hb hby at_257) rfl rfl (l' := #[.val (.int p1), .val (.int p2), .val (.int p3), .val (.int 2), .val (.int 2), .val (.int 0), .val (.ref b1), .val (.int (-1)), .val .null, .val .null]) rfl k) ?_
        refine oS (fun t k => XS.aload X250.here hx rfl (hb hby at_259) rfl rfl k) ?_
        refine oS (fun t k => XS.aload X250.here hx rfl (hb hby at_261) rfl rfl k) ?_
        refine oS (fun t k => Jvm.RoadKit.acmp (g := (mkF m 263 #[.val (.int p1), .val (.int p2), .val (.int p3), .val (.int 2), .val (.int 2), .val (.int 0), .val (.ref b1), .val (.int (-1)), .val .null, .val .null] [.null, .null])) X250 hx rfl rfl rfl (pc0 := 263) (pc' := 266) (same := true) rfl (hb hby at_263) rfl (decide_eq_true rfl) (by decide) (by decide) k) ?_
        show oG _ _ _ _ _ _ _ (T250.setTop (mkF m 266 #[.val (.int p1), .val (.int p2), .val (.int p3), .val (.int 2), .val (.int 2), .val (.int 0), .val (.ref b1), .val (.int (-1)), .val .null, .val .null] []))
        refine oS (fun t k => oIc li_1 X250.here hx rfl (hb hby at_266) k) ?_
        refine oS (fun t k => XS.goto X250.here hx rfl (pc0 := 267) (pc' := 271) rfl (hb hby at_267) (by decide) (by decide) k) ?_
        exact own_ret (v := some (.int 1)) X250 (fun h => by rw [Bd.returns] at h; cases h) Bd.notSynchronized (fun fs hr => retN X250 hx (t := .boolean) Bd.returns (by simp) (hb hby at_271) hr) (by rw [e250]; exact ⟨rfl, N250⟩) (by decide) (by decide)
      · rw [hs244]
        show oG _ _ _ _ _ _ _ (T73.setTop (mkF m 200 #[.val (.int p1), .val (.int p2), .val (.int p3), .val (.int 2), .val (.int 2), .val (.int 1), .val (.ref b1), .unset, .unset, .unset] []))
        refine oS (fun t k => XS.aload X73.here hx rfl (hb hby at_200) rfl rfl k) ?_
        refine oS (fun t k => XS.iloadN X73.here hx rfl (hb hby at_202) rfl k) ?_
        show oG _ _ _ _ _ _ _ (T73.setTop (mkF m 203 #[.val (.int p1), .val (.int p2), .val (.int p3), .val (.int 2), .val (.int 2), .val (.int 1), .val (.ref b1), .unset, .unset, .unset] [(.int 2), (.ref b1)]))
        refine oS (fun t k => oBp lb_9 X73.here hx rfl (hb hby at_203) k) ?_
        refine oS (S' := (T73.setTop (mkF m 206 #[.val (.int p1), .val (.int p2), .val (.int p3), .val (.int 2), .val (.int 2), .val (.int 1), .val (.ref b1), .unset, .unset, .unset] [(.int 18), (.ref b1)]))) (fun t k => XS.imul X73.here hx rfl (hb hby at_205) rfl (by rw [show (2 : Int32) * (9 : Int32) = (18 : Int32) from by decide]; exact k)) ?_
        refine oS (fun t k => XS.iload X73.here hx rfl (hb hby at_206) rfl k) ?_
        refine oS (fun t k => oIc li_3 X73.here hx rfl (hb hby at_208) k) ?_
        refine oS (S' := (T73.setTop (mkF m 210 #[.val (.int p1), .val (.int p2), .val (.int p3), .val (.int 2), .val (.int 2), .val (.int 1), .val (.ref b1), .unset, .unset, .unset] [(.int 6), (.int 18), (.ref b1)]))) (fun t k => XS.imul X73.here hx rfl (hb hby at_209) rfl (by rw [show (2 : Int32) * (3 : Int32) = (6 : Int32) from by decide]; exact k)) ?_
        refine oS (S' := (T73.setTop (mkF m 211 #[.val (.int p1), .val (.int p2), .val (.int p3), .val (.int 2), .val (.int 2), .val (.int 1), .val (.ref b1), .unset, .unset, .unset] [(.int 24), (.ref b1)]))) (fun t k => XS.iadd X73.here hx rfl (hb hby at_210) rfl (by rw [show (18 : Int32) + (6 : Int32) = (24 : Int32) from by decide]; exact k)) ?_
        refine oS (fun t k => XS.iload X73.here hx rfl (hb hby at_211) rfl k) ?_
        refine oS (S' := (T73.setTop (mkF m 214 #[.val (.int p1), .val (.int p2), .val (.int p3), .val (.int 2), .val (.int 2), .val (.int 1), .val (.ref b1), .unset, .unset, .unset] [(.int 25), (.ref b1)]))) (fun t k => XS.iadd X73.here hx rfl (hb hby at_213) rfl (by rw [show (24 : Int32) + (1 : Int32) = (25 : Int32) from by decide]; exact k)) ?_
        obtain ⟨cl251, Ar251, qk251, Sz251, Ng251, Ha251, Gf251⟩ := id V73
        have hin251 : ¬ ((25 : Int32) < 0 ∨ cl251.slots.size ≤ ((25 : Int32)).toNatClampNeg) := (inb_of Sz251 ⟨by decide, by decide⟩)
        have hat251 : cl251.slots[((25 : Int32)).toNatClampNeg]? = some (.int (-1)) := Ha251.at hin251 rfl
        refine oS (fun t k => X73.iaload hx (j := (25 : Int32)) (v := (.int (-1))) (by rw [e73]; exact Ar251.1) (State.isArrayOf_alike hZ.alike Ar251.2.1) Ar251.2.2 hin251 hat251 (g := (mkF m 214 #[.val (.int p1), .val (.int p2), .val (.int p3), .val (.int 2), .val (.int 2), .val (.int 1), .val (.ref b1), .unset, .unset, .unset] [(.int 25), (.ref b1)])) rfl rfl (hb hby at_214) t k) ?_
        refine oS (fun t k => XS.istore X73.here hx rfl (hb hby at_215) rfl (l' := #[.val (.int p1), .val (.int p2), .val (.int p3), .val (.int 2), .val (.int 2), .val (.int 1), .val (.ref b1), .val (.int (-1)), .unset, .unset]) rfl k) ?_
        show oG _ _ _ _ _ _ _ (T73.setTop (mkF m 217 #[.val (.int p1), .val (.int p2), .val (.int p3), .val (.int 2), .val (.int 2), .val (.int 1), .val (.ref b1), .val (.int (-1)), .unset, .unset] []))
        refine oS (fun t k => XS.iload X73.here hx rfl (hb hby at_217) rfl k) ?_
        refine oS (fun t k => XS.ifNo X73.here hx rfl (hb hby at_219) rfl ((if0 _ _).trans (tlt (by decide)).2.1) k) ?_
        refine oS (fun t k => XS.aconstNull X73.here hx rfl (hb hby at_222) k) ?_
        refine oS (fun t k => XS.goto X73.here hx rfl (pc0 := 223) (pc' := 231) rfl (hb hby at_223) (by decide) (by decide) k) ?_
        refine oS (fun t k => XS.astore X73.here hx rfl (hb hby at_231) rfl rfl (l' := #[.val (.int p1), .val (.int p2), .val (.int p3), .val (.int 2), .val (.int 2), .val (.int 1), .val (.ref b1), .val (.int (-1)), .val .null, .unset]) rfl k) ?_
        show oG _ _ _ _ _ _ _ (T73.setTop (mkF m 233 #[.val (.int p1), .val (.int p2), .val (.int p3), .val (.int 2), .val (.int 2), .val (.int 1), .val (.ref b1), .val (.int (-1)), .val .null, .unset] []))
        refine oS (fun t k => XS.iloadN X73.here hx rfl (hb hby at_233) rfl k) ?_
        obtain ⟨_, _, ⟨T252, L252, k252, n252⟩, -, X252, ⟨Lc252, hQ252, l252, y252, z252⟩, st252⟩ := Jvm.LawKit.callS X73 hx (y := mY0) hown (mvT hZ (oW hw 2 rfl)) (mvT hZ (oW hw 3 rfl)) (mvT hZ (oW hw 4 rfl)) (mvT hZ (oW hw 5 rfl)) (by decide) (backOf (W := 0) (rm_op_2 l Z a0 hw []  w h73 n0 O73 W ) hZ (oW hw 5 rfl) (oW hw 4 rfl) (by decide) (by decide)) (g := (mkF m 234 #[.val (.int p1), .val (.int p2), .val (.int p3), .val (.int 2), .val (.int 2), .val (.int 1), .val (.ref b1), .val (.int (-1)), .val .null, .unset] [(.int 2)])) rfl (by rw [hml]; rfl) (argsL := [(.int 2)]) (rest := []) (lenOf pd_5 rfl) rfl (by show 2 * 0 + _ ≤ _; exact Nat.le_of_eq rfl) (hb hby at_234) (fun _ _ => ⟨rfl, e73, (by decide : 1 + 0 ≤ _), (by decide : 36 + 0 ≤ _)⟩)
        dsimp only [Pt.U, Pt.locs, Pt.cells, Pt.slots] at X252 l252 y252 z252 st252 hQ252
        rw [l252, y252, z252] at X252
        clear l252 y252 z252
        obtain ⟨rfl, Nq252, e252⟩ := hQ252
        have N252 := Fr.app N73 Nq252
        refine oS (fun t k => st252 t k) ?_
        show oG _ _ _ _ _ _ _ (T252.setTop (mkF m 237 #[.val (.int p1), .val (.int p2), .val (.int p3), .val (.int 2), .val (.int 2), .val (.int 1), .val (.ref b1), .val (.int (-1)), .val .null, .unset] [(.ref (w 6))]))
        try clear st252 X73 e73
        try clear T73
        refine oS (fun t k => XS.iload X252.here hx rfl (hb hby at_237) rfl k) ?_
        obtain ⟨_, _, ⟨T253, L253, k253, n253⟩, -, X253, ⟨Lc253, hQ253, l253, y253, z253⟩, st253⟩ := Jvm.LawKit.callS X252 hx (y := mY2) hown (mvT hZ (oW hw 9 rfl)) (mvT hZ (oW hw 10 rfl)) (mvT hZ (oW hw 4 rfl)) (mvT hZ (oW hw 11 rfl)) (by decide) (backOf (W := 1) (rm_vt_2 l Z a0 hw []  w h73 n0 O73 W ) hZ (oW hw 11 rfl) (oW hw 4 rfl) (by decide) (by decide)) (g := (mkF m 239 #[.val (.int p1), .val (.int p2), .val (.int p3), .val (.int 2), .val (.int 2), .val (.int 1), .val (.ref b1), .val (.int (-1)), .val .null, .unset] [(.int 2), (.ref (w 6))])) rfl (by rw [hml]; rfl) (argsL := [(.int 2)]) (rest := [(.ref (w 6))]) (lenOf pd_4 rfl) rfl (by show 2 * 0 + _ ≤ _; exact Nat.le_of_eq rfl) (hb hby at_239) (fun _ _ => ⟨rfl, e252, (by decide : 1 + 0 ≤ _), (by decide : 36 + 0 ≤ _)⟩)
        dsimp only [Pt.U, Pt.locs, Pt.cells, Pt.slots] at X253 l253 y253 z253 st253 hQ253
        rw [l253, y253, z253] at X253
        clear l253 y253 z253
        obtain ⟨rfl, Nq253, e253⟩ := hQ253
        have N253 := Fr.app N252 Nq253
        refine oS (fun t k => st253 t k) ?_
        show oG _ _ _ _ _ _ _ (T253.setTop (mkF m 242 #[.val (.int p1), .val (.int p2), .val (.int p3), .val (.int 2), .val (.int 2), .val (.int 1), .val (.ref b1), .val (.int (-1)), .val .null, .unset] [(.ref (w 2)), (.ref (w 6))]))
        try clear st253 X252 e252
        refine oS (fun t k => XS.iload X253.here hx rfl (hb hby at_242) rfl k) ?_
        obtain ⟨_, _, ⟨T254, L254, k254, n254⟩, -, X254, ⟨Lc254, hQ254, l254, y254, z254⟩, st254⟩ := Jvm.LawKit.callS X253 hx (y := mY2) hown (mvT hZ (oW hw 9 rfl)) (mvT hZ (oW hw 10 rfl)) (mvT hZ (oW hw 4 rfl)) (mvT hZ (oW hw 11 rfl)) (by decide) (backOf (W := 2) (rm_vt_1 l Z a0 hw []  w h73 n0 O73 W ) hZ (oW hw 11 rfl) (oW hw 4 rfl) (by decide) (by decide)) (g := (mkF m 244 #[.val (.int p1), .val (.int p2), .val (.int p3), .val (.int 2), .val (.int 2), .val (.int 1), .val (.ref b1), .val (.int (-1)), .val .null, .unset] [(.int 1), (.ref (w 2)), (.ref (w 6))])) rfl (by rw [hml]; rfl) (argsL := [(.int 1)]) (rest := [(.ref (w 2)), (.ref (w 6))]) (lenOf pd_4 rfl) rfl (by show 2 * 0 + _ ≤ _; exact Nat.le_of_eq rfl) (hb hby at_244) (fun _ _ => ⟨rfl, e253, (by decide : 1 + 0 ≤ _), (by decide : 36 + 0 ≤ _)⟩)
        dsimp only [Pt.U, Pt.locs, Pt.cells, Pt.slots] at X254 l254 y254 z254 st254 hQ254
        rw [l254, y254, z254] at X254
        clear l254 y254 z254
        obtain ⟨rfl, Nq254, e254⟩ := hQ254
        have N254 := Fr.app N253 Nq254
        refine oS (fun t k => st254 t k) ?_
        show oG _ _ _ _ _ _ _ (T254.setTop (mkF m 247 #[.val (.int p1), .val (.int p2), .val (.int p3), .val (.int 2), .val (.int 2), .val (.int 1), .val (.ref b1), .val (.int (-1)), .val .null, .unset] [(.ref (w 3)), (.ref (w 2)), (.ref (w 6))]))
        try clear st254 X253 e253
        obtain ⟨cq255, kq255, q255a, q255b, q255c⟩ := isOf hZ e254 ((wE6 W).ext O73.2)
        obtain ⟨_, _, ⟨T255, L255, k255, n255⟩, -, X255, ⟨Lc255, hQ255, l255, y255, z255⟩, st255⟩ := X254.virtualBack hx (y := mY8) (z := mY8) hown (mvT hZ (oW hw 17 rfl)) (mvT hZ (oW hw 18 rfl)) (notFace_of_selects (args := #[]) (mvT hZ (oW hw 20 rfl))) (mvT hZ (oW hw 20 rfl)) (mvT hZ (oW hw 19 rfl)) (by decide) (backOf (W := 0) (rm_ty_221 l Z a0 hw []  w h73 n0 O73 W ) hZ (oW hw 21 rfl) (oW hw 7 rfl) (by decide) (by decide)) q255a q255c (g := (mkF m 247 #[.val (.int p1), .val (.int p2), .val (.int p3), .val (.int 2), .val (.int 2), .val (.int 1), .val (.ref b1), .val (.int (-1)), .val .null, .unset] [(.ref (w 3)), (.ref (w 2)), (.ref (w 6))])) rfl (by rw [hml]; rfl) (Steps.refl _) (argsL := [(.ref (w 2)), (.ref (w 3))]) (rest := []) (lenOf pd_6 rfl) rfl (by show 2 * 0 + _ ≤ _; exact Nat.le_of_eq rfl) (hb hby at_247) (fun _ _ => ⟨rfl, e254, (by decide : 1 + 0 ≤ _), (by decide : 36 + 0 ≤ _)⟩)
        dsimp only [Pt.U, Pt.locs, Pt.cells, Pt.slots] at X255 l255 y255 z255 st255 hQ255
        rw [l255, y255, z255] at X255
        clear l255 y255 z255
        obtain ⟨rfl, Nq255, e255⟩ := hQ255
        have N255 := Fr.app N254 Nq255
        refine oS (fun t k => st255.trans k) ?_
        show oG _ _ _ _ _ _ _ (T255.setTop (mkF m 250 #[.val (.int p1), .val (.int p2), .val (.int p3), .val (.int 2), .val (.int 2), .val (.int 1), .val (.ref b1), .val (.int (-1)), .val .null, .unset] [(.ref (w 7))]))
        try clear st255 X254 e254
        refine oS (fun t k => XS.aconstNull X255.here hx rfl (hb hby at_250) k) ?_
        obtain ⟨cq256, kq256, q256a, q256b, q256c⟩ := isOf hZ e255 ((wE7 W).ext O73.2)
        obtain ⟨_, _, ⟨T256, L256, k256, n256⟩, -, X256, ⟨Lc256, hQ256, l256, y256, z256⟩, st256⟩ := X255.virtualBack hx (y := mY7) (z := mY7) hown (mvT hZ (oW hw 39 rfl)) (mvT hZ (oW hw 40 rfl)) (notFace_of_selects (args := #[]) (mvT hZ (oW hw 42 rfl))) (mvT hZ (oW hw 42 rfl)) (mvT hZ (oW hw 41 rfl)) (by decide) (backOf (W := 0) (rm_oe0 l Z a0 hw [] (w 7)  h73 n0 O73  ((wF7_value W).ext O73.2)) hZ (oW hw 43 rfl) (oW hw 36 rfl) (by decide) (by decide)) q256a q256c (g := (mkF m 251 #[.val (.int p1), .val (.int p2), .val (.int p3), .val (.int 2), .val (.int 2), .val (.int 1), .val (.ref b1), .val (.int (-1)), .val .null, .unset] [.null, (.ref (w 7))])) rfl (by rw [hml]; rfl) (Steps.refl _) (argsL := [.null]) (rest := []) (lenOf pd_0 rfl) rfl (by show 2 * 0 + _ ≤ _; exact Nat.le_of_eq rfl) (hb hby at_251) (fun _ _ => ⟨rfl, e255, (by decide : 1 + 0 ≤ _), (by decide : 36 + 0 ≤ _)⟩)
        dsimp only [Pt.U, Pt.locs, Pt.cells, Pt.slots] at X256 l256 y256 z256 st256 hQ256
        rw [l256, y256, z256] at X256
        clear l256 y256 z256
        obtain ⟨rfl, Nq256, e256⟩ := hQ256
        have N256 := Fr.app N255 Nq256
        refine oS (fun t k => st256.trans k) ?_
        show oG _ _ _ _ _ _ _ (T256.setTop (mkF m 254 #[.val (.int p1), .val (.int p2), .val (.int p3), .val (.int 2), .val (.int 2), .val (.int 1), .val (.ref b1), .val (.int (-1)), .val .null, .unset] [.null]))
        try clear st256 X255 e255
        refine oS (fun t k => X256.checkcastNull hx (g := (mkF m 254 #[.val (.int p1), .val (.int p2), .val (.int p3), .val (.int 2), .val (.int 2), .val (.int 1), .val (.ref b1), .val (.int (-1)), .val .null, .unset] [.null])) rfl rfl (hb hby at_254) t k) ?_
        refine oS (fun t k => XS.astore X256.here hx rfl (hb hby at_257) rfl rfl (l' := #[.val (.int p1), .val (.int p2), .val (.int p3), .val (.int 2), .val (.int 2), .val (.int 1), .val (.ref b1), .val (.int (-1)), .val .null, .val .null]) rfl k) ?_
        refine oS (fun t k => XS.aload X256.here hx rfl (hb hby at_259) rfl rfl k) ?_
        refine oS (fun t k => XS.aload X256.here hx rfl (hb hby at_261) rfl rfl k) ?_
        refine oS (fun t k => Jvm.RoadKit.acmp (g := (mkF m 263 #[.val (.int p1), .val (.int p2), .val (.int p3), .val (.int 2), .val (.int 2), .val (.int 1), .val (.ref b1), .val (.int (-1)), .val .null, .val .null] [.null, .null])) X256 hx rfl rfl rfl (pc0 := 263) (pc' := 266) (same := true) rfl (hb hby at_263) rfl (decide_eq_true rfl) (by decide) (by decide) k) ?_
        show oG _ _ _ _ _ _ _ (T256.setTop (mkF m 266 #[.val (.int p1), .val (.int p2), .val (.int p3), .val (.int 2), .val (.int 2), .val (.int 1), .val (.ref b1), .val (.int (-1)), .val .null, .val .null] []))
        refine oS (fun t k => oIc li_1 X256.here hx rfl (hb hby at_266) k) ?_
        refine oS (fun t k => XS.goto X256.here hx rfl (pc0 := 267) (pc' := 271) rfl (hb hby at_267) (by decide) (by decide) k) ?_
        exact own_ret (v := some (.int 1)) X256 (fun h => by rw [Bd.returns] at h; cases h) Bd.notSynchronized (fun fs hr => retN X256 hx (t := .boolean) Bd.returns (by simp) (hb hby at_271) hr) (by rw [e256]; exact ⟨rfl, N256⟩) (by decide) (by decide)
      · rw [hs244]
        show oG _ _ _ _ _ _ _ (T73.setTop (mkF m 200 #[.val (.int p1), .val (.int p2), .val (.int p3), .val (.int 2), .val (.int 2), .val (.int 2), .val (.ref b1), .unset, .unset, .unset] []))
        refine oS (fun t k => XS.aload X73.here hx rfl (hb hby at_200) rfl rfl k) ?_
        refine oS (fun t k => XS.iloadN X73.here hx rfl (hb hby at_202) rfl k) ?_
        show oG _ _ _ _ _ _ _ (T73.setTop (mkF m 203 #[.val (.int p1), .val (.int p2), .val (.int p3), .val (.int 2), .val (.int 2), .val (.int 2), .val (.ref b1), .unset, .unset, .unset] [(.int 2), (.ref b1)]))
        refine oS (fun t k => oBp lb_9 X73.here hx rfl (hb hby at_203) k) ?_
        refine oS (S' := (T73.setTop (mkF m 206 #[.val (.int p1), .val (.int p2), .val (.int p3), .val (.int 2), .val (.int 2), .val (.int 2), .val (.ref b1), .unset, .unset, .unset] [(.int 18), (.ref b1)]))) (fun t k => XS.imul X73.here hx rfl (hb hby at_205) rfl (by rw [show (2 : Int32) * (9 : Int32) = (18 : Int32) from by decide]; exact k)) ?_
        refine oS (fun t k => XS.iload X73.here hx rfl (hb hby at_206) rfl k) ?_
        refine oS (fun t k => oIc li_3 X73.here hx rfl (hb hby at_208) k) ?_
        refine oS (S' := (T73.setTop (mkF m 210 #[.val (.int p1), .val (.int p2), .val (.int p3), .val (.int 2), .val (.int 2), .val (.int 2), .val (.ref b1), .unset, .unset, .unset] [(.int 6), (.int 18), (.ref b1)]))) (fun t k => XS.imul X73.here hx rfl (hb hby at_209) rfl (by rw [show (2 : Int32) * (3 : Int32) = (6 : Int32) from by decide]; exact k)) ?_
        refine oS (S' := (T73.setTop (mkF m 211 #[.val (.int p1), .val (.int p2), .val (.int p3), .val (.int 2), .val (.int 2), .val (.int 2), .val (.ref b1), .unset, .unset, .unset] [(.int 24), (.ref b1)]))) (fun t k => XS.iadd X73.here hx rfl (hb hby at_210) rfl (by rw [show (18 : Int32) + (6 : Int32) = (24 : Int32) from by decide]; exact k)) ?_
        refine oS (fun t k => XS.iload X73.here hx rfl (hb hby at_211) rfl k) ?_
        refine oS (S' := (T73.setTop (mkF m 214 #[.val (.int p1), .val (.int p2), .val (.int p3), .val (.int 2), .val (.int 2), .val (.int 2), .val (.ref b1), .unset, .unset, .unset] [(.int 26), (.ref b1)]))) (fun t k => XS.iadd X73.here hx rfl (hb hby at_213) rfl (by rw [show (24 : Int32) + (2 : Int32) = (26 : Int32) from by decide]; exact k)) ?_
        obtain ⟨cl257, Ar257, qk257, Sz257, Ng257, Ha257, Gf257⟩ := id V73
        have hin257 : ¬ ((26 : Int32) < 0 ∨ cl257.slots.size ≤ ((26 : Int32)).toNatClampNeg) := (inb_of Sz257 ⟨by decide, by decide⟩)
        have hat257 : cl257.slots[((26 : Int32)).toNatClampNeg]? = some (.int (-1)) := Ha257.at hin257 rfl
        refine oS (fun t k => X73.iaload hx (j := (26 : Int32)) (v := (.int (-1))) (by rw [e73]; exact Ar257.1) (State.isArrayOf_alike hZ.alike Ar257.2.1) Ar257.2.2 hin257 hat257 (g := (mkF m 214 #[.val (.int p1), .val (.int p2), .val (.int p3), .val (.int 2), .val (.int 2), .val (.int 2), .val (.ref b1), .unset, .unset, .unset] [(.int 26), (.ref b1)])) rfl rfl (hb hby at_214) t k) ?_
        refine oS (fun t k => XS.istore X73.here hx rfl (hb hby at_215) rfl (l' := #[.val (.int p1), .val (.int p2), .val (.int p3), .val (.int 2), .val (.int 2), .val (.int 2), .val (.ref b1), .val (.int (-1)), .unset, .unset]) rfl k) ?_
        show oG _ _ _ _ _ _ _ (T73.setTop (mkF m 217 #[.val (.int p1), .val (.int p2), .val (.int p3), .val (.int 2), .val (.int 2), .val (.int 2), .val (.ref b1), .val (.int (-1)), .unset, .unset] []))
        refine oS (fun t k => XS.iload X73.here hx rfl (hb hby at_217) rfl k) ?_
        refine oS (fun t k => XS.ifNo X73.here hx rfl (hb hby at_219) rfl ((if0 _ _).trans (tlt (by decide)).2.1) k) ?_
        refine oS (fun t k => XS.aconstNull X73.here hx rfl (hb hby at_222) k) ?_
        refine oS (fun t k => XS.goto X73.here hx rfl (pc0 := 223) (pc' := 231) rfl (hb hby at_223) (by decide) (by decide) k) ?_
        refine oS (fun t k => XS.astore X73.here hx rfl (hb hby at_231) rfl rfl (l' := #[.val (.int p1), .val (.int p2), .val (.int p3), .val (.int 2), .val (.int 2), .val (.int 2), .val (.ref b1), .val (.int (-1)), .val .null, .unset]) rfl k) ?_
        show oG _ _ _ _ _ _ _ (T73.setTop (mkF m 233 #[.val (.int p1), .val (.int p2), .val (.int p3), .val (.int 2), .val (.int 2), .val (.int 2), .val (.ref b1), .val (.int (-1)), .val .null, .unset] []))
        refine oS (fun t k => XS.iloadN X73.here hx rfl (hb hby at_233) rfl k) ?_
        obtain ⟨_, _, ⟨T258, L258, k258, n258⟩, -, X258, ⟨Lc258, hQ258, l258, y258, z258⟩, st258⟩ := Jvm.LawKit.callS X73 hx (y := mY0) hown (mvT hZ (oW hw 2 rfl)) (mvT hZ (oW hw 3 rfl)) (mvT hZ (oW hw 4 rfl)) (mvT hZ (oW hw 5 rfl)) (by decide) (backOf (W := 0) (rm_op_2 l Z a0 hw []  w h73 n0 O73 W ) hZ (oW hw 5 rfl) (oW hw 4 rfl) (by decide) (by decide)) (g := (mkF m 234 #[.val (.int p1), .val (.int p2), .val (.int p3), .val (.int 2), .val (.int 2), .val (.int 2), .val (.ref b1), .val (.int (-1)), .val .null, .unset] [(.int 2)])) rfl (by rw [hml]; rfl) (argsL := [(.int 2)]) (rest := []) (lenOf pd_5 rfl) rfl (by show 2 * 0 + _ ≤ _; exact Nat.le_of_eq rfl) (hb hby at_234) (fun _ _ => ⟨rfl, e73, (by decide : 1 + 0 ≤ _), (by decide : 36 + 0 ≤ _)⟩)
        dsimp only [Pt.U, Pt.locs, Pt.cells, Pt.slots] at X258 l258 y258 z258 st258 hQ258
        rw [l258, y258, z258] at X258
        clear l258 y258 z258
        obtain ⟨rfl, Nq258, e258⟩ := hQ258
        have N258 := Fr.app N73 Nq258
        refine oS (fun t k => st258 t k) ?_
        show oG _ _ _ _ _ _ _ (T258.setTop (mkF m 237 #[.val (.int p1), .val (.int p2), .val (.int p3), .val (.int 2), .val (.int 2), .val (.int 2), .val (.ref b1), .val (.int (-1)), .val .null, .unset] [(.ref (w 6))]))
        try clear st258 X73 e73
        try clear T73
        refine oS (fun t k => XS.iload X258.here hx rfl (hb hby at_237) rfl k) ?_
        obtain ⟨_, _, ⟨T259, L259, k259, n259⟩, -, X259, ⟨Lc259, hQ259, l259, y259, z259⟩, st259⟩ := Jvm.LawKit.callS X258 hx (y := mY2) hown (mvT hZ (oW hw 9 rfl)) (mvT hZ (oW hw 10 rfl)) (mvT hZ (oW hw 4 rfl)) (mvT hZ (oW hw 11 rfl)) (by decide) (backOf (W := 1) (rm_vt_2 l Z a0 hw []  w h73 n0 O73 W ) hZ (oW hw 11 rfl) (oW hw 4 rfl) (by decide) (by decide)) (g := (mkF m 239 #[.val (.int p1), .val (.int p2), .val (.int p3), .val (.int 2), .val (.int 2), .val (.int 2), .val (.ref b1), .val (.int (-1)), .val .null, .unset] [(.int 2), (.ref (w 6))])) rfl (by rw [hml]; rfl) (argsL := [(.int 2)]) (rest := [(.ref (w 6))]) (lenOf pd_4 rfl) rfl (by show 2 * 0 + _ ≤ _; exact Nat.le_of_eq rfl) (hb hby at_239) (fun _ _ => ⟨rfl, e258, (by decide : 1 + 0 ≤ _), (by decide : 36 + 0 ≤ _)⟩)
        dsimp only [Pt.U, Pt.locs, Pt.cells, Pt.slots] at X259 l259 y259 z259 st259 hQ259
        rw [l259, y259, z259] at X259
        clear l259 y259 z259
        obtain ⟨rfl, Nq259, e259⟩ := hQ259
        have N259 := Fr.app N258 Nq259
        refine oS (fun t k => st259 t k) ?_
        show oG _ _ _ _ _ _ _ (T259.setTop (mkF m 242 #[.val (.int p1), .val (.int p2), .val (.int p3), .val (.int 2), .val (.int 2), .val (.int 2), .val (.ref b1), .val (.int (-1)), .val .null, .unset] [(.ref (w 2)), (.ref (w 6))]))
        try clear st259 X258 e258
        refine oS (fun t k => XS.iload X259.here hx rfl (hb hby at_242) rfl k) ?_
        obtain ⟨_, _, ⟨T260, L260, k260, n260⟩, -, X260, ⟨Lc260, hQ260, l260, y260, z260⟩, st260⟩ := Jvm.LawKit.callS X259 hx (y := mY2) hown (mvT hZ (oW hw 9 rfl)) (mvT hZ (oW hw 10 rfl)) (mvT hZ (oW hw 4 rfl)) (mvT hZ (oW hw 11 rfl)) (by decide) (backOf (W := 2) (rm_vt_2 l Z a0 hw []  w h73 n0 O73 W ) hZ (oW hw 11 rfl) (oW hw 4 rfl) (by decide) (by decide)) (g := (mkF m 244 #[.val (.int p1), .val (.int p2), .val (.int p3), .val (.int 2), .val (.int 2), .val (.int 2), .val (.ref b1), .val (.int (-1)), .val .null, .unset] [(.int 2), (.ref (w 2)), (.ref (w 6))])) rfl (by rw [hml]; rfl) (argsL := [(.int 2)]) (rest := [(.ref (w 2)), (.ref (w 6))]) (lenOf pd_4 rfl) rfl (by show 2 * 0 + _ ≤ _; exact Nat.le_of_eq rfl) (hb hby at_244) (fun _ _ => ⟨rfl, e259, (by decide : 1 + 0 ≤ _), (by decide : 36 + 0 ≤ _)⟩)
        dsimp only [Pt.U, Pt.locs, Pt.cells, Pt.slots] at X260 l260 y260 z260 st260 hQ260
        rw [l260, y260, z260] at X260
        clear l260 y260 z260
        obtain ⟨rfl, Nq260, e260⟩ := hQ260
        have N260 := Fr.app N259 Nq260
        refine oS (fun t k => st260 t k) ?_
        show oG _ _ _ _ _ _ _ (T260.setTop (mkF m 247 #[.val (.int p1), .val (.int p2), .val (.int p3), .val (.int 2), .val (.int 2), .val (.int 2), .val (.ref b1), .val (.int (-1)), .val .null, .unset] [(.ref (w 2)), (.ref (w 2)), (.ref (w 6))]))
        try clear st260 X259 e259
        obtain ⟨cq261, kq261, q261a, q261b, q261c⟩ := isOf hZ e260 ((wE6 W).ext O73.2)
        obtain ⟨_, _, ⟨T261, L261, k261, n261⟩, -, X261, ⟨Lc261, hQ261, l261, y261, z261⟩, st261⟩ := X260.virtualBack hx (y := mY8) (z := mY8) hown (mvT hZ (oW hw 17 rfl)) (mvT hZ (oW hw 18 rfl)) (notFace_of_selects (args := #[]) (mvT hZ (oW hw 20 rfl))) (mvT hZ (oW hw 20 rfl)) (mvT hZ (oW hw 19 rfl)) (by decide) (backOf (W := 0) (rm_ty_222 l Z a0 hw []  w h73 n0 O73 W ) hZ (oW hw 21 rfl) (oW hw 7 rfl) (by decide) (by decide)) q261a q261c (g := (mkF m 247 #[.val (.int p1), .val (.int p2), .val (.int p3), .val (.int 2), .val (.int 2), .val (.int 2), .val (.ref b1), .val (.int (-1)), .val .null, .unset] [(.ref (w 2)), (.ref (w 2)), (.ref (w 6))])) rfl (by rw [hml]; rfl) (Steps.refl _) (argsL := [(.ref (w 2)), (.ref (w 2))]) (rest := []) (lenOf pd_6 rfl) rfl (by show 2 * 0 + _ ≤ _; exact Nat.le_of_eq rfl) (hb hby at_247) (fun _ _ => ⟨rfl, e260, (by decide : 1 + 0 ≤ _), (by decide : 36 + 0 ≤ _)⟩)
        dsimp only [Pt.U, Pt.locs, Pt.cells, Pt.slots] at X261 l261 y261 z261 st261 hQ261
        rw [l261, y261, z261] at X261
        clear l261 y261 z261
        obtain ⟨rfl, Nq261, e261⟩ := hQ261
        have N261 := Fr.app N260 Nq261
        refine oS (fun t k => st261.trans k) ?_
        show oG _ _ _ _ _ _ _ (T261.setTop (mkF m 250 #[.val (.int p1), .val (.int p2), .val (.int p3), .val (.int 2), .val (.int 2), .val (.int 2), .val (.ref b1), .val (.int (-1)), .val .null, .unset] [(.ref (w 7))]))
        try clear st261 X260 e260
        refine oS (fun t k => XS.aconstNull X261.here hx rfl (hb hby at_250) k) ?_
        obtain ⟨cq262, kq262, q262a, q262b, q262c⟩ := isOf hZ e261 ((wE7 W).ext O73.2)
        obtain ⟨_, _, ⟨T262, L262, k262, n262⟩, -, X262, ⟨Lc262, hQ262, l262, y262, z262⟩, st262⟩ := X261.virtualBack hx (y := mY7) (z := mY7) hown (mvT hZ (oW hw 39 rfl)) (mvT hZ (oW hw 40 rfl)) (notFace_of_selects (args := #[]) (mvT hZ (oW hw 42 rfl))) (mvT hZ (oW hw 42 rfl)) (mvT hZ (oW hw 41 rfl)) (by decide) (backOf (W := 0) (rm_oe0 l Z a0 hw [] (w 7)  h73 n0 O73  ((wF7_value W).ext O73.2)) hZ (oW hw 43 rfl) (oW hw 36 rfl) (by decide) (by decide)) q262a q262c (g := (mkF m 251 #[.val (.int p1), .val (.int p2), .val (.int p3), .val (.int 2), .val (.int 2), .val (.int 2), .val (.ref b1), .val (.int (-1)), .val .null, .unset] [.null, (.ref (w 7))])) rfl (by rw [hml]; rfl) (Steps.refl _) (argsL := [.null]) (rest := []) (lenOf pd_0 rfl) rfl (by show 2 * 0 + _ ≤ _; exact Nat.le_of_eq rfl) (hb hby at_251) (fun _ _ => ⟨rfl, e261, (by decide : 1 + 0 ≤ _), (by decide : 36 + 0 ≤ _)⟩)
        dsimp only [Pt.U, Pt.locs, Pt.cells, Pt.slots] at X262 l262 y262 z262 st262 hQ262
        rw [l262, y262, z262] at X262
        clear l262 y262 z262
        obtain ⟨rfl, Nq262, e262⟩ := hQ262
        have N262 := Fr.app N261 Nq262
        refine oS (fun t k => st262.trans k) ?_
        show oG _ _ _ _ _ _ _ (T262.setTop (mkF m 254 #[.val (.int p1), .val (.int p2), .val (.int p3), .val (.int 2), .val (.int 2), .val (.int 2), .val (.ref b1), .val (.int (-1)), .val .null, .unset] [.null]))
        try clear st262 X261 e261
        refine oS (fun t k => X262.checkcastNull hx (g := (mkF m 254 #[.val (.int p1), .val (.int p2), .val (.int p3), .val (.int 2), .val (.int 2), .val (.int 2), .val (.ref b1), .val (.int (-1)), .val .null, .unset] [.null])) rfl rfl (hb hby at_254) t k) ?_
        refine oS (fun t k => XS.astore X262.here hx rfl (hb hby at_257) rfl rfl (l' := #[.val (.int p1), .val (.int p2), .val (.int p3), .val (.int 2), .val (.int 2), .val (.int 2), .val (.ref b1), .val (.int (-1)), .val .null, .val .null]) rfl k) ?_
        refine oS (fun t k => XS.aload X262.here hx rfl (hb hby at_259) rfl rfl k) ?_
        refine oS (fun t k => XS.aload X262.here hx rfl (hb hby at_261) rfl rfl k) ?_
        refine oS (fun t k => Jvm.RoadKit.acmp (g := (mkF m 263 #[.val (.int p1), .val (.int p2), .val (.int p3), .val (.int 2), .val (.int 2), .val (.int 2), .val (.ref b1), .val (.int (-1)), .val .null, .val .null] [.null, .null])) X262 hx rfl rfl rfl (pc0 := 263) (pc' := 266) (same := true) rfl (hb hby at_263) rfl (decide_eq_true rfl) (by decide) (by decide) k) ?_
        show oG _ _ _ _ _ _ _ (T262.setTop (mkF m 266 #[.val (.int p1), .val (.int p2), .val (.int p3), .val (.int 2), .val (.int 2), .val (.int 2), .val (.ref b1), .val (.int (-1)), .val .null, .val .null] []))
        refine oS (fun t k => oIc li_1 X262.here hx rfl (hb hby at_266) k) ?_
        refine oS (fun t k => XS.goto X262.here hx rfl (pc0 := 267) (pc' := 271) rfl (hb hby at_267) (by decide) (by decide) k) ?_
        exact own_ret (v := some (.int 1)) X262 (fun h => by rw [Bd.returns] at h; cases h) Bd.notSynchronized (fun fs hr => retN X262 hx (t := .boolean) Bd.returns (by simp) (hb hby at_271) hr) (by rw [e262]; exact ⟨rfl, N262⟩) (by decide) (by decide)
  · rw [hs74]
    show oG _ _ _ _ _ _ _ (T73.setTop (mkF m 200 #[.val (.int p1), .val (.int p2), .val (.int p3), .val (.int 3), .val (.int ((p2 &&& (2147483647 : Int32)) % (3 : Int32))), .val (.int ((p3 &&& (2147483647 : Int32)) % (3 : Int32))), .val (.ref b1), .unset, .unset, .unset] []))
    show oG _ _ _ _ _ _ _ (T73.setTop (mkF m 200 #[.val (.int p1), .val (.int p2), .val (.int p3), .val (.int 3), .val (.int ((p2 &&& (2147483647 : Int32)) % (3 : Int32))), .val (.int ((p3 &&& (2147483647 : Int32)) % (3 : Int32))), .val (.ref b1), .unset, .unset, .unset] []))
    rcases own_three p2 with hs263 | hs263 | hs263
    · rw [hs263]
      show oG _ _ _ _ _ _ _ (T73.setTop (mkF m 200 #[.val (.int p1), .val (.int p2), .val (.int p3), .val (.int 3), .val (.int 0), .val (.int ((p3 &&& (2147483647 : Int32)) % (3 : Int32))), .val (.ref b1), .unset, .unset, .unset] []))
      show oG _ _ _ _ _ _ _ (T73.setTop (mkF m 200 #[.val (.int p1), .val (.int p2), .val (.int p3), .val (.int 3), .val (.int 0), .val (.int ((p3 &&& (2147483647 : Int32)) % (3 : Int32))), .val (.ref b1), .unset, .unset, .unset] []))
      rcases own_three p3 with hs264 | hs264 | hs264
      · rw [hs264]
        show oG _ _ _ _ _ _ _ (T73.setTop (mkF m 200 #[.val (.int p1), .val (.int p2), .val (.int p3), .val (.int 3), .val (.int 0), .val (.int 0), .val (.ref b1), .unset, .unset, .unset] []))
        refine oS (fun t k => XS.aload X73.here hx rfl (hb hby at_200) rfl rfl k) ?_
        refine oS (fun t k => XS.iloadN X73.here hx rfl (hb hby at_202) rfl k) ?_
        show oG _ _ _ _ _ _ _ (T73.setTop (mkF m 203 #[.val (.int p1), .val (.int p2), .val (.int p3), .val (.int 3), .val (.int 0), .val (.int 0), .val (.ref b1), .unset, .unset, .unset] [(.int 3), (.ref b1)]))
        refine oS (fun t k => oBp lb_9 X73.here hx rfl (hb hby at_203) k) ?_
        refine oS (S' := (T73.setTop (mkF m 206 #[.val (.int p1), .val (.int p2), .val (.int p3), .val (.int 3), .val (.int 0), .val (.int 0), .val (.ref b1), .unset, .unset, .unset] [(.int 27), (.ref b1)]))) (fun t k => XS.imul X73.here hx rfl (hb hby at_205) rfl (by rw [show (3 : Int32) * (9 : Int32) = (27 : Int32) from by decide]; exact k)) ?_
        refine oS (fun t k => XS.iload X73.here hx rfl (hb hby at_206) rfl k) ?_
        refine oS (fun t k => oIc li_3 X73.here hx rfl (hb hby at_208) k) ?_
        refine oS (S' := (T73.setTop (mkF m 210 #[.val (.int p1), .val (.int p2), .val (.int p3), .val (.int 3), .val (.int 0), .val (.int 0), .val (.ref b1), .unset, .unset, .unset] [(.int 0), (.int 27), (.ref b1)]))) (fun t k => XS.imul X73.here hx rfl (hb hby at_209) rfl (by rw [show (0 : Int32) * (3 : Int32) = (0 : Int32) from by decide]; exact k)) ?_
        refine oS (S' := (T73.setTop (mkF m 211 #[.val (.int p1), .val (.int p2), .val (.int p3), .val (.int 3), .val (.int 0), .val (.int 0), .val (.ref b1), .unset, .unset, .unset] [(.int 27), (.ref b1)]))) (fun t k => XS.iadd X73.here hx rfl (hb hby at_210) rfl (by rw [show (27 : Int32) + (0 : Int32) = (27 : Int32) from by decide]; exact k)) ?_
        refine oS (fun t k => XS.iload X73.here hx rfl (hb hby at_211) rfl k) ?_
        refine oS (S' := (T73.setTop (mkF m 214 #[.val (.int p1), .val (.int p2), .val (.int p3), .val (.int 3), .val (.int 0), .val (.int 0), .val (.ref b1), .unset, .unset, .unset] [(.int 27), (.ref b1)]))) (fun t k => XS.iadd X73.here hx rfl (hb hby at_213) rfl (by rw [show (27 : Int32) + (0 : Int32) = (27 : Int32) from by decide]; exact k)) ?_
        obtain ⟨cl265, Ar265, qk265, Sz265, Ng265, Ha265, Gf265⟩ := id V73
        have hin265 : ¬ ((27 : Int32) < 0 ∨ cl265.slots.size ≤ ((27 : Int32)).toNatClampNeg) := (inb_of Sz265 ⟨by decide, by decide⟩)
        have hat265 : cl265.slots[((27 : Int32)).toNatClampNeg]? = some (.int 0) := Ha265.at hin265 rfl
        refine oS (fun t k => X73.iaload hx (j := (27 : Int32)) (v := (.int 0)) (by rw [e73]; exact Ar265.1) (State.isArrayOf_alike hZ.alike Ar265.2.1) Ar265.2.2 hin265 hat265 (g := (mkF m 214 #[.val (.int p1), .val (.int p2), .val (.int p3), .val (.int 3), .val (.int 0), .val (.int 0), .val (.ref b1), .unset, .unset, .unset] [(.int 27), (.ref b1)])) rfl rfl (hb hby at_214) t k) ?_
        refine oS (fun t k => XS.istore X73.here hx rfl (hb hby at_215) rfl (l' := #[.val (.int p1), .val (.int p2), .val (.int p3), .val (.int 3), .val (.int 0), .val (.int 0), .val (.ref b1), .val (.int 0), .unset, .unset]) rfl k) ?_
        show oG _ _ _ _ _ _ _ (T73.setTop (mkF m 217 #[.val (.int p1), .val (.int p2), .val (.int p3), .val (.int 3), .val (.int 0), .val (.int 0), .val (.ref b1), .val (.int 0), .unset, .unset] []))
        refine oS (fun t k => XS.iload X73.here hx rfl (hb hby at_217) rfl k) ?_
        refine oS (fun t k => XS.ifYes X73.here hx rfl (pc0 := 219) (pc' := 226) rfl (hb hby at_219) rfl ((if0 _ _).trans (flt (by decide)).2.1) (by decide) (by decide) k) ?_
        refine oS (fun t k => XS.iload X73.here hx rfl (hb hby at_226) rfl k) ?_
        obtain ⟨_, _, ⟨T266, L266, k266, n266⟩, -, X266, ⟨Lc266, hQ266, l266, y266, z266⟩, st266⟩ := Jvm.LawKit.callS X73 hx (y := mY2) hown (mvT hZ (oW hw 9 rfl)) (mvT hZ (oW hw 10 rfl)) (mvT hZ (oW hw 4 rfl)) (mvT hZ (oW hw 11 rfl)) (by decide) (backOf (W := 0) (rm_vt_0 l Z a0 hw []  w h73 n0 O73 W ) hZ (oW hw 11 rfl) (oW hw 4 rfl) (by decide) (by decide)) (g := (mkF m 228 #[.val (.int p1), .val (.int p2), .val (.int p3), .val (.int 3), .val (.int 0), .val (.int 0), .val (.ref b1), .val (.int 0), .unset, .unset] [(.int 0)])) rfl (by rw [hml]; rfl) (argsL := [(.int 0)]) (rest := []) (lenOf pd_4 rfl) rfl (by show 2 * 0 + _ ≤ _; exact Nat.le_of_eq rfl) (hb hby at_228) (fun _ _ => ⟨rfl, e73, (by decide : 1 + 0 ≤ _), (by decide : 36 + 0 ≤ _)⟩)
        dsimp only [Pt.U, Pt.locs, Pt.cells, Pt.slots] at X266 l266 y266 z266 st266 hQ266
        rw [l266, y266, z266] at X266
        clear l266 y266 z266
        obtain ⟨rfl, Nq266, e266⟩ := hQ266
        have N266 := Fr.app N73 Nq266
        refine oS (fun t k => st266 t k) ?_
        show oG _ _ _ _ _ _ _ (T266.setTop (mkF m 231 #[.val (.int p1), .val (.int p2), .val (.int p3), .val (.int 3), .val (.int 0), .val (.int 0), .val (.ref b1), .val (.int 0), .unset, .unset] [(.ref (w 1))]))
        try clear st266 X73 e73
        try clear T73
        refine oS (fun t k => XS.astore X266.here hx rfl (hb hby at_231) rfl rfl (l' := #[.val (.int p1), .val (.int p2), .val (.int p3), .val (.int 3), .val (.int 0), .val (.int 0), .val (.ref b1), .val (.int 0), .val (.ref (w 1)), .unset]) rfl k) ?_
        refine oS (fun t k => XS.iloadN X266.here hx rfl (hb hby at_233) rfl k) ?_
        obtain ⟨_, _, ⟨T267, L267, k267, n267⟩, -, X267, ⟨Lc267, hQ267, l267, y267, z267⟩, st267⟩ := Jvm.LawKit.callS X266 hx (y := mY0) hown (mvT hZ (oW hw 2 rfl)) (mvT hZ (oW hw 3 rfl)) (mvT hZ (oW hw 4 rfl)) (mvT hZ (oW hw 5 rfl)) (by decide) (backOf (W := 0) (rm_op_3 l Z a0 hw []  w h73 n0 O73 W ) hZ (oW hw 5 rfl) (oW hw 4 rfl) (by decide) (by decide)) (g := (mkF m 234 #[.val (.int p1), .val (.int p2), .val (.int p3), .val (.int 3), .val (.int 0), .val (.int 0), .val (.ref b1), .val (.int 0), .val (.ref (w 1)), .unset] [(.int 3)])) rfl (by rw [hml]; rfl) (argsL := [(.int 3)]) (rest := []) (lenOf pd_5 rfl) rfl (by show 2 * 0 + _ ≤ _; exact Nat.le_of_eq rfl) (hb hby at_234) (fun _ _ => ⟨rfl, e266, (by decide : 1 + 0 ≤ _), (by decide : 36 + 0 ≤ _)⟩)
        dsimp only [Pt.U, Pt.locs, Pt.cells, Pt.slots] at X267 l267 y267 z267 st267 hQ267
        rw [l267, y267, z267] at X267
        clear l267 y267 z267
        obtain ⟨rfl, Nq267, e267⟩ := hQ267
        have N267 := Fr.app N266 Nq267
        refine oS (fun t k => st267 t k) ?_
        show oG _ _ _ _ _ _ _ (T267.setTop (mkF m 237 #[.val (.int p1), .val (.int p2), .val (.int p3), .val (.int 3), .val (.int 0), .val (.int 0), .val (.ref b1), .val (.int 0), .val (.ref (w 1)), .unset] [(.ref (w 5))]))
        try clear st267 X266 e266
        refine oS (fun t k => XS.iload X267.here hx rfl (hb hby at_237) rfl k) ?_
        obtain ⟨_, _, ⟨T268, L268, k268, n268⟩, -, X268, ⟨Lc268, hQ268, l268, y268, z268⟩, st268⟩ := Jvm.LawKit.callS X267 hx (y := mY2) hown (mvT hZ (oW hw 9 rfl)) (mvT hZ (oW hw 10 rfl)) (mvT hZ (oW hw 4 rfl)) (mvT hZ (oW hw 11 rfl)) (by decide) (backOf (W := 1) (rm_vt_0 l Z a0 hw []  w h73 n0 O73 W ) hZ (oW hw 11 rfl) (oW hw 4 rfl) (by decide) (by decide)) (g := (mkF m 239 #[.val (.int p1), .val (.int p2), .val (.int p3), .val (.int 3), .val (.int 0), .val (.int 0), .val (.ref b1), .val (.int 0), .val (.ref (w 1)), .unset] [(.int 0), (.ref (w 5))])) rfl (by rw [hml]; rfl) (argsL := [(.int 0)]) (rest := [(.ref (w 5))]) (lenOf pd_4 rfl) rfl (by show 2 * 0 + _ ≤ _; exact Nat.le_of_eq rfl) (hb hby at_239) (fun _ _ => ⟨rfl, e267, (by decide : 1 + 0 ≤ _), (by decide : 36 + 0 ≤ _)⟩)
        dsimp only [Pt.U, Pt.locs, Pt.cells, Pt.slots] at X268 l268 y268 z268 st268 hQ268
        rw [l268, y268, z268] at X268
        clear l268 y268 z268
        obtain ⟨rfl, Nq268, e268⟩ := hQ268
        have N268 := Fr.app N267 Nq268
        refine oS (fun t k => st268 t k) ?_
        show oG _ _ _ _ _ _ _ (T268.setTop (mkF m 242 #[.val (.int p1), .val (.int p2), .val (.int p3), .val (.int 3), .val (.int 0), .val (.int 0), .val (.ref b1), .val (.int 0), .val (.ref (w 1)), .unset] [(.ref (w 1)), (.ref (w 5))]))
        try clear st268 X267 e267
        refine oS (fun t k => XS.iload X268.here hx rfl (hb hby at_242) rfl k) ?_
        obtain ⟨_, _, ⟨T269, L269, k269, n269⟩, -, X269, ⟨Lc269, hQ269, l269, y269, z269⟩, st269⟩ := Jvm.LawKit.callS X268 hx (y := mY2) hown (mvT hZ (oW hw 9 rfl)) (mvT hZ (oW hw 10 rfl)) (mvT hZ (oW hw 4 rfl)) (mvT hZ (oW hw 11 rfl)) (by decide) (backOf (W := 2) (rm_vt_0 l Z a0 hw []  w h73 n0 O73 W ) hZ (oW hw 11 rfl) (oW hw 4 rfl) (by decide) (by decide)) (g := (mkF m 244 #[.val (.int p1), .val (.int p2), .val (.int p3), .val (.int 3), .val (.int 0), .val (.int 0), .val (.ref b1), .val (.int 0), .val (.ref (w 1)), .unset] [(.int 0), (.ref (w 1)), (.ref (w 5))])) rfl (by rw [hml]; rfl) (argsL := [(.int 0)]) (rest := [(.ref (w 1)), (.ref (w 5))]) (lenOf pd_4 rfl) rfl (by show 2 * 0 + _ ≤ _; exact Nat.le_of_eq rfl) (hb hby at_244) (fun _ _ => ⟨rfl, e268, (by decide : 1 + 0 ≤ _), (by decide : 36 + 0 ≤ _)⟩)
        dsimp only [Pt.U, Pt.locs, Pt.cells, Pt.slots] at X269 l269 y269 z269 st269 hQ269
        rw [l269, y269, z269] at X269
        clear l269 y269 z269
        obtain ⟨rfl, Nq269, e269⟩ := hQ269
        have N269 := Fr.app N268 Nq269
        refine oS (fun t k => st269 t k) ?_
        show oG _ _ _ _ _ _ _ (T269.setTop (mkF m 247 #[.val (.int p1), .val (.int p2), .val (.int p3), .val (.int 3), .val (.int 0), .val (.int 0), .val (.ref b1), .val (.int 0), .val (.ref (w 1)), .unset] [(.ref (w 1)), (.ref (w 1)), (.ref (w 5))]))
        try clear st269 X268 e268
        obtain ⟨cq270, kq270, q270a, q270b, q270c⟩ := isOf hZ e269 ((wE5 W).ext O73.2)
        obtain ⟨_, _, ⟨T270, L270, k270, n270⟩, -, X270, ⟨Lc270, hQ270, l270, y270, z270⟩, st270⟩ := X269.virtualBack hx (y := mY8) (z := mY8) hown (mvT hZ (oW hw 17 rfl)) (mvT hZ (oW hw 18 rfl)) (notFace_of_selects (args := #[]) (mvT hZ (oW hw 20 rfl))) (mvT hZ (oW hw 20 rfl)) (mvT hZ (oW hw 19 rfl)) (by decide) (backOf (W := 0) (rm_ty_300 l Z a0 hw []  w h73 n0 O73 W ) hZ (oW hw 21 rfl) (oW hw 7 rfl) (by decide) (by decide)) q270a q270c (g := (mkF m 247 #[.val (.int p1), .val (.int p2), .val (.int p3), .val (.int 3), .val (.int 0), .val (.int 0), .val (.ref b1), .val (.int 0), .val (.ref (w 1)), .unset] [(.ref (w 1)), (.ref (w 1)), (.ref (w 5))])) rfl (by rw [hml]; rfl) (Steps.refl _) (argsL := [(.ref (w 1)), (.ref (w 1))]) (rest := []) (lenOf pd_6 rfl) rfl (by show 2 * 0 + _ ≤ _; exact Nat.le_of_eq rfl) (hb hby at_247) (fun _ _ => ⟨rfl, e269, (by decide : 1 + 1 ≤ _), (by decide : 36 + 1 ≤ _)⟩)
        dsimp only [Pt.U, Pt.locs, Pt.cells, Pt.slots] at X270 l270 y270 z270 st270 hQ270
        rw [l270, y270, z270] at X270
        clear l270 y270 z270
        obtain ⟨r270, rfl, Nq270, K270, sr270, P270_0, P270_1⟩ := hQ270
        have N270 := Fr.app N269 Nq270
        have O270 := O73.keep K270 (fun x q => absurd q List.not_mem_nil)
        have gr270 : n0 ≤ r270 := Nat.le_trans (O73.1 ▸ O73.2.1) sr270
        have ne_b1_r270 : b1 ≠ r270 := Nat.ne_of_lt (Nat.lt_of_lt_of_le V73.lt sr270)
        refine oS (fun t k => st270.trans k) ?_
        show oG _ _ _ _ _ _ _ (T270.setTop (mkF m 250 #[.val (.int p1), .val (.int p2), .val (.int p3), .val (.int 3), .val (.int 0), .val (.int 0), .val (.ref b1), .val (.int 0), .val (.ref (w 1)), .unset] [(.ref r270)]))
        try clear st270 X269 e269
        refine oS (fun t k => XS.aconstNull X270.here hx rfl (hb hby at_250) k) ?_
        obtain ⟨cq271, kq271, q271a, q271b, q271c⟩ := isOf hZ rfl P270_0
        obtain ⟨_, _, ⟨T271, L271, k271, n271⟩, -, X271, ⟨Lc271, hQ271, l271, y271, z271⟩, st271⟩ := X270.virtualBack hx (y := mY7) (z := mY7) hown (mvT hZ (oW hw 39 rfl)) (mvT hZ (oW hw 40 rfl)) (notFace_of_selects (args := #[]) (mvT hZ (oW hw 42 rfl))) (mvT hZ (oW hw 42 rfl)) (mvT hZ (oW hw 41 rfl)) (by decide) (backOf (W := 0) (rm_oe l Z a0 hw [] r270 (w 1)  T270.heap n0 O270  P270_1) hZ (oW hw 43 rfl) (oW hw 36 rfl) (by decide) (by decide)) q271a q271c (g := (mkF m 251 #[.val (.int p1), .val (.int p2), .val (.int p3), .val (.int 3), .val (.int 0), .val (.int 0), .val (.ref b1), .val (.int 0), .val (.ref (w 1)), .unset] [.null, (.ref r270)])) rfl (by rw [hml]; rfl) (Steps.refl _) (argsL := [.null]) (rest := []) (lenOf pd_0 rfl) rfl (by show 2 * 0 + _ ≤ _; exact Nat.le_of_eq rfl) (hb hby at_251) (fun _ _ => ⟨rfl, rfl, (by decide : 2 + 0 ≤ _), (by decide : 37 + 0 ≤ _)⟩)
        dsimp only [Pt.U, Pt.locs, Pt.cells, Pt.slots] at X271 l271 y271 z271 st271 hQ271
        rw [l271, y271, z271] at X271
        clear l271 y271 z271
        obtain ⟨rfl, Nq271, e271⟩ := hQ271
        have N271 := Fr.app N270 Nq271
        refine oS (fun t k => st271.trans k) ?_
        show oG _ _ _ _ _ _ _ (T271.setTop (mkF m 254 #[.val (.int p1), .val (.int p2), .val (.int p3), .val (.int 3), .val (.int 0), .val (.int 0), .val (.ref b1), .val (.int 0), .val (.ref (w 1)), .unset] [(.ref (w 1))]))
        try clear st271 X270 e270
        obtain ⟨T272, X272, e272, st272⟩ := castY X271 hx hZ hown (oW hw 64 rfl) e271 (Ins.self ((wE1 W).ext O270.2)) (g := (mkF m 254 #[.val (.int p1), .val (.int p2), .val (.int p3), .val (.int 3), .val (.int 0), .val (.int 0), .val (.ref b1), .val (.int 0), .val (.ref (w 1)), .unset] [(.ref (w 1))])) rfl rfl (hb hby at_254)
        refine oS (fun t k => st272 t k) ?_
        try clear st272 X271 e271
        refine oS (fun t k => XS.astore X272.here hx rfl (hb hby at_257) rfl rfl (l' := #[.val (.int p1), .val (.int p2), .val (.int p3), .val (.int 3), .val (.int 0), .val (.int 0), .val (.ref b1), .val (.int 0), .val (.ref (w 1)), .val (.ref (w 1))]) rfl k) ?_
        refine oS (fun t k => XS.aload X272.here hx rfl (hb hby at_259) rfl rfl k) ?_
        refine oS (fun t k => XS.aload X272.here hx rfl (hb hby at_261) rfl rfl k) ?_
        refine oS (fun t k => Jvm.RoadKit.acmp (g := (mkF m 263 #[.val (.int p1), .val (.int p2), .val (.int p3), .val (.int 3), .val (.int 0), .val (.int 0), .val (.ref b1), .val (.int 0), .val (.ref (w 1)), .val (.ref (w 1))] [(.ref (w 1)), (.ref (w 1))])) X272 hx rfl rfl rfl (pc0 := 263) (pc' := 266) (same := true) rfl (hb hby at_263) rfl (decide_eq_true rfl) (by decide) (by decide) k) ?_
        show oG _ _ _ _ _ _ _ (T272.setTop (mkF m 266 #[.val (.int p1), .val (.int p2), .val (.int p3), .val (.int 3), .val (.int 0), .val (.int 0), .val (.ref b1), .val (.int 0), .val (.ref (w 1)), .val (.ref (w 1))] []))
        refine oS (fun t k => oIc li_1 X272.here hx rfl (hb hby at_266) k) ?_
        refine oS (fun t k => XS.goto X272.here hx rfl (pc0 := 267) (pc' := 271) rfl (hb hby at_267) (by decide) (by decide) k) ?_
        exact own_ret (v := some (.int 1)) X272 (fun h => by rw [Bd.returns] at h; cases h) Bd.notSynchronized (fun fs hr => retN X272 hx (t := .boolean) Bd.returns (by simp) (hb hby at_271) hr) (by rw [e272]; exact ⟨rfl, N271⟩) (by decide) (by decide)
      · rw [hs264]
        show oG _ _ _ _ _ _ _ (T73.setTop (mkF m 200 #[.val (.int p1), .val (.int p2), .val (.int p3), .val (.int 3), .val (.int 0), .val (.int 1), .val (.ref b1), .unset, .unset, .unset] []))
        refine oS (fun t k => XS.aload X73.here hx rfl (hb hby at_200) rfl rfl k) ?_
        refine oS (fun t k => XS.iloadN X73.here hx rfl (hb hby at_202) rfl k) ?_
        show oG _ _ _ _ _ _ _ (T73.setTop (mkF m 203 #[.val (.int p1), .val (.int p2), .val (.int p3), .val (.int 3), .val (.int 0), .val (.int 1), .val (.ref b1), .unset, .unset, .unset] [(.int 3), (.ref b1)]))
        refine oS (fun t k => oBp lb_9 X73.here hx rfl (hb hby at_203) k) ?_
        refine oS (S' := (T73.setTop (mkF m 206 #[.val (.int p1), .val (.int p2), .val (.int p3), .val (.int 3), .val (.int 0), .val (.int 1), .val (.ref b1), .unset, .unset, .unset] [(.int 27), (.ref b1)]))) (fun t k => XS.imul X73.here hx rfl (hb hby at_205) rfl (by rw [show (3 : Int32) * (9 : Int32) = (27 : Int32) from by decide]; exact k)) ?_
        refine oS (fun t k => XS.iload X73.here hx rfl (hb hby at_206) rfl k) ?_
        refine oS (fun t k => oIc li_3 X73.here hx rfl (hb hby at_208) k) ?_
        refine oS (S' := (T73.setTop (mkF m 210 #[.val (.int p1), .val (.int p2), .val (.int p3), .val (.int 3), .val (.int 0), .val (.int 1), .val (.ref b1), .unset, .unset, .unset] [(.int 0), (.int 27), (.ref b1)]))) (fun t k => XS.imul X73.here hx rfl (hb hby at_209) rfl (by rw [show (0 : Int32) * (3 : Int32) = (0 : Int32) from by decide]; exact k)) ?_
        refine oS (S' := (T73.setTop (mkF m 211 #[.val (.int p1), .val (.int p2), .val (.int p3), .val (.int 3), .val (.int 0), .val (.int 1), .val (.ref b1), .unset, .unset, .unset] [(.int 27), (.ref b1)]))) (fun t k => XS.iadd X73.here hx rfl (hb hby at_210) rfl (by rw [show (27 : Int32) + (0 : Int32) = (27 : Int32) from by decide]; exact k)) ?_
        refine oS (fun t k => XS.iload X73.here hx rfl (hb hby at_211) rfl k) ?_
        refine oS (S' := (T73.setTop (mkF m 214 #[.val (.int p1), .val (.int p2), .val (.int p3), .val (.int 3), .val (.int 0), .val (.int 1), .val (.ref b1), .unset, .unset, .unset] [(.int 28), (.ref b1)]))) (fun t k => XS.iadd X73.here hx rfl (hb hby at_213) rfl (by rw [show (27 : Int32) + (1 : Int32) = (28 : Int32) from by decide]; exact k)) ?_
        obtain ⟨cl273, Ar273, qk273, Sz273, Ng273, Ha273, Gf273⟩ := id V73
        have hin273 : ¬ ((28 : Int32) < 0 ∨ cl273.slots.size ≤ ((28 : Int32)).toNatClampNeg) := (inb_of Sz273 ⟨by decide, by decide⟩)
        have hat273 : cl273.slots[((28 : Int32)).toNatClampNeg]? = some (.int (-1)) := Ha273.at hin273 rfl
        refine oS (fun t k => X73.iaload hx (j := (28 : Int32)) (v := (.int (-1))) (by rw [e73]; exact Ar273.1) (State.isArrayOf_alike hZ.alike Ar273.2.1) Ar273.2.2 hin273 hat273 (g := (mkF m 214 #[.val (.int p1), .val (.int p2), .val (.int p3), .val (.int 3), .val (.int 0), .val (.int 1), .val (.ref b1), .unset, .unset, .unset] [(.int 28), (.ref b1)])) rfl rfl (hb hby at_214) t k) ?_
        refine oS (fun t k => XS.istore X73.here hx rfl (hb hby at_215) rfl (l' := #[.val (.int p1), .val (.int p2), .val (.int p3), .val (.int 3), .val (.int 0), .val (.int 1), .val (.ref b1), .val (.int (-1)), .unset, .unset]) rfl k) ?_
        show oG _ _ _ _ _ _ _ (T73.setTop (mkF m 217 #[.val (.int p1), .val (.int p2), .val (.int p3), .val (.int 3), .val (.int 0), .val (.int 1), .val (.ref b1), .val (.int (-1)), .unset, .unset] []))
        refine oS (fun t k => XS.iload X73.here hx rfl (hb hby at_217) rfl k) ?_
        refine oS (fun t k => XS.ifNo X73.here hx rfl (hb hby at_219) rfl ((if0 _ _).trans (tlt (by decide)).2.1) k) ?_
        refine oS (fun t k => XS.aconstNull X73.here hx rfl (hb hby at_222) k) ?_
        refine oS (fun t k => XS.goto X73.here hx rfl (pc0 := 223) (pc' := 231) rfl (hb hby at_223) (by decide) (by decide) k) ?_
        refine oS (fun t k => XS.astore X73.here hx rfl (hb hby at_231) rfl rfl (l' := #[.val (.int p1), .val (.int p2), .val (.int p3), .val (.int 3), .val (.int 0), .val (.int 1), .val (.ref b1), .val (.int (-1)), .val .null, .unset]) rfl k) ?_
        show oG _ _ _ _ _ _ _ (T73.setTop (mkF m 233 #[.val (.int p1), .val (.int p2), .val (.int p3), .val (.int 3), .val (.int 0), .val (.int 1), .val (.ref b1), .val (.int (-1)), .val .null, .unset] []))
        refine oS (fun t k => XS.iloadN X73.here hx rfl (hb hby at_233) rfl k) ?_
        obtain ⟨_, _, ⟨T274, L274, k274, n274⟩, -, X274, ⟨Lc274, hQ274, l274, y274, z274⟩, st274⟩ := Jvm.LawKit.callS X73 hx (y := mY0) hown (mvT hZ (oW hw 2 rfl)) (mvT hZ (oW hw 3 rfl)) (mvT hZ (oW hw 4 rfl)) (mvT hZ (oW hw 5 rfl)) (by decide) (backOf (W := 0) (rm_op_3 l Z a0 hw []  w h73 n0 O73 W ) hZ (oW hw 5 rfl) (oW hw 4 rfl) (by decide) (by decide)) (g := (mkF m 234 #[.val (.int p1), .val (.int p2), .val (.int p3), .val (.int 3), .val (.int 0), .val (.int 1), .val (.ref b1), .val (.int (-1)), .val .null, .unset] [(.int 3)])) rfl (by rw [hml]; rfl) (argsL := [(.int 3)]) (rest := []) (lenOf pd_5 rfl) rfl (by show 2 * 0 + _ ≤ _; exact Nat.le_of_eq rfl) (hb hby at_234) (fun _ _ => ⟨rfl, e73, (by decide : 1 + 0 ≤ _), (by decide : 36 + 0 ≤ _)⟩)
        dsimp only [Pt.U, Pt.locs, Pt.cells, Pt.slots] at X274 l274 y274 z274 st274 hQ274
        rw [l274, y274, z274] at X274
        clear l274 y274 z274
        obtain ⟨rfl, Nq274, e274⟩ := hQ274
        have N274 := Fr.app N73 Nq274
        refine oS (fun t k => st274 t k) ?_
        show oG _ _ _ _ _ _ _ (T274.setTop (mkF m 237 #[.val (.int p1), .val (.int p2), .val (.int p3), .val (.int 3), .val (.int 0), .val (.int 1), .val (.ref b1), .val (.int (-1)), .val .null, .unset] [(.ref (w 5))]))
        try clear st274 X73 e73
        try clear T73
        refine oS (fun t k => XS.iload X274.here hx rfl (hb hby at_237) rfl k) ?_
        obtain ⟨_, _, ⟨T275, L275, k275, n275⟩, -, X275, ⟨Lc275, hQ275, l275, y275, z275⟩, st275⟩ := Jvm.LawKit.callS X274 hx (y := mY2) hown (mvT hZ (oW hw 9 rfl)) (mvT hZ (oW hw 10 rfl)) (mvT hZ (oW hw 4 rfl)) (mvT hZ (oW hw 11 rfl)) (by decide) (backOf (W := 1) (rm_vt_0 l Z a0 hw []  w h73 n0 O73 W ) hZ (oW hw 11 rfl) (oW hw 4 rfl) (by decide) (by decide)) (g := (mkF m 239 #[.val (.int p1), .val (.int p2), .val (.int p3), .val (.int 3), .val (.int 0), .val (.int 1), .val (.ref b1), .val (.int (-1)), .val .null, .unset] [(.int 0), (.ref (w 5))])) rfl (by rw [hml]; rfl) (argsL := [(.int 0)]) (rest := [(.ref (w 5))]) (lenOf pd_4 rfl) rfl (by show 2 * 0 + _ ≤ _; exact Nat.le_of_eq rfl) (hb hby at_239) (fun _ _ => ⟨rfl, e274, (by decide : 1 + 0 ≤ _), (by decide : 36 + 0 ≤ _)⟩)
        dsimp only [Pt.U, Pt.locs, Pt.cells, Pt.slots] at X275 l275 y275 z275 st275 hQ275
        rw [l275, y275, z275] at X275
        clear l275 y275 z275
        obtain ⟨rfl, Nq275, e275⟩ := hQ275
        have N275 := Fr.app N274 Nq275
        refine oS (fun t k => st275 t k) ?_
        show oG _ _ _ _ _ _ _ (T275.setTop (mkF m 242 #[.val (.int p1), .val (.int p2), .val (.int p3), .val (.int 3), .val (.int 0), .val (.int 1), .val (.ref b1), .val (.int (-1)), .val .null, .unset] [(.ref (w 1)), (.ref (w 5))]))
        try clear st275 X274 e274
        refine oS (fun t k => XS.iload X275.here hx rfl (hb hby at_242) rfl k) ?_
        obtain ⟨_, _, ⟨T276, L276, k276, n276⟩, -, X276, ⟨Lc276, hQ276, l276, y276, z276⟩, st276⟩ := Jvm.LawKit.callS X275 hx (y := mY2) hown (mvT hZ (oW hw 9 rfl)) (mvT hZ (oW hw 10 rfl)) (mvT hZ (oW hw 4 rfl)) (mvT hZ (oW hw 11 rfl)) (by decide) (backOf (W := 2) (rm_vt_1 l Z a0 hw []  w h73 n0 O73 W ) hZ (oW hw 11 rfl) (oW hw 4 rfl) (by decide) (by decide)) (g := (mkF m 244 #[.val (.int p1), .val (.int p2), .val (.int p3), .val (.int 3), .val (.int 0), .val (.int 1), .val (.ref b1), .val (.int (-1)), .val .null, .unset] [(.int 1), (.ref (w 1)), (.ref (w 5))])) rfl (by rw [hml]; rfl) (argsL := [(.int 1)]) (rest := [(.ref (w 1)), (.ref (w 5))]) (lenOf pd_4 rfl) rfl (by show 2 * 0 + _ ≤ _; exact Nat.le_of_eq rfl) (hb hby at_244) (fun _ _ => ⟨rfl, e275, (by decide : 1 + 0 ≤ _), (by decide : 36 + 0 ≤ _)⟩)
        dsimp only [Pt.U, Pt.locs, Pt.cells, Pt.slots] at X276 l276 y276 z276 st276 hQ276
        rw [l276, y276, z276] at X276
        clear l276 y276 z276
        obtain ⟨rfl, Nq276, e276⟩ := hQ276
        have N276 := Fr.app N275 Nq276
        refine oS (fun t k => st276 t k) ?_
        show oG _ _ _ _ _ _ _ (T276.setTop (mkF m 247 #[.val (.int p1), .val (.int p2), .val (.int p3), .val (.int 3), .val (.int 0), .val (.int 1), .val (.ref b1), .val (.int (-1)), .val .null, .unset] [(.ref (w 3)), (.ref (w 1)), (.ref (w 5))]))
        try clear st276 X275 e275
        obtain ⟨cq277, kq277, q277a, q277b, q277c⟩ := isOf hZ e276 ((wE5 W).ext O73.2)
        obtain ⟨_, _, ⟨T277, L277, k277, n277⟩, -, X277, ⟨Lc277, hQ277, l277, y277, z277⟩, st277⟩ := X276.virtualBack hx (y := mY8) (z := mY8) hown (mvT hZ (oW hw 17 rfl)) (mvT hZ (oW hw 18 rfl)) (notFace_of_selects (args := #[]) (mvT hZ (oW hw 20 rfl))) (mvT hZ (oW hw 20 rfl)) (mvT hZ (oW hw 19 rfl)) (by decide) (backOf (W := 0) (rm_ty_301 l Z a0 hw []  w h73 n0 O73 W ) hZ (oW hw 21 rfl) (oW hw 7 rfl) (by decide) (by decide)) q277a q277c (g := (mkF m 247 #[.val (.int p1), .val (.int p2), .val (.int p3), .val (.int 3), .val (.int 0), .val (.int 1), .val (.ref b1), .val (.int (-1)), .val .null, .unset] [(.ref (w 3)), (.ref (w 1)), (.ref (w 5))])) rfl (by rw [hml]; rfl) (Steps.refl _) (argsL := [(.ref (w 1)), (.ref (w 3))]) (rest := []) (lenOf pd_6 rfl) rfl (by show 2 * 0 + _ ≤ _; exact Nat.le_of_eq rfl) (hb hby at_247) (fun _ _ => ⟨rfl, e276, (by decide : 1 + 0 ≤ _), (by decide : 36 + 0 ≤ _)⟩)
        dsimp only [Pt.U, Pt.locs, Pt.cells, Pt.slots] at X277 l277 y277 z277 st277 hQ277
        rw [l277, y277, z277] at X277
        clear l277 y277 z277
        obtain ⟨rfl, Nq277, e277⟩ := hQ277
        have N277 := Fr.app N276 Nq277
        refine oS (fun t k => st277.trans k) ?_
        show oG _ _ _ _ _ _ _ (T277.setTop (mkF m 250 #[.val (.int p1), .val (.int p2), .val (.int p3), .val (.int 3), .val (.int 0), .val (.int 1), .val (.ref b1), .val (.int (-1)), .val .null, .unset] [(.ref (w 7))]))
        try clear st277 X276 e276
        refine oS (fun t k => XS.aconstNull X277.here hx rfl (hb hby at_250) k) ?_
        obtain ⟨cq278, kq278, q278a, q278b, q278c⟩ := isOf hZ e277 ((wE7 W).ext O73.2)
        obtain ⟨_, _, ⟨T278, L278, k278, n278⟩, -, X278, ⟨Lc278, hQ278, l278, y278, z278⟩, st278⟩ := X277.virtualBack hx (y := mY7) (z := mY7) hown (mvT hZ (oW hw 39 rfl)) (mvT hZ (oW hw 40 rfl)) (notFace_of_selects (args := #[]) (mvT hZ (oW hw 42 rfl))) (mvT hZ (oW hw 42 rfl)) (mvT hZ (oW hw 41 rfl)) (by decide) (backOf (W := 0) (rm_oe0 l Z a0 hw [] (w 7)  h73 n0 O73  ((wF7_value W).ext O73.2)) hZ (oW hw 43 rfl) (oW hw 36 rfl) (by decide) (by decide)) q278a q278c (g := (mkF m 251 #[.val (.int p1), .val (.int p2), .val (.int p3), .val (.int 3), .val (.int 0), .val (.int 1), .val (.ref b1), .val (.int (-1)), .val .null, .unset] [.null, (.ref (w 7))])) rfl (by rw [hml]; rfl) (Steps.refl _) (argsL := [.null]) (rest := []) (lenOf pd_0 rfl) rfl (by show 2 * 0 + _ ≤ _; exact Nat.le_of_eq rfl) (hb hby at_251) (fun _ _ => ⟨rfl, e277, (by decide : 1 + 0 ≤ _), (by decide : 36 + 0 ≤ _)⟩)
        dsimp only [Pt.U, Pt.locs, Pt.cells, Pt.slots] at X278 l278 y278 z278 st278 hQ278
        rw [l278, y278, z278] at X278
        clear l278 y278 z278
        obtain ⟨rfl, Nq278, e278⟩ := hQ278
        have N278 := Fr.app N277 Nq278
        refine oS (fun t k => st278.trans k) ?_
        show oG _ _ _ _ _ _ _ (T278.setTop (mkF m 254 #[.val (.int p1), .val (.int p2), .val (.int p3), .val (.int 3), .val (.int 0), .val (.int 1), .val (.ref b1), .val (.int (-1)), .val .null, .unset] [.null]))
        try clear st278 X277 e277
        refine oS (fun t k => X278.checkcastNull hx (g := (mkF m 254 #[.val (.int p1), .val (.int p2), .val (.int p3), .val (.int 3), .val (.int 0), .val (.int 1), .val (.ref b1), .val (.int (-1)), .val .null, .unset] [.null])) rfl rfl (hb hby at_254) t k) ?_
        refine oS (fun t k => XS.astore X278.here hx rfl (hb hby at_257) rfl rfl (l' := #[.val (.int p1), .val (.int p2), .val (.int p3), .val (.int 3), .val (.int 0), .val (.int 1), .val (.ref b1), .val (.int (-1)), .val .null, .val .null]) rfl k) ?_
        refine oS (fun t k => XS.aload X278.here hx rfl (hb hby at_259) rfl rfl k) ?_
        refine oS (fun t k => XS.aload X278.here hx rfl (hb hby at_261) rfl rfl k) ?_
        refine oS (fun t k => Jvm.RoadKit.acmp (g := (mkF m 263 #[.val (.int p1), .val (.int p2), .val (.int p3), .val (.int 3), .val (.int 0), .val (.int 1), .val (.ref b1), .val (.int (-1)), .val .null, .val .null] [.null, .null])) X278 hx rfl rfl rfl (pc0 := 263) (pc' := 266) (same := true) rfl (hb hby at_263) rfl (decide_eq_true rfl) (by decide) (by decide) k) ?_
        show oG _ _ _ _ _ _ _ (T278.setTop (mkF m 266 #[.val (.int p1), .val (.int p2), .val (.int p3), .val (.int 3), .val (.int 0), .val (.int 1), .val (.ref b1), .val (.int (-1)), .val .null, .val .null] []))
        refine oS (fun t k => oIc li_1 X278.here hx rfl (hb hby at_266) k) ?_
        refine oS (fun t k => XS.goto X278.here hx rfl (pc0 := 267) (pc' := 271) rfl (hb hby at_267) (by decide) (by decide) k) ?_
        exact own_ret (v := some (.int 1)) X278 (fun h => by rw [Bd.returns] at h; cases h) Bd.notSynchronized (fun fs hr => retN X278 hx (t := .boolean) Bd.returns (by simp) (hb hby at_271) hr) (by rw [e278]; exact ⟨rfl, N278⟩) (by decide) (by decide)
      · rw [hs264]
        show oG _ _ _ _ _ _ _ (T73.setTop (mkF m 200 #[.val (.int p1), .val (.int p2), .val (.int p3), .val (.int 3), .val (.int 0), .val (.int 2), .val (.ref b1), .unset, .unset, .unset] []))
        refine oS (fun t k => XS.aload X73.here hx rfl (hb hby at_200) rfl rfl k) ?_
        refine oS (fun t k => XS.iloadN X73.here hx rfl (hb hby at_202) rfl k) ?_
        show oG _ _ _ _ _ _ _ (T73.setTop (mkF m 203 #[.val (.int p1), .val (.int p2), .val (.int p3), .val (.int 3), .val (.int 0), .val (.int 2), .val (.ref b1), .unset, .unset, .unset] [(.int 3), (.ref b1)]))
        refine oS (fun t k => oBp lb_9 X73.here hx rfl (hb hby at_203) k) ?_
        refine oS (S' := (T73.setTop (mkF m 206 #[.val (.int p1), .val (.int p2), .val (.int p3), .val (.int 3), .val (.int 0), .val (.int 2), .val (.ref b1), .unset, .unset, .unset] [(.int 27), (.ref b1)]))) (fun t k => XS.imul X73.here hx rfl (hb hby at_205) rfl (by rw [show (3 : Int32) * (9 : Int32) = (27 : Int32) from by decide]; exact k)) ?_
        refine oS (fun t k => XS.iload X73.here hx rfl (hb hby at_206) rfl k) ?_
        refine oS (fun t k => oIc li_3 X73.here hx rfl (hb hby at_208) k) ?_
        refine oS (S' := (T73.setTop (mkF m 210 #[.val (.int p1), .val (.int p2), .val (.int p3), .val (.int 3), .val (.int 0), .val (.int 2), .val (.ref b1), .unset, .unset, .unset] [(.int 0), (.int 27), (.ref b1)]))) (fun t k => XS.imul X73.here hx rfl (hb hby at_209) rfl (by rw [show (0 : Int32) * (3 : Int32) = (0 : Int32) from by decide]; exact k)) ?_
        refine oS (S' := (T73.setTop (mkF m 211 #[.val (.int p1), .val (.int p2), .val (.int p3), .val (.int 3), .val (.int 0), .val (.int 2), .val (.ref b1), .unset, .unset, .unset] [(.int 27), (.ref b1)]))) (fun t k => XS.iadd X73.here hx rfl (hb hby at_210) rfl (by rw [show (27 : Int32) + (0 : Int32) = (27 : Int32) from by decide]; exact k)) ?_
        refine oS (fun t k => XS.iload X73.here hx rfl (hb hby at_211) rfl k) ?_
        refine oS (S' := (T73.setTop (mkF m 214 #[.val (.int p1), .val (.int p2), .val (.int p3), .val (.int 3), .val (.int 0), .val (.int 2), .val (.ref b1), .unset, .unset, .unset] [(.int 29), (.ref b1)]))) (fun t k => XS.iadd X73.here hx rfl (hb hby at_213) rfl (by rw [show (27 : Int32) + (2 : Int32) = (29 : Int32) from by decide]; exact k)) ?_
        obtain ⟨cl279, Ar279, qk279, Sz279, Ng279, Ha279, Gf279⟩ := id V73
        have hin279 : ¬ ((29 : Int32) < 0 ∨ cl279.slots.size ≤ ((29 : Int32)).toNatClampNeg) := (inb_of Sz279 ⟨by decide, by decide⟩)
        have hat279 : cl279.slots[((29 : Int32)).toNatClampNeg]? = some (.int (-1)) := Ha279.at hin279 rfl
        refine oS (fun t k => X73.iaload hx (j := (29 : Int32)) (v := (.int (-1))) (by rw [e73]; exact Ar279.1) (State.isArrayOf_alike hZ.alike Ar279.2.1) Ar279.2.2 hin279 hat279 (g := (mkF m 214 #[.val (.int p1), .val (.int p2), .val (.int p3), .val (.int 3), .val (.int 0), .val (.int 2), .val (.ref b1), .unset, .unset, .unset] [(.int 29), (.ref b1)])) rfl rfl (hb hby at_214) t k) ?_
        refine oS (fun t k => XS.istore X73.here hx rfl (hb hby at_215) rfl (l' := #[.val (.int p1), .val (.int p2), .val (.int p3), .val (.int 3), .val (.int 0), .val (.int 2), .val (.ref b1), .val (.int (-1)), .unset, .unset]) rfl k) ?_
        show oG _ _ _ _ _ _ _ (T73.setTop (mkF m 217 #[.val (.int p1), .val (.int p2), .val (.int p3), .val (.int 3), .val (.int 0), .val (.int 2), .val (.ref b1), .val (.int (-1)), .unset, .unset] []))
        refine oS (fun t k => XS.iload X73.here hx rfl (hb hby at_217) rfl k) ?_
        refine oS (fun t k => XS.ifNo X73.here hx rfl (hb hby at_219) rfl ((if0 _ _).trans (tlt (by decide)).2.1) k) ?_
        refine oS (fun t k => XS.aconstNull X73.here hx rfl (hb hby at_222) k) ?_
        refine oS (fun t k => XS.goto X73.here hx rfl (pc0 := 223) (pc' := 231) rfl (hb hby at_223) (by decide) (by decide) k) ?_
        refine oS (fun t k => XS.astore X73.here hx rfl (hb hby at_231) rfl rfl (l' := #[.val (.int p1), .val (.int p2), .val (.int p3), .val (.int 3), .val (.int 0), .val (.int 2), .val (.ref b1), .val (.int (-1)), .val .null, .unset]) rfl k) ?_
        show oG _ _ _ _ _ _ _ (T73.setTop (mkF m 233 #[.val (.int p1), .val (.int p2), .val (.int p3), .val (.int 3), .val (.int 0), .val (.int 2), .val (.ref b1), .val (.int (-1)), .val .null, .unset] []))
        refine oS (fun t k => XS.iloadN X73.here hx rfl (hb hby at_233) rfl k) ?_
        obtain ⟨_, _, ⟨T280, L280, k280, n280⟩, -, X280, ⟨Lc280, hQ280, l280, y280, z280⟩, st280⟩ := Jvm.LawKit.callS X73 hx (y := mY0) hown (mvT hZ (oW hw 2 rfl)) (mvT hZ (oW hw 3 rfl)) (mvT hZ (oW hw 4 rfl)) (mvT hZ (oW hw 5 rfl)) (by decide) (backOf (W := 0) (rm_op_3 l Z a0 hw []  w h73 n0 O73 W ) hZ (oW hw 5 rfl) (oW hw 4 rfl) (by decide) (by decide)) (g := (mkF m 234 #[.val (.int p1), .val (.int p2), .val (.int p3), .val (.int 3), .val (.int 0), .val (.int 2), .val (.ref b1), .val (.int (-1)), .val .null, .unset] [(.int 3)])) rfl (by rw [hml]; rfl) (argsL := [(.int 3)]) (rest := []) (lenOf pd_5 rfl) rfl (by show 2 * 0 + _ ≤ _; exact Nat.le_of_eq rfl) (hb hby at_234) (fun _ _ => ⟨rfl, e73, (by decide : 1 + 0 ≤ _), (by decide : 36 + 0 ≤ _)⟩)
        dsimp only [Pt.U, Pt.locs, Pt.cells, Pt.slots] at X280 l280 y280 z280 st280 hQ280
        rw [l280, y280, z280] at X280
        clear l280 y280 z280
        obtain ⟨rfl, Nq280, e280⟩ := hQ280
        have N280 := Fr.app N73 Nq280
        refine oS (fun t k => st280 t k) ?_
        show oG _ _ _ _ _ _ _ (T280.setTop (mkF m 237 #[.val (.int p1), .val (.int p2), .val (.int p3), .val (.int 3), .val (.int 0), .val (.int 2), .val (.ref b1), .val (.int (-1)), .val .null, .unset] [(.ref (w 5))]))
        try clear st280 X73 e73
        try clear T73
        refine oS (fun t k => XS.iload X280.here hx rfl (hb hby at_237) rfl k) ?_
        obtain ⟨_, _, ⟨T281, L281, k281, n281⟩, -, X281, ⟨Lc281, hQ281, l281, y281, z281⟩, st281⟩ := Jvm.LawKit.callS X280 hx (y := mY2) hown (mvT hZ (oW hw 9 rfl)) (mvT hZ (oW hw 10 rfl)) (mvT hZ (oW hw 4 rfl)) (mvT hZ (oW hw 11 rfl)) (by decide) (backOf (W := 1) (rm_vt_0 l Z a0 hw []  w h73 n0 O73 W ) hZ (oW hw 11 rfl) (oW hw 4 rfl) (by decide) (by decide)) (g := (mkF m 239 #[.val (.int p1), .val (.int p2), .val (.int p3), .val (.int 3), .val (.int 0), .val (.int 2), .val (.ref b1), .val (.int (-1)), .val .null, .unset] [(.int 0), (.ref (w 5))])) rfl (by rw [hml]; rfl) (argsL := [(.int 0)]) (rest := [(.ref (w 5))]) (lenOf pd_4 rfl) rfl (by show 2 * 0 + _ ≤ _; exact Nat.le_of_eq rfl) (hb hby at_239) (fun _ _ => ⟨rfl, e280, (by decide : 1 + 0 ≤ _), (by decide : 36 + 0 ≤ _)⟩)
        dsimp only [Pt.U, Pt.locs, Pt.cells, Pt.slots] at X281 l281 y281 z281 st281 hQ281
        rw [l281, y281, z281] at X281
        clear l281 y281 z281
        obtain ⟨rfl, Nq281, e281⟩ := hQ281
        have N281 := Fr.app N280 Nq281
        refine oS (fun t k => st281 t k) ?_
        show oG _ _ _ _ _ _ _ (T281.setTop (mkF m 242 #[.val (.int p1), .val (.int p2), .val (.int p3), .val (.int 3), .val (.int 0), .val (.int 2), .val (.ref b1), .val (.int (-1)), .val .null, .unset] [(.ref (w 1)), (.ref (w 5))]))
        try clear st281 X280 e280
        refine oS (fun t k => XS.iload X281.here hx rfl (hb hby at_242) rfl k) ?_
        obtain ⟨_, _, ⟨T282, L282, k282, n282⟩, -, X282, ⟨Lc282, hQ282, l282, y282, z282⟩, st282⟩ := Jvm.LawKit.callS X281 hx (y := mY2) hown (mvT hZ (oW hw 9 rfl)) (mvT hZ (oW hw 10 rfl)) (mvT hZ (oW hw 4 rfl)) (mvT hZ (oW hw 11 rfl)) (by decide) (backOf (W := 2) (rm_vt_2 l Z a0 hw []  w h73 n0 O73 W ) hZ (oW hw 11 rfl) (oW hw 4 rfl) (by decide) (by decide)) (g := (mkF m 244 #[.val (.int p1), .val (.int p2), .val (.int p3), .val (.int 3), .val (.int 0), .val (.int 2), .val (.ref b1), .val (.int (-1)), .val .null, .unset] [(.int 2), (.ref (w 1)), (.ref (w 5))])) rfl (by rw [hml]; rfl) (argsL := [(.int 2)]) (rest := [(.ref (w 1)), (.ref (w 5))]) (lenOf pd_4 rfl) rfl (by show 2 * 0 + _ ≤ _; exact Nat.le_of_eq rfl) (hb hby at_244) (fun _ _ => ⟨rfl, e281, (by decide : 1 + 0 ≤ _), (by decide : 36 + 0 ≤ _)⟩)
        dsimp only [Pt.U, Pt.locs, Pt.cells, Pt.slots] at X282 l282 y282 z282 st282 hQ282
        rw [l282, y282, z282] at X282
        clear l282 y282 z282
        obtain ⟨rfl, Nq282, e282⟩ := hQ282
        have N282 := Fr.app N281 Nq282
        refine oS (fun t k => st282 t k) ?_
        show oG _ _ _ _ _ _ _ (T282.setTop (mkF m 247 #[.val (.int p1), .val (.int p2), .val (.int p3), .val (.int 3), .val (.int 0), .val (.int 2), .val (.ref b1), .val (.int (-1)), .val .null, .unset] [(.ref (w 2)), (.ref (w 1)), (.ref (w 5))]))
        try clear st282 X281 e281
        obtain ⟨cq283, kq283, q283a, q283b, q283c⟩ := isOf hZ e282 ((wE5 W).ext O73.2)
        obtain ⟨_, _, ⟨T283, L283, k283, n283⟩, -, X283, ⟨Lc283, hQ283, l283, y283, z283⟩, st283⟩ := X282.virtualBack hx (y := mY8) (z := mY8) hown (mvT hZ (oW hw 17 rfl)) (mvT hZ (oW hw 18 rfl)) (notFace_of_selects (args := #[]) (mvT hZ (oW hw 20 rfl))) (mvT hZ (oW hw 20 rfl)) (mvT hZ (oW hw 19 rfl)) (by decide) (backOf (W := 0) (rm_ty_302 l Z a0 hw []  w h73 n0 O73 W ) hZ (oW hw 21 rfl) (oW hw 7 rfl) (by decide) (by decide)) q283a q283c (g := (mkF m 247 #[.val (.int p1), .val (.int p2), .val (.int p3), .val (.int 3), .val (.int 0), .val (.int 2), .val (.ref b1), .val (.int (-1)), .val .null, .unset] [(.ref (w 2)), (.ref (w 1)), (.ref (w 5))])) rfl (by rw [hml]; rfl) (Steps.refl _) (argsL := [(.ref (w 1)), (.ref (w 2))]) (rest := []) (lenOf pd_6 rfl) rfl (by show 2 * 0 + _ ≤ _; exact Nat.le_of_eq rfl) (hb hby at_247) (fun _ _ => ⟨rfl, e282, (by decide : 1 + 0 ≤ _), (by decide : 36 + 0 ≤ _)⟩)
        dsimp only [Pt.U, Pt.locs, Pt.cells, Pt.slots] at X283 l283 y283 z283 st283 hQ283
        rw [l283, y283, z283] at X283
        clear l283 y283 z283
        obtain ⟨rfl, Nq283, e283⟩ := hQ283
        have N283 := Fr.app N282 Nq283
        refine oS (fun t k => st283.trans k) ?_
        show oG _ _ _ _ _ _ _ (T283.setTop (mkF m 250 #[.val (.int p1), .val (.int p2), .val (.int p3), .val (.int 3), .val (.int 0), .val (.int 2), .val (.ref b1), .val (.int (-1)), .val .null, .unset] [(.ref (w 7))]))
        try clear st283 X282 e282
        refine oS (fun t k => XS.aconstNull X283.here hx rfl (hb hby at_250) k) ?_
        obtain ⟨cq284, kq284, q284a, q284b, q284c⟩ := isOf hZ e283 ((wE7 W).ext O73.2)
        obtain ⟨_, _, ⟨T284, L284, k284, n284⟩, -, X284, ⟨Lc284, hQ284, l284, y284, z284⟩, st284⟩ := X283.virtualBack hx (y := mY7) (z := mY7) hown (mvT hZ (oW hw 39 rfl)) (mvT hZ (oW hw 40 rfl)) (notFace_of_selects (args := #[]) (mvT hZ (oW hw 42 rfl))) (mvT hZ (oW hw 42 rfl)) (mvT hZ (oW hw 41 rfl)) (by decide) (backOf (W := 0) (rm_oe0 l Z a0 hw [] (w 7)  h73 n0 O73  ((wF7_value W).ext O73.2)) hZ (oW hw 43 rfl) (oW hw 36 rfl) (by decide) (by decide)) q284a q284c (g := (mkF m 251 #[.val (.int p1), .val (.int p2), .val (.int p3), .val (.int 3), .val (.int 0), .val (.int 2), .val (.ref b1), .val (.int (-1)), .val .null, .unset] [.null, (.ref (w 7))])) rfl (by rw [hml]; rfl) (Steps.refl _) (argsL := [.null]) (rest := []) (lenOf pd_0 rfl) rfl (by show 2 * 0 + _ ≤ _; exact Nat.le_of_eq rfl) (hb hby at_251) (fun _ _ => ⟨rfl, e283, (by decide : 1 + 0 ≤ _), (by decide : 36 + 0 ≤ _)⟩)
        dsimp only [Pt.U, Pt.locs, Pt.cells, Pt.slots] at X284 l284 y284 z284 st284 hQ284
        rw [l284, y284, z284] at X284
        clear l284 y284 z284
        obtain ⟨rfl, Nq284, e284⟩ := hQ284
        have N284 := Fr.app N283 Nq284
        refine oS (fun t k => st284.trans k) ?_
        show oG _ _ _ _ _ _ _ (T284.setTop (mkF m 254 #[.val (.int p1), .val (.int p2), .val (.int p3), .val (.int 3), .val (.int 0), .val (.int 2), .val (.ref b1), .val (.int (-1)), .val .null, .unset] [.null]))
        try clear st284 X283 e283
        refine oS (fun t k => X284.checkcastNull hx (g := (mkF m 254 #[.val (.int p1), .val (.int p2), .val (.int p3), .val (.int 3), .val (.int 0), .val (.int 2), .val (.ref b1), .val (.int (-1)), .val .null, .unset] [.null])) rfl rfl (hb hby at_254) t k) ?_
        refine oS (fun t k => XS.astore X284.here hx rfl (hb hby at_257) rfl rfl (l' := #[.val (.int p1), .val (.int p2), .val (.int p3), .val (.int 3), .val (.int 0), .val (.int 2), .val (.ref b1), .val (.int (-1)), .val .null, .val .null]) rfl k) ?_
        refine oS (fun t k => XS.aload X284.here hx rfl (hb hby at_259) rfl rfl k) ?_
        refine oS (fun t k => XS.aload X284.here hx rfl (hb hby at_261) rfl rfl k) ?_
        refine oS (fun t k => Jvm.RoadKit.acmp (g := (mkF m 263 #[.val (.int p1), .val (.int p2), .val (.int p3), .val (.int 3), .val (.int 0), .val (.int 2), .val (.ref b1), .val (.int (-1)), .val .null, .val .null] [.null, .null])) X284 hx rfl rfl rfl (pc0 := 263) (pc' := 266) (same := true) rfl (hb hby at_263) rfl (decide_eq_true rfl) (by decide) (by decide) k) ?_
        show oG _ _ _ _ _ _ _ (T284.setTop (mkF m 266 #[.val (.int p1), .val (.int p2), .val (.int p3), .val (.int 3), .val (.int 0), .val (.int 2), .val (.ref b1), .val (.int (-1)), .val .null, .val .null] []))
        refine oS (fun t k => oIc li_1 X284.here hx rfl (hb hby at_266) k) ?_
        refine oS (fun t k => XS.goto X284.here hx rfl (pc0 := 267) (pc' := 271) rfl (hb hby at_267) (by decide) (by decide) k) ?_
        exact own_ret (v := some (.int 1)) X284 (fun h => by rw [Bd.returns] at h; cases h) Bd.notSynchronized (fun fs hr => retN X284 hx (t := .boolean) Bd.returns (by simp) (hb hby at_271) hr) (by rw [e284]; exact ⟨rfl, N284⟩) (by decide) (by decide)
    · rw [hs263]
      show oG _ _ _ _ _ _ _ (T73.setTop (mkF m 200 #[.val (.int p1), .val (.int p2), .val (.int p3), .val (.int 3), .val (.int 1), .val (.int ((p3 &&& (2147483647 : Int32)) % (3 : Int32))), .val (.ref b1), .unset, .unset, .unset] []))
      show oG _ _ _ _ _ _ _ (T73.setTop (mkF m 200 #[.val (.int p1), .val (.int p2), .val (.int p3), .val (.int 3), .val (.int 1), .val (.int ((p3 &&& (2147483647 : Int32)) % (3 : Int32))), .val (.ref b1), .unset, .unset, .unset] []))
      rcases own_three p3 with hs285 | hs285 | hs285
      · rw [hs285]
        show oG _ _ _ _ _ _ _ (T73.setTop (mkF m 200 #[.val (.int p1), .val (.int p2), .val (.int p3), .val (.int 3), .val (.int 1), .val (.int 0), .val (.ref b1), .unset, .unset, .unset] []))
        refine oS (fun t k => XS.aload X73.here hx rfl (hb hby at_200) rfl rfl k) ?_
        refine oS (fun t k => XS.iloadN X73.here hx rfl (hb hby at_202) rfl k) ?_
        show oG _ _ _ _ _ _ _ (T73.setTop (mkF m 203 #[.val (.int p1), .val (.int p2), .val (.int p3), .val (.int 3), .val (.int 1), .val (.int 0), .val (.ref b1), .unset, .unset, .unset] [(.int 3), (.ref b1)]))
        refine oS (fun t k => oBp lb_9 X73.here hx rfl (hb hby at_203) k) ?_
        refine oS (S' := (T73.setTop (mkF m 206 #[.val (.int p1), .val (.int p2), .val (.int p3), .val (.int 3), .val (.int 1), .val (.int 0), .val (.ref b1), .unset, .unset, .unset] [(.int 27), (.ref b1)]))) (fun t k => XS.imul X73.here hx rfl (hb hby at_205) rfl (by rw [show (3 : Int32) * (9 : Int32) = (27 : Int32) from by decide]; exact k)) ?_
        refine oS (fun t k => XS.iload X73.here hx rfl (hb hby at_206) rfl k) ?_
        refine oS (fun t k => oIc li_3 X73.here hx rfl (hb hby at_208) k) ?_
        refine oS (S' := (T73.setTop (mkF m 210 #[.val (.int p1), .val (.int p2), .val (.int p3), .val (.int 3), .val (.int 1), .val (.int 0), .val (.ref b1), .unset, .unset, .unset] [(.int 3), (.int 27), (.ref b1)]))) (fun t k => XS.imul X73.here hx rfl (hb hby at_209) rfl (by rw [show (1 : Int32) * (3 : Int32) = (3 : Int32) from by decide]; exact k)) ?_
        refine oS (S' := (T73.setTop (mkF m 211 #[.val (.int p1), .val (.int p2), .val (.int p3), .val (.int 3), .val (.int 1), .val (.int 0), .val (.ref b1), .unset, .unset, .unset] [(.int 30), (.ref b1)]))) (fun t k => XS.iadd X73.here hx rfl (hb hby at_210) rfl (by rw [show (27 : Int32) + (3 : Int32) = (30 : Int32) from by decide]; exact k)) ?_
        refine oS (fun t k => XS.iload X73.here hx rfl (hb hby at_211) rfl k) ?_
        refine oS (S' := (T73.setTop (mkF m 214 #[.val (.int p1), .val (.int p2), .val (.int p3), .val (.int 3), .val (.int 1), .val (.int 0), .val (.ref b1), .unset, .unset, .unset] [(.int 30), (.ref b1)]))) (fun t k => XS.iadd X73.here hx rfl (hb hby at_213) rfl (by rw [show (30 : Int32) + (0 : Int32) = (30 : Int32) from by decide]; exact k)) ?_
        obtain ⟨cl286, Ar286, qk286, Sz286, Ng286, Ha286, Gf286⟩ := id V73
        have hin286 : ¬ ((30 : Int32) < 0 ∨ cl286.slots.size ≤ ((30 : Int32)).toNatClampNeg) := (inb_of Sz286 ⟨by decide, by decide⟩)
        have hat286 : cl286.slots[((30 : Int32)).toNatClampNeg]? = some (.int (-1)) := Ha286.at hin286 rfl
        refine oS (fun t k => X73.iaload hx (j := (30 : Int32)) (v := (.int (-1))) (by rw [e73]; exact Ar286.1) (State.isArrayOf_alike hZ.alike Ar286.2.1) Ar286.2.2 hin286 hat286 (g := (mkF m 214 #[.val (.int p1), .val (.int p2), .val (.int p3), .val (.int 3), .val (.int 1), .val (.int 0), .val (.ref b1), .unset, .unset, .unset] [(.int 30), (.ref b1)])) rfl rfl (hb hby at_214) t k) ?_
        refine oS (fun t k => XS.istore X73.here hx rfl (hb hby at_215) rfl (l' := #[.val (.int p1), .val (.int p2), .val (.int p3), .val (.int 3), .val (.int 1), .val (.int 0), .val (.ref b1), .val (.int (-1)), .unset, .unset]) rfl k) ?_
        show oG _ _ _ _ _ _ _ (T73.setTop (mkF m 217 #[.val (.int p1), .val (.int p2), .val (.int p3), .val (.int 3), .val (.int 1), .val (.int 0), .val (.ref b1), .val (.int (-1)), .unset, .unset] []))
        refine oS (fun t k => XS.iload X73.here hx rfl (hb hby at_217) rfl k) ?_
        refine oS (fun t k => XS.ifNo X73.here hx rfl (hb hby at_219) rfl ((if0 _ _).trans (tlt (by decide)).2.1) k) ?_
        refine oS (fun t k => XS.aconstNull X73.here hx rfl (hb hby at_222) k) ?_
        refine oS (fun t k => XS.goto X73.here hx rfl (pc0 := 223) (pc' := 231) rfl (hb hby at_223) (by decide) (by decide) k) ?_
        refine oS (fun t k => XS.astore X73.here hx rfl (hb hby at_231) rfl rfl (l' := #[.val (.int p1), .val (.int p2), .val (.int p3), .val (.int 3), .val (.int 1), .val (.int 0), .val (.ref b1), .val (.int (-1)), .val .null, .unset]) rfl k) ?_
        show oG _ _ _ _ _ _ _ (T73.setTop (mkF m 233 #[.val (.int p1), .val (.int p2), .val (.int p3), .val (.int 3), .val (.int 1), .val (.int 0), .val (.ref b1), .val (.int (-1)), .val .null, .unset] []))
        refine oS (fun t k => XS.iloadN X73.here hx rfl (hb hby at_233) rfl k) ?_
        obtain ⟨_, _, ⟨T287, L287, k287, n287⟩, -, X287, ⟨Lc287, hQ287, l287, y287, z287⟩, st287⟩ := Jvm.LawKit.callS X73 hx (y := mY0) hown (mvT hZ (oW hw 2 rfl)) (mvT hZ (oW hw 3 rfl)) (mvT hZ (oW hw 4 rfl)) (mvT hZ (oW hw 5 rfl)) (by decide) (backOf (W := 0) (rm_op_3 l Z a0 hw []  w h73 n0 O73 W ) hZ (oW hw 5 rfl) (oW hw 4 rfl) (by decide) (by decide)) (g := (mkF m 234 #[.val (.int p1), .val (.int p2), .val (.int p3), .val (.int 3), .val (.int 1), .val (.int 0), .val (.ref b1), .val (.int (-1)), .val .null, .unset] [(.int 3)])) rfl (by rw [hml]; rfl) (argsL := [(.int 3)]) (rest := []) (lenOf pd_5 rfl) rfl (by show 2 * 0 + _ ≤ _; exact Nat.le_of_eq rfl) (hb hby at_234) (fun _ _ => ⟨rfl, e73, (by decide : 1 + 0 ≤ _), (by decide : 36 + 0 ≤ _)⟩)
        dsimp only [Pt.U, Pt.locs, Pt.cells, Pt.slots] at X287 l287 y287 z287 st287 hQ287
        rw [l287, y287, z287] at X287
        clear l287 y287 z287
        obtain ⟨rfl, Nq287, e287⟩ := hQ287
        have N287 := Fr.app N73 Nq287
        refine oS (fun t k => st287 t k) ?_
        show oG _ _ _ _ _ _ _ (T287.setTop (mkF m 237 #[.val (.int p1), .val (.int p2), .val (.int p3), .val (.int 3), .val (.int 1), .val (.int 0), .val (.ref b1), .val (.int (-1)), .val .null, .unset] [(.ref (w 5))]))
        try clear st287 X73 e73
        try clear T73
        refine oS (fun t k => XS.iload X287.here hx rfl (hb hby at_237) rfl k) ?_
        obtain ⟨_, _, ⟨T288, L288, k288, n288⟩, -, X288, ⟨Lc288, hQ288, l288, y288, z288⟩, st288⟩ := Jvm.LawKit.callS X287 hx (y := mY2) hown (mvT hZ (oW hw 9 rfl)) (mvT hZ (oW hw 10 rfl)) (mvT hZ (oW hw 4 rfl)) (mvT hZ (oW hw 11 rfl)) (by decide) (backOf (W := 1) (rm_vt_1 l Z a0 hw []  w h73 n0 O73 W ) hZ (oW hw 11 rfl) (oW hw 4 rfl) (by decide) (by decide)) (g := (mkF m 239 #[.val (.int p1), .val (.int p2), .val (.int p3), .val (.int 3), .val (.int 1), .val (.int 0), .val (.ref b1), .val (.int (-1)), .val .null, .unset] [(.int 1), (.ref (w 5))])) rfl (by rw [hml]; rfl) (argsL := [(.int 1)]) (rest := [(.ref (w 5))]) (lenOf pd_4 rfl) rfl (by show 2 * 0 + _ ≤ _; exact Nat.le_of_eq rfl) (hb hby at_239) (fun _ _ => ⟨rfl, e287, (by decide : 1 + 0 ≤ _), (by decide : 36 + 0 ≤ _)⟩)
        dsimp only [Pt.U, Pt.locs, Pt.cells, Pt.slots] at X288 l288 y288 z288 st288 hQ288
        rw [l288, y288, z288] at X288
        clear l288 y288 z288
        obtain ⟨rfl, Nq288, e288⟩ := hQ288
        have N288 := Fr.app N287 Nq288
        refine oS (fun t k => st288 t k) ?_
        show oG _ _ _ _ _ _ _ (T288.setTop (mkF m 242 #[.val (.int p1), .val (.int p2), .val (.int p3), .val (.int 3), .val (.int 1), .val (.int 0), .val (.ref b1), .val (.int (-1)), .val .null, .unset] [(.ref (w 3)), (.ref (w 5))]))
        try clear st288 X287 e287
        refine oS (fun t k => XS.iload X288.here hx rfl (hb hby at_242) rfl k) ?_
        obtain ⟨_, _, ⟨T289, L289, k289, n289⟩, -, X289, ⟨Lc289, hQ289, l289, y289, z289⟩, st289⟩ := Jvm.LawKit.callS X288 hx (y := mY2) hown (mvT hZ (oW hw 9 rfl)) (mvT hZ (oW hw 10 rfl)) (mvT hZ (oW hw 4 rfl)) (mvT hZ (oW hw 11 rfl)) (by decide) (backOf (W := 2) (rm_vt_0 l Z a0 hw []  w h73 n0 O73 W ) hZ (oW hw 11 rfl) (oW hw 4 rfl) (by decide) (by decide)) (g := (mkF m 244 #[.val (.int p1), .val (.int p2), .val (.int p3), .val (.int 3), .val (.int 1), .val (.int 0), .val (.ref b1), .val (.int (-1)), .val .null, .unset] [(.int 0), (.ref (w 3)), (.ref (w 5))])) rfl (by rw [hml]; rfl) (argsL := [(.int 0)]) (rest := [(.ref (w 3)), (.ref (w 5))]) (lenOf pd_4 rfl) rfl (by show 2 * 0 + _ ≤ _; exact Nat.le_of_eq rfl) (hb hby at_244) (fun _ _ => ⟨rfl, e288, (by decide : 1 + 0 ≤ _), (by decide : 36 + 0 ≤ _)⟩)
        dsimp only [Pt.U, Pt.locs, Pt.cells, Pt.slots] at X289 l289 y289 z289 st289 hQ289
        rw [l289, y289, z289] at X289
        clear l289 y289 z289
        obtain ⟨rfl, Nq289, e289⟩ := hQ289
        have N289 := Fr.app N288 Nq289
        refine oS (fun t k => st289 t k) ?_
        show oG _ _ _ _ _ _ _ (T289.setTop (mkF m 247 #[.val (.int p1), .val (.int p2), .val (.int p3), .val (.int 3), .val (.int 1), .val (.int 0), .val (.ref b1), .val (.int (-1)), .val .null, .unset] [(.ref (w 1)), (.ref (w 3)), (.ref (w 5))]))
        try clear st289 X288 e288
        obtain ⟨cq290, kq290, q290a, q290b, q290c⟩ := isOf hZ e289 ((wE5 W).ext O73.2)
        obtain ⟨_, _, ⟨T290, L290, k290, n290⟩, -, X290, ⟨Lc290, hQ290, l290, y290, z290⟩, st290⟩ := X289.virtualBack hx (y := mY8) (z := mY8) hown (mvT hZ (oW hw 17 rfl)) (mvT hZ (oW hw 18 rfl)) (notFace_of_selects (args := #[]) (mvT hZ (oW hw 20 rfl))) (mvT hZ (oW hw 20 rfl)) (mvT hZ (oW hw 19 rfl)) (by decide) (backOf (W := 0) (rm_ty_310 l Z a0 hw []  w h73 n0 O73 W ) hZ (oW hw 21 rfl) (oW hw 7 rfl) (by decide) (by decide)) q290a q290c (g := (mkF m 247 #[.val (.int p1), .val (.int p2), .val (.int p3), .val (.int 3), .val (.int 1), .val (.int 0), .val (.ref b1), .val (.int (-1)), .val .null, .unset] [(.ref (w 1)), (.ref (w 3)), (.ref (w 5))])) rfl (by rw [hml]; rfl) (Steps.refl _) (argsL := [(.ref (w 3)), (.ref (w 1))]) (rest := []) (lenOf pd_6 rfl) rfl (by show 2 * 0 + _ ≤ _; exact Nat.le_of_eq rfl) (hb hby at_247) (fun _ _ => ⟨rfl, e289, (by decide : 1 + 0 ≤ _), (by decide : 36 + 0 ≤ _)⟩)
        dsimp only [Pt.U, Pt.locs, Pt.cells, Pt.slots] at X290 l290 y290 z290 st290 hQ290
        rw [l290, y290, z290] at X290
        clear l290 y290 z290
        obtain ⟨rfl, Nq290, e290⟩ := hQ290
        have N290 := Fr.app N289 Nq290
        refine oS (fun t k => st290.trans k) ?_
        show oG _ _ _ _ _ _ _ (T290.setTop (mkF m 250 #[.val (.int p1), .val (.int p2), .val (.int p3), .val (.int 3), .val (.int 1), .val (.int 0), .val (.ref b1), .val (.int (-1)), .val .null, .unset] [(.ref (w 7))]))
        try clear st290 X289 e289
        refine oS (fun t k => XS.aconstNull X290.here hx rfl (hb hby at_250) k) ?_
        obtain ⟨cq291, kq291, q291a, q291b, q291c⟩ := isOf hZ e290 ((wE7 W).ext O73.2)
        obtain ⟨_, _, ⟨T291, L291, k291, n291⟩, -, X291, ⟨Lc291, hQ291, l291, y291, z291⟩, st291⟩ := X290.virtualBack hx (y := mY7) (z := mY7) hown (mvT hZ (oW hw 39 rfl)) (mvT hZ (oW hw 40 rfl)) (notFace_of_selects (args := #[]) (mvT hZ (oW hw 42 rfl))) (mvT hZ (oW hw 42 rfl)) (mvT hZ (oW hw 41 rfl)) (by decide) (backOf (W := 0) (rm_oe0 l Z a0 hw [] (w 7)  h73 n0 O73  ((wF7_value W).ext O73.2)) hZ (oW hw 43 rfl) (oW hw 36 rfl) (by decide) (by decide)) q291a q291c (g := (mkF m 251 #[.val (.int p1), .val (.int p2), .val (.int p3), .val (.int 3), .val (.int 1), .val (.int 0), .val (.ref b1), .val (.int (-1)), .val .null, .unset] [.null, (.ref (w 7))])) rfl (by rw [hml]; rfl) (Steps.refl _) (argsL := [.null]) (rest := []) (lenOf pd_0 rfl) rfl (by show 2 * 0 + _ ≤ _; exact Nat.le_of_eq rfl) (hb hby at_251) (fun _ _ => ⟨rfl, e290, (by decide : 1 + 0 ≤ _), (by decide : 36 + 0 ≤ _)⟩)
        dsimp only [Pt.U, Pt.locs, Pt.cells, Pt.slots] at X291 l291 y291 z291 st291 hQ291
        rw [l291, y291, z291] at X291
        clear l291 y291 z291
        obtain ⟨rfl, Nq291, e291⟩ := hQ291
        have N291 := Fr.app N290 Nq291
        refine oS (fun t k => st291.trans k) ?_
        show oG _ _ _ _ _ _ _ (T291.setTop (mkF m 254 #[.val (.int p1), .val (.int p2), .val (.int p3), .val (.int 3), .val (.int 1), .val (.int 0), .val (.ref b1), .val (.int (-1)), .val .null, .unset] [.null]))
        try clear st291 X290 e290
        refine oS (fun t k => X291.checkcastNull hx (g := (mkF m 254 #[.val (.int p1), .val (.int p2), .val (.int p3), .val (.int 3), .val (.int 1), .val (.int 0), .val (.ref b1), .val (.int (-1)), .val .null, .unset] [.null])) rfl rfl (hb hby at_254) t k) ?_
        refine oS (fun t k => XS.astore X291.here hx rfl (hb hby at_257) rfl rfl (l' := #[.val (.int p1), .val (.int p2), .val (.int p3), .val (.int 3), .val (.int 1), .val (.int 0), .val (.ref b1), .val (.int (-1)), .val .null, .val .null]) rfl k) ?_
        refine oS (fun t k => XS.aload X291.here hx rfl (hb hby at_259) rfl rfl k) ?_
        refine oS (fun t k => XS.aload X291.here hx rfl (hb hby at_261) rfl rfl k) ?_
        refine oS (fun t k => Jvm.RoadKit.acmp (g := (mkF m 263 #[.val (.int p1), .val (.int p2), .val (.int p3), .val (.int 3), .val (.int 1), .val (.int 0), .val (.ref b1), .val (.int (-1)), .val .null, .val .null] [.null, .null])) X291 hx rfl rfl rfl (pc0 := 263) (pc' := 266) (same := true) rfl (hb hby at_263) rfl (decide_eq_true rfl) (by decide) (by decide) k) ?_
        show oG _ _ _ _ _ _ _ (T291.setTop (mkF m 266 #[.val (.int p1), .val (.int p2), .val (.int p3), .val (.int 3), .val (.int 1), .val (.int 0), .val (.ref b1), .val (.int (-1)), .val .null, .val .null] []))
        refine oS (fun t k => oIc li_1 X291.here hx rfl (hb hby at_266) k) ?_
        refine oS (fun t k => XS.goto X291.here hx rfl (pc0 := 267) (pc' := 271) rfl (hb hby at_267) (by decide) (by decide) k) ?_
        exact own_ret (v := some (.int 1)) X291 (fun h => by rw [Bd.returns] at h; cases h) Bd.notSynchronized (fun fs hr => retN X291 hx (t := .boolean) Bd.returns (by simp) (hb hby at_271) hr) (by rw [e291]; exact ⟨rfl, N291⟩) (by decide) (by decide)
      · rw [hs285]
        show oG _ _ _ _ _ _ _ (T73.setTop (mkF m 200 #[.val (.int p1), .val (.int p2), .val (.int p3), .val (.int 3), .val (.int 1), .val (.int 1), .val (.ref b1), .unset, .unset, .unset] []))
        refine oS (fun t k => XS.aload X73.here hx rfl (hb hby at_200) rfl rfl k) ?_
        refine oS (fun t k => XS.iloadN X73.here hx rfl (hb hby at_202) rfl k) ?_
        show oG _ _ _ _ _ _ _ (T73.setTop (mkF m 203 #[.val (.int p1), .val (.int p2), .val (.int p3), .val (.int 3), .val (.int 1), .val (.int 1), .val (.ref b1), .unset, .unset, .unset] [(.int 3), (.ref b1)]))
        refine oS (fun t k => oBp lb_9 X73.here hx rfl (hb hby at_203) k) ?_
        refine oS (S' := (T73.setTop (mkF m 206 #[.val (.int p1), .val (.int p2), .val (.int p3), .val (.int 3), .val (.int 1), .val (.int 1), .val (.ref b1), .unset, .unset, .unset] [(.int 27), (.ref b1)]))) (fun t k => XS.imul X73.here hx rfl (hb hby at_205) rfl (by rw [show (3 : Int32) * (9 : Int32) = (27 : Int32) from by decide]; exact k)) ?_
        refine oS (fun t k => XS.iload X73.here hx rfl (hb hby at_206) rfl k) ?_
        refine oS (fun t k => oIc li_3 X73.here hx rfl (hb hby at_208) k) ?_
        refine oS (S' := (T73.setTop (mkF m 210 #[.val (.int p1), .val (.int p2), .val (.int p3), .val (.int 3), .val (.int 1), .val (.int 1), .val (.ref b1), .unset, .unset, .unset] [(.int 3), (.int 27), (.ref b1)]))) (fun t k => XS.imul X73.here hx rfl (hb hby at_209) rfl (by rw [show (1 : Int32) * (3 : Int32) = (3 : Int32) from by decide]; exact k)) ?_
        refine oS (S' := (T73.setTop (mkF m 211 #[.val (.int p1), .val (.int p2), .val (.int p3), .val (.int 3), .val (.int 1), .val (.int 1), .val (.ref b1), .unset, .unset, .unset] [(.int 30), (.ref b1)]))) (fun t k => XS.iadd X73.here hx rfl (hb hby at_210) rfl (by rw [show (27 : Int32) + (3 : Int32) = (30 : Int32) from by decide]; exact k)) ?_
        refine oS (fun t k => XS.iload X73.here hx rfl (hb hby at_211) rfl k) ?_
        refine oS (S' := (T73.setTop (mkF m 214 #[.val (.int p1), .val (.int p2), .val (.int p3), .val (.int 3), .val (.int 1), .val (.int 1), .val (.ref b1), .unset, .unset, .unset] [(.int 31), (.ref b1)]))) (fun t k => XS.iadd X73.here hx rfl (hb hby at_213) rfl (by rw [show (30 : Int32) + (1 : Int32) = (31 : Int32) from by decide]; exact k)) ?_
        obtain ⟨cl292, Ar292, qk292, Sz292, Ng292, Ha292, Gf292⟩ := id V73
        have hin292 : ¬ ((31 : Int32) < 0 ∨ cl292.slots.size ≤ ((31 : Int32)).toNatClampNeg) := (inb_of Sz292 ⟨by decide, by decide⟩)
        have hat292 : cl292.slots[((31 : Int32)).toNatClampNeg]? = some (.int (-1)) := Ha292.at hin292 rfl
        refine oS (fun t k => X73.iaload hx (j := (31 : Int32)) (v := (.int (-1))) (by rw [e73]; exact Ar292.1) (State.isArrayOf_alike hZ.alike Ar292.2.1) Ar292.2.2 hin292 hat292 (g := (mkF m 214 #[.val (.int p1), .val (.int p2), .val (.int p3), .val (.int 3), .val (.int 1), .val (.int 1), .val (.ref b1), .unset, .unset, .unset] [(.int 31), (.ref b1)])) rfl rfl (hb hby at_214) t k) ?_
        refine oS (fun t k => XS.istore X73.here hx rfl (hb hby at_215) rfl (l' := #[.val (.int p1), .val (.int p2), .val (.int p3), .val (.int 3), .val (.int 1), .val (.int 1), .val (.ref b1), .val (.int (-1)), .unset, .unset]) rfl k) ?_
        show oG _ _ _ _ _ _ _ (T73.setTop (mkF m 217 #[.val (.int p1), .val (.int p2), .val (.int p3), .val (.int 3), .val (.int 1), .val (.int 1), .val (.ref b1), .val (.int (-1)), .unset, .unset] []))
        refine oS (fun t k => XS.iload X73.here hx rfl (hb hby at_217) rfl k) ?_
        refine oS (fun t k => XS.ifNo X73.here hx rfl (hb hby at_219) rfl ((if0 _ _).trans (tlt (by decide)).2.1) k) ?_
        refine oS (fun t k => XS.aconstNull X73.here hx rfl (hb hby at_222) k) ?_
        refine oS (fun t k => XS.goto X73.here hx rfl (pc0 := 223) (pc' := 231) rfl (hb hby at_223) (by decide) (by decide) k) ?_
        refine oS (fun t k => XS.astore X73.here hx rfl (hb hby at_231) rfl rfl (l' := #[.val (.int p1), .val (.int p2), .val (.int p3), .val (.int 3), .val (.int 1), .val (.int 1), .val (.ref b1), .val (.int (-1)), .val .null, .unset]) rfl k) ?_
        show oG _ _ _ _ _ _ _ (T73.setTop (mkF m 233 #[.val (.int p1), .val (.int p2), .val (.int p3), .val (.int 3), .val (.int 1), .val (.int 1), .val (.ref b1), .val (.int (-1)), .val .null, .unset] []))
        refine oS (fun t k => XS.iloadN X73.here hx rfl (hb hby at_233) rfl k) ?_
        obtain ⟨_, _, ⟨T293, L293, k293, n293⟩, -, X293, ⟨Lc293, hQ293, l293, y293, z293⟩, st293⟩ := Jvm.LawKit.callS X73 hx (y := mY0) hown (mvT hZ (oW hw 2 rfl)) (mvT hZ (oW hw 3 rfl)) (mvT hZ (oW hw 4 rfl)) (mvT hZ (oW hw 5 rfl)) (by decide) (backOf (W := 0) (rm_op_3 l Z a0 hw []  w h73 n0 O73 W ) hZ (oW hw 5 rfl) (oW hw 4 rfl) (by decide) (by decide)) (g := (mkF m 234 #[.val (.int p1), .val (.int p2), .val (.int p3), .val (.int 3), .val (.int 1), .val (.int 1), .val (.ref b1), .val (.int (-1)), .val .null, .unset] [(.int 3)])) rfl (by rw [hml]; rfl) (argsL := [(.int 3)]) (rest := []) (lenOf pd_5 rfl) rfl (by show 2 * 0 + _ ≤ _; exact Nat.le_of_eq rfl) (hb hby at_234) (fun _ _ => ⟨rfl, e73, (by decide : 1 + 0 ≤ _), (by decide : 36 + 0 ≤ _)⟩)
        dsimp only [Pt.U, Pt.locs, Pt.cells, Pt.slots] at X293 l293 y293 z293 st293 hQ293
        rw [l293, y293, z293] at X293
        clear l293 y293 z293
        obtain ⟨rfl, Nq293, e293⟩ := hQ293
        have N293 := Fr.app N73 Nq293
        refine oS (fun t k => st293 t k) ?_
        show oG _ _ _ _ _ _ _ (T293.setTop (mkF m 237 #[.val (.int p1), .val (.int p2), .val (.int p3), .val (.int 3), .val (.int 1), .val (.int 1), .val (.ref b1), .val (.int (-1)), .val .null, .unset] [(.ref (w 5))]))
        try clear st293 X73 e73
        try clear T73
        refine oS (fun t k => XS.iload X293.here hx rfl (hb hby at_237) rfl k) ?_
        obtain ⟨_, _, ⟨T294, L294, k294, n294⟩, -, X294, ⟨Lc294, hQ294, l294, y294, z294⟩, st294⟩ := Jvm.LawKit.callS X293 hx (y := mY2) hown (mvT hZ (oW hw 9 rfl)) (mvT hZ (oW hw 10 rfl)) (mvT hZ (oW hw 4 rfl)) (mvT hZ (oW hw 11 rfl)) (by decide) (backOf (W := 1) (rm_vt_1 l Z a0 hw []  w h73 n0 O73 W ) hZ (oW hw 11 rfl) (oW hw 4 rfl) (by decide) (by decide)) (g := (mkF m 239 #[.val (.int p1), .val (.int p2), .val (.int p3), .val (.int 3), .val (.int 1), .val (.int 1), .val (.ref b1), .val (.int (-1)), .val .null, .unset] [(.int 1), (.ref (w 5))])) rfl (by rw [hml]; rfl) (argsL := [(.int 1)]) (rest := [(.ref (w 5))]) (lenOf pd_4 rfl) rfl (by show 2 * 0 + _ ≤ _; exact Nat.le_of_eq rfl) (hb hby at_239) (fun _ _ => ⟨rfl, e293, (by decide : 1 + 0 ≤ _), (by decide : 36 + 0 ≤ _)⟩)
        dsimp only [Pt.U, Pt.locs, Pt.cells, Pt.slots] at X294 l294 y294 z294 st294 hQ294
        rw [l294, y294, z294] at X294
        clear l294 y294 z294
        obtain ⟨rfl, Nq294, e294⟩ := hQ294
        have N294 := Fr.app N293 Nq294
        refine oS (fun t k => st294 t k) ?_
        show oG _ _ _ _ _ _ _ (T294.setTop (mkF m 242 #[.val (.int p1), .val (.int p2), .val (.int p3), .val (.int 3), .val (.int 1), .val (.int 1), .val (.ref b1), .val (.int (-1)), .val .null, .unset] [(.ref (w 3)), (.ref (w 5))]))
        try clear st294 X293 e293
        refine oS (fun t k => XS.iload X294.here hx rfl (hb hby at_242) rfl k) ?_
        obtain ⟨_, _, ⟨T295, L295, k295, n295⟩, -, X295, ⟨Lc295, hQ295, l295, y295, z295⟩, st295⟩ := Jvm.LawKit.callS X294 hx (y := mY2) hown (mvT hZ (oW hw 9 rfl)) (mvT hZ (oW hw 10 rfl)) (mvT hZ (oW hw 4 rfl)) (mvT hZ (oW hw 11 rfl)) (by decide) (backOf (W := 2) (rm_vt_1 l Z a0 hw []  w h73 n0 O73 W ) hZ (oW hw 11 rfl) (oW hw 4 rfl) (by decide) (by decide)) (g := (mkF m 244 #[.val (.int p1), .val (.int p2), .val (.int p3), .val (.int 3), .val (.int 1), .val (.int 1), .val (.ref b1), .val (.int (-1)), .val .null, .unset] [(.int 1), (.ref (w 3)), (.ref (w 5))])) rfl (by rw [hml]; rfl) (argsL := [(.int 1)]) (rest := [(.ref (w 3)), (.ref (w 5))]) (lenOf pd_4 rfl) rfl (by show 2 * 0 + _ ≤ _; exact Nat.le_of_eq rfl) (hb hby at_244) (fun _ _ => ⟨rfl, e294, (by decide : 1 + 0 ≤ _), (by decide : 36 + 0 ≤ _)⟩)
        dsimp only [Pt.U, Pt.locs, Pt.cells, Pt.slots] at X295 l295 y295 z295 st295 hQ295
        rw [l295, y295, z295] at X295
        clear l295 y295 z295
        obtain ⟨rfl, Nq295, e295⟩ := hQ295
        have N295 := Fr.app N294 Nq295
        refine oS (fun t k => st295 t k) ?_
        show oG _ _ _ _ _ _ _ (T295.setTop (mkF m 247 #[.val (.int p1), .val (.int p2), .val (.int p3), .val (.int 3), .val (.int 1), .val (.int 1), .val (.ref b1), .val (.int (-1)), .val .null, .unset] [(.ref (w 3)), (.ref (w 3)), (.ref (w 5))]))
        try clear st295 X294 e294
        obtain ⟨cq296, kq296, q296a, q296b, q296c⟩ := isOf hZ e295 ((wE5 W).ext O73.2)
        obtain ⟨_, _, ⟨T296, L296, k296, n296⟩, -, X296, ⟨Lc296, hQ296, l296, y296, z296⟩, st296⟩ := X295.virtualBack hx (y := mY8) (z := mY8) hown (mvT hZ (oW hw 17 rfl)) (mvT hZ (oW hw 18 rfl)) (notFace_of_selects (args := #[]) (mvT hZ (oW hw 20 rfl))) (mvT hZ (oW hw 20 rfl)) (mvT hZ (oW hw 19 rfl)) (by decide) (backOf (W := 0) (rm_ty_311 l Z a0 hw []  w h73 n0 O73 W ) hZ (oW hw 21 rfl) (oW hw 7 rfl) (by decide) (by decide)) q296a q296c (g := (mkF m 247 #[.val (.int p1), .val (.int p2), .val (.int p3), .val (.int 3), .val (.int 1), .val (.int 1), .val (.ref b1), .val (.int (-1)), .val .null, .unset] [(.ref (w 3)), (.ref (w 3)), (.ref (w 5))])) rfl (by rw [hml]; rfl) (Steps.refl _) (argsL := [(.ref (w 3)), (.ref (w 3))]) (rest := []) (lenOf pd_6 rfl) rfl (by show 2 * 0 + _ ≤ _; exact Nat.le_of_eq rfl) (hb hby at_247) (fun _ _ => ⟨rfl, e295, (by decide : 1 + 0 ≤ _), (by decide : 36 + 0 ≤ _)⟩)
        dsimp only [Pt.U, Pt.locs, Pt.cells, Pt.slots] at X296 l296 y296 z296 st296 hQ296
        rw [l296, y296, z296] at X296
        clear l296 y296 z296
        obtain ⟨rfl, Nq296, e296⟩ := hQ296
        have N296 := Fr.app N295 Nq296
        refine oS (fun t k => st296.trans k) ?_
        show oG _ _ _ _ _ _ _ (T296.setTop (mkF m 250 #[.val (.int p1), .val (.int p2), .val (.int p3), .val (.int 3), .val (.int 1), .val (.int 1), .val (.ref b1), .val (.int (-1)), .val .null, .unset] [(.ref (w 7))]))
        try clear st296 X295 e295
        refine oS (fun t k => XS.aconstNull X296.here hx rfl (hb hby at_250) k) ?_
        obtain ⟨cq297, kq297, q297a, q297b, q297c⟩ := isOf hZ e296 ((wE7 W).ext O73.2)
        obtain ⟨_, _, ⟨T297, L297, k297, n297⟩, -, X297, ⟨Lc297, hQ297, l297, y297, z297⟩, st297⟩ := X296.virtualBack hx (y := mY7) (z := mY7) hown (mvT hZ (oW hw 39 rfl)) (mvT hZ (oW hw 40 rfl)) (notFace_of_selects (args := #[]) (mvT hZ (oW hw 42 rfl))) (mvT hZ (oW hw 42 rfl)) (mvT hZ (oW hw 41 rfl)) (by decide) (backOf (W := 0) (rm_oe0 l Z a0 hw [] (w 7)  h73 n0 O73  ((wF7_value W).ext O73.2)) hZ (oW hw 43 rfl) (oW hw 36 rfl) (by decide) (by decide)) q297a q297c (g := (mkF m 251 #[.val (.int p1), .val (.int p2), .val (.int p3), .val (.int 3), .val (.int 1), .val (.int 1), .val (.ref b1), .val (.int (-1)), .val .null, .unset] [.null, (.ref (w 7))])) rfl (by rw [hml]; rfl) (Steps.refl _) (argsL := [.null]) (rest := []) (lenOf pd_0 rfl) rfl (by show 2 * 0 + _ ≤ _; exact Nat.le_of_eq rfl) (hb hby at_251) (fun _ _ => ⟨rfl, e296, (by decide : 1 + 0 ≤ _), (by decide : 36 + 0 ≤ _)⟩)
        dsimp only [Pt.U, Pt.locs, Pt.cells, Pt.slots] at X297 l297 y297 z297 st297 hQ297
        rw [l297, y297, z297] at X297
        clear l297 y297 z297
        obtain ⟨rfl, Nq297, e297⟩ := hQ297
        have N297 := Fr.app N296 Nq297
        refine oS (fun t k => st297.trans k) ?_
        show oG _ _ _ _ _ _ _ (T297.setTop (mkF m 254 #[.val (.int p1), .val (.int p2), .val (.int p3), .val (.int 3), .val (.int 1), .val (.int 1), .val (.ref b1), .val (.int (-1)), .val .null, .unset] [.null]))
        try clear st297 X296 e296
        refine oS (fun t k => X297.checkcastNull hx (g := (mkF m 254 #[.val (.int p1), .val (.int p2), .val (.int p3), .val (.int 3), .val (.int 1), .val (.int 1), .val (.ref b1), .val (.int (-1)), .val .null, .unset] [.null])) rfl rfl (hb hby at_254) t k) ?_
        refine oS (fun t k => XS.astore X297.here hx rfl (hb hby at_257) rfl rfl (l' := #[.val (.int p1), .val (.int p2), .val (.int p3), .val (.int 3), .val (.int 1), .val (.int 1), .val (.ref b1), .val (.int (-1)), .val .null, .val .null]) rfl k) ?_
        refine oS (fun t k => XS.aload X297.here hx rfl (hb hby at_259) rfl rfl k) ?_
        refine oS (fun t k => XS.aload X297.here hx rfl (hb hby at_261) rfl rfl k) ?_
        refine oS (fun t k => Jvm.RoadKit.acmp (g := (mkF m 263 #[.val (.int p1), .val (.int p2), .val (.int p3), .val (.int 3), .val (.int 1), .val (.int 1), .val (.ref b1), .val (.int (-1)), .val .null, .val .null] [.null, .null])) X297 hx rfl rfl rfl (pc0 := 263) (pc' := 266) (same := true) rfl (hb hby at_263) rfl (decide_eq_true rfl) (by decide) (by decide) k) ?_
        show oG _ _ _ _ _ _ _ (T297.setTop (mkF m 266 #[.val (.int p1), .val (.int p2), .val (.int p3), .val (.int 3), .val (.int 1), .val (.int 1), .val (.ref b1), .val (.int (-1)), .val .null, .val .null] []))
        refine oS (fun t k => oIc li_1 X297.here hx rfl (hb hby at_266) k) ?_
        refine oS (fun t k => XS.goto X297.here hx rfl (pc0 := 267) (pc' := 271) rfl (hb hby at_267) (by decide) (by decide) k) ?_
        exact own_ret (v := some (.int 1)) X297 (fun h => by rw [Bd.returns] at h; cases h) Bd.notSynchronized (fun fs hr => retN X297 hx (t := .boolean) Bd.returns (by simp) (hb hby at_271) hr) (by rw [e297]; exact ⟨rfl, N297⟩) (by decide) (by decide)
      · rw [hs285]
        show oG _ _ _ _ _ _ _ (T73.setTop (mkF m 200 #[.val (.int p1), .val (.int p2), .val (.int p3), .val (.int 3), .val (.int 1), .val (.int 2), .val (.ref b1), .unset, .unset, .unset] []))
        refine oS (fun t k => XS.aload X73.here hx rfl (hb hby at_200) rfl rfl k) ?_
        refine oS (fun t k => XS.iloadN X73.here hx rfl (hb hby at_202) rfl k) ?_
        show oG _ _ _ _ _ _ _ (T73.setTop (mkF m 203 #[.val (.int p1), .val (.int p2), .val (.int p3), .val (.int 3), .val (.int 1), .val (.int 2), .val (.ref b1), .unset, .unset, .unset] [(.int 3), (.ref b1)]))
        refine oS (fun t k => oBp lb_9 X73.here hx rfl (hb hby at_203) k) ?_
        refine oS (S' := (T73.setTop (mkF m 206 #[.val (.int p1), .val (.int p2), .val (.int p3), .val (.int 3), .val (.int 1), .val (.int 2), .val (.ref b1), .unset, .unset, .unset] [(.int 27), (.ref b1)]))) (fun t k => XS.imul X73.here hx rfl (hb hby at_205) rfl (by rw [show (3 : Int32) * (9 : Int32) = (27 : Int32) from by decide]; exact k)) ?_
        refine oS (fun t k => XS.iload X73.here hx rfl (hb hby at_206) rfl k) ?_
        refine oS (fun t k => oIc li_3 X73.here hx rfl (hb hby at_208) k) ?_
        refine oS (S' := (T73.setTop (mkF m 210 #[.val (.int p1), .val (.int p2), .val (.int p3), .val (.int 3), .val (.int 1), .val (.int 2), .val (.ref b1), .unset, .unset, .unset] [(.int 3), (.int 27), (.ref b1)]))) (fun t k => XS.imul X73.here hx rfl (hb hby at_209) rfl (by rw [show (1 : Int32) * (3 : Int32) = (3 : Int32) from by decide]; exact k)) ?_
        refine oS (S' := (T73.setTop (mkF m 211 #[.val (.int p1), .val (.int p2), .val (.int p3), .val (.int 3), .val (.int 1), .val (.int 2), .val (.ref b1), .unset, .unset, .unset] [(.int 30), (.ref b1)]))) (fun t k => XS.iadd X73.here hx rfl (hb hby at_210) rfl (by rw [show (27 : Int32) + (3 : Int32) = (30 : Int32) from by decide]; exact k)) ?_
        refine oS (fun t k => XS.iload X73.here hx rfl (hb hby at_211) rfl k) ?_
        refine oS (S' := (T73.setTop (mkF m 214 #[.val (.int p1), .val (.int p2), .val (.int p3), .val (.int 3), .val (.int 1), .val (.int 2), .val (.ref b1), .unset, .unset, .unset] [(.int 32), (.ref b1)]))) (fun t k => XS.iadd X73.here hx rfl (hb hby at_213) rfl (by rw [show (30 : Int32) + (2 : Int32) = (32 : Int32) from by decide]; exact k)) ?_
        obtain ⟨cl298, Ar298, qk298, Sz298, Ng298, Ha298, Gf298⟩ := id V73
        have hin298 : ¬ ((32 : Int32) < 0 ∨ cl298.slots.size ≤ ((32 : Int32)).toNatClampNeg) := (inb_of Sz298 ⟨by decide, by decide⟩)
        have hat298 : cl298.slots[((32 : Int32)).toNatClampNeg]? = some (.int (-1)) := Ha298.at hin298 rfl
        refine oS (fun t k => X73.iaload hx (j := (32 : Int32)) (v := (.int (-1))) (by rw [e73]; exact Ar298.1) (State.isArrayOf_alike hZ.alike Ar298.2.1) Ar298.2.2 hin298 hat298 (g := (mkF m 214 #[.val (.int p1), .val (.int p2), .val (.int p3), .val (.int 3), .val (.int 1), .val (.int 2), .val (.ref b1), .unset, .unset, .unset] [(.int 32), (.ref b1)])) rfl rfl (hb hby at_214) t k) ?_
        refine oS (fun t k => XS.istore X73.here hx rfl (hb hby at_215) rfl (l' := #[.val (.int p1), .val (.int p2), .val (.int p3), .val (.int 3), .val (.int 1), .val (.int 2), .val (.ref b1), .val (.int (-1)), .unset, .unset]) rfl k) ?_
        show oG _ _ _ _ _ _ _ (T73.setTop (mkF m 217 #[.val (.int p1), .val (.int p2), .val (.int p3), .val (.int 3), .val (.int 1), .val (.int 2), .val (.ref b1), .val (.int (-1)), .unset, .unset] []))
        refine oS (fun t k => XS.iload X73.here hx rfl (hb hby at_217) rfl k) ?_
        refine oS (fun t k => XS.ifNo X73.here hx rfl (hb hby at_219) rfl ((if0 _ _).trans (tlt (by decide)).2.1) k) ?_
        refine oS (fun t k => XS.aconstNull X73.here hx rfl (hb hby at_222) k) ?_
        refine oS (fun t k => XS.goto X73.here hx rfl (pc0 := 223) (pc' := 231) rfl (hb hby at_223) (by decide) (by decide) k) ?_
        refine oS (fun t k => XS.astore X73.here hx rfl (hb hby at_231) rfl rfl (l' := #[.val (.int p1), .val (.int p2), .val (.int p3), .val (.int 3), .val (.int 1), .val (.int 2), .val (.ref b1), .val (.int (-1)), .val .null, .unset]) rfl k) ?_
        show oG _ _ _ _ _ _ _ (T73.setTop (mkF m 233 #[.val (.int p1), .val (.int p2), .val (.int p3), .val (.int 3), .val (.int 1), .val (.int 2), .val (.ref b1), .val (.int (-1)), .val .null, .unset] []))
        refine oS (fun t k => XS.iloadN X73.here hx rfl (hb hby at_233) rfl k) ?_
        obtain ⟨_, _, ⟨T299, L299, k299, n299⟩, -, X299, ⟨Lc299, hQ299, l299, y299, z299⟩, st299⟩ := Jvm.LawKit.callS X73 hx (y := mY0) hown (mvT hZ (oW hw 2 rfl)) (mvT hZ (oW hw 3 rfl)) (mvT hZ (oW hw 4 rfl)) (mvT hZ (oW hw 5 rfl)) (by decide) (backOf (W := 0) (rm_op_3 l Z a0 hw []  w h73 n0 O73 W ) hZ (oW hw 5 rfl) (oW hw 4 rfl) (by decide) (by decide)) (g := (mkF m 234 #[.val (.int p1), .val (.int p2), .val (.int p3), .val (.int 3), .val (.int 1), .val (.int 2), .val (.ref b1), .val (.int (-1)), .val .null, .unset] [(.int 3)])) rfl (by rw [hml]; rfl) (argsL := [(.int 3)]) (rest := []) (lenOf pd_5 rfl) rfl (by show 2 * 0 + _ ≤ _; exact Nat.le_of_eq rfl) (hb hby at_234) (fun _ _ => ⟨rfl, e73, (by decide : 1 + 0 ≤ _), (by decide : 36 + 0 ≤ _)⟩)
        dsimp only [Pt.U, Pt.locs, Pt.cells, Pt.slots] at X299 l299 y299 z299 st299 hQ299
        rw [l299, y299, z299] at X299
        clear l299 y299 z299
        obtain ⟨rfl, Nq299, e299⟩ := hQ299
        have N299 := Fr.app N73 Nq299
        refine oS (fun t k => st299 t k) ?_
        show oG _ _ _ _ _ _ _ (T299.setTop (mkF m 237 #[.val (.int p1), .val (.int p2), .val (.int p3), .val (.int 3), .val (.int 1), .val (.int 2), .val (.ref b1), .val (.int (-1)), .val .null, .unset] [(.ref (w 5))]))
        try clear st299 X73 e73
        try clear T73
        refine oS (fun t k => XS.iload X299.here hx rfl (hb hby at_237) rfl k) ?_
        obtain ⟨_, _, ⟨T300, L300, k300, n300⟩, -, X300, ⟨Lc300, hQ300, l300, y300, z300⟩, st300⟩ := Jvm.LawKit.callS X299 hx (y := mY2) hown (mvT hZ (oW hw 9 rfl)) (mvT hZ (oW hw 10 rfl)) (mvT hZ (oW hw 4 rfl)) (mvT hZ (oW hw 11 rfl)) (by decide) (backOf (W := 1) (rm_vt_1 l Z a0 hw []  w h73 n0 O73 W ) hZ (oW hw 11 rfl) (oW hw 4 rfl) (by decide) (by decide)) (g := (mkF m 239 #[.val (.int p1), .val (.int p2), .val (.int p3), .val (.int 3), .val (.int 1), .val (.int 2), .val (.ref b1), .val (.int (-1)), .val .null, .unset] [(.int 1), (.ref (w 5))])) rfl (by rw [hml]; rfl) (argsL := [(.int 1)]) (rest := [(.ref (w 5))]) (lenOf pd_4 rfl) rfl (by show 2 * 0 + _ ≤ _; exact Nat.le_of_eq rfl) (hb hby at_239) (fun _ _ => ⟨rfl, e299, (by decide : 1 + 0 ≤ _), (by decide : 36 + 0 ≤ _)⟩)
        dsimp only [Pt.U, Pt.locs, Pt.cells, Pt.slots] at X300 l300 y300 z300 st300 hQ300
        rw [l300, y300, z300] at X300
        clear l300 y300 z300
        obtain ⟨rfl, Nq300, e300⟩ := hQ300
        have N300 := Fr.app N299 Nq300
        refine oS (fun t k => st300 t k) ?_
        show oG _ _ _ _ _ _ _ (T300.setTop (mkF m 242 #[.val (.int p1), .val (.int p2), .val (.int p3), .val (.int 3), .val (.int 1), .val (.int 2), .val (.ref b1), .val (.int (-1)), .val .null, .unset] [(.ref (w 3)), (.ref (w 5))]))
        try clear st300 X299 e299
        refine oS (fun t k => XS.iload X300.here hx rfl (hb hby at_242) rfl k) ?_
        obtain ⟨_, _, ⟨T301, L301, k301, n301⟩, -, X301, ⟨Lc301, hQ301, l301, y301, z301⟩, st301⟩ := Jvm.LawKit.callS X300 hx (y := mY2) hown (mvT hZ (oW hw 9 rfl)) (mvT hZ (oW hw 10 rfl)) (mvT hZ (oW hw 4 rfl)) (mvT hZ (oW hw 11 rfl)) (by decide) (backOf (W := 2) (rm_vt_2 l Z a0 hw []  w h73 n0 O73 W ) hZ (oW hw 11 rfl) (oW hw 4 rfl) (by decide) (by decide)) (g := (mkF m 244 #[.val (.int p1), .val (.int p2), .val (.int p3), .val (.int 3), .val (.int 1), .val (.int 2), .val (.ref b1), .val (.int (-1)), .val .null, .unset] [(.int 2), (.ref (w 3)), (.ref (w 5))])) rfl (by rw [hml]; rfl) (argsL := [(.int 2)]) (rest := [(.ref (w 3)), (.ref (w 5))]) (lenOf pd_4 rfl) rfl (by show 2 * 0 + _ ≤ _; exact Nat.le_of_eq rfl) (hb hby at_244) (fun _ _ => ⟨rfl, e300, (by decide : 1 + 0 ≤ _), (by decide : 36 + 0 ≤ _)⟩)
        dsimp only [Pt.U, Pt.locs, Pt.cells, Pt.slots] at X301 l301 y301 z301 st301 hQ301
        rw [l301, y301, z301] at X301
        clear l301 y301 z301
        obtain ⟨rfl, Nq301, e301⟩ := hQ301
        have N301 := Fr.app N300 Nq301
        refine oS (fun t k => st301 t k) ?_
        show oG _ _ _ _ _ _ _ (T301.setTop (mkF m 247 #[.val (.int p1), .val (.int p2), .val (.int p3), .val (.int 3), .val (.int 1), .val (.int 2), .val (.ref b1), .val (.int (-1)), .val .null, .unset] [(.ref (w 2)), (.ref (w 3)), (.ref (w 5))]))
        try clear st301 X300 e300
        obtain ⟨cq302, kq302, q302a, q302b, q302c⟩ := isOf hZ e301 ((wE5 W).ext O73.2)
        obtain ⟨_, _, ⟨T302, L302, k302, n302⟩, -, X302, ⟨Lc302, hQ302, l302, y302, z302⟩, st302⟩ := X301.virtualBack hx (y := mY8) (z := mY8) hown (mvT hZ (oW hw 17 rfl)) (mvT hZ (oW hw 18 rfl)) (notFace_of_selects (args := #[]) (mvT hZ (oW hw 20 rfl))) (mvT hZ (oW hw 20 rfl)) (mvT hZ (oW hw 19 rfl)) (by decide) (backOf (W := 0) (rm_ty_312 l Z a0 hw []  w h73 n0 O73 W ) hZ (oW hw 21 rfl) (oW hw 7 rfl) (by decide) (by decide)) q302a q302c (g := (mkF m 247 #[.val (.int p1), .val (.int p2), .val (.int p3), .val (.int 3), .val (.int 1), .val (.int 2), .val (.ref b1), .val (.int (-1)), .val .null, .unset] [(.ref (w 2)), (.ref (w 3)), (.ref (w 5))])) rfl (by rw [hml]; rfl) (Steps.refl _) (argsL := [(.ref (w 3)), (.ref (w 2))]) (rest := []) (lenOf pd_6 rfl) rfl (by show 2 * 0 + _ ≤ _; exact Nat.le_of_eq rfl) (hb hby at_247) (fun _ _ => ⟨rfl, e301, (by decide : 1 + 0 ≤ _), (by decide : 36 + 0 ≤ _)⟩)
        dsimp only [Pt.U, Pt.locs, Pt.cells, Pt.slots] at X302 l302 y302 z302 st302 hQ302
        rw [l302, y302, z302] at X302
        clear l302 y302 z302
        obtain ⟨rfl, Nq302, e302⟩ := hQ302
        have N302 := Fr.app N301 Nq302
        refine oS (fun t k => st302.trans k) ?_
        show oG _ _ _ _ _ _ _ (T302.setTop (mkF m 250 #[.val (.int p1), .val (.int p2), .val (.int p3), .val (.int 3), .val (.int 1), .val (.int 2), .val (.ref b1), .val (.int (-1)), .val .null, .unset] [(.ref (w 7))]))
        try clear st302 X301 e301
        refine oS (fun t k => XS.aconstNull X302.here hx rfl (hb hby at_250) k) ?_
        obtain ⟨cq303, kq303, q303a, q303b, q303c⟩ := isOf hZ e302 ((wE7 W).ext O73.2)
        obtain ⟨_, _, ⟨T303, L303, k303, n303⟩, -, X303, ⟨Lc303, hQ303, l303, y303, z303⟩, st303⟩ := X302.virtualBack hx (y := mY7) (z := mY7) hown (mvT hZ (oW hw 39 rfl)) (mvT hZ (oW hw 40 rfl)) (notFace_of_selects (args := #[]) (mvT hZ (oW hw 42 rfl))) (mvT hZ (oW hw 42 rfl)) (mvT hZ (oW hw 41 rfl)) (by decide) (backOf (W := 0) (rm_oe0 l Z a0 hw [] (w 7)  h73 n0 O73  ((wF7_value W).ext O73.2)) hZ (oW hw 43 rfl) (oW hw 36 rfl) (by decide) (by decide)) q303a q303c (g := (mkF m 251 #[.val (.int p1), .val (.int p2), .val (.int p3), .val (.int 3), .val (.int 1), .val (.int 2), .val (.ref b1), .val (.int (-1)), .val .null, .unset] [.null, (.ref (w 7))])) rfl (by rw [hml]; rfl) (Steps.refl _) (argsL := [.null]) (rest := []) (lenOf pd_0 rfl) rfl (by show 2 * 0 + _ ≤ _; exact Nat.le_of_eq rfl) (hb hby at_251) (fun _ _ => ⟨rfl, e302, (by decide : 1 + 0 ≤ _), (by decide : 36 + 0 ≤ _)⟩)
        dsimp only [Pt.U, Pt.locs, Pt.cells, Pt.slots] at X303 l303 y303 z303 st303 hQ303
        rw [l303, y303, z303] at X303
        clear l303 y303 z303
        obtain ⟨rfl, Nq303, e303⟩ := hQ303
        have N303 := Fr.app N302 Nq303
        refine oS (fun t k => st303.trans k) ?_
        show oG _ _ _ _ _ _ _ (T303.setTop (mkF m 254 #[.val (.int p1), .val (.int p2), .val (.int p3), .val (.int 3), .val (.int 1), .val (.int 2), .val (.ref b1), .val (.int (-1)), .val .null, .unset] [.null]))
        try clear st303 X302 e302
        refine oS (fun t k => X303.checkcastNull hx (g := (mkF m 254 #[.val (.int p1), .val (.int p2), .val (.int p3), .val (.int 3), .val (.int 1), .val (.int 2), .val (.ref b1), .val (.int (-1)), .val .null, .unset] [.null])) rfl rfl (hb hby at_254) t k) ?_
        refine oS (fun t k => XS.astore X303.here hx rfl (hb hby at_257) rfl rfl (l' := #[.val (.int p1), .val (.int p2), .val (.int p3), .val (.int 3), .val (.int 1), .val (.int 2), .val (.ref b1), .val (.int (-1)), .val .null, .val .null]) rfl k) ?_
        refine oS (fun t k => XS.aload X303.here hx rfl (hb hby at_259) rfl rfl k) ?_
        refine oS (fun t k => XS.aload X303.here hx rfl (hb hby at_261) rfl rfl k) ?_
        refine oS (fun t k => Jvm.RoadKit.acmp (g := (mkF m 263 #[.val (.int p1), .val (.int p2), .val (.int p3), .val (.int 3), .val (.int 1), .val (.int 2), .val (.ref b1), .val (.int (-1)), .val .null, .val .null] [.null, .null])) X303 hx rfl rfl rfl (pc0 := 263) (pc' := 266) (same := true) rfl (hb hby at_263) rfl (decide_eq_true rfl) (by decide) (by decide) k) ?_
        show oG _ _ _ _ _ _ _ (T303.setTop (mkF m 266 #[.val (.int p1), .val (.int p2), .val (.int p3), .val (.int 3), .val (.int 1), .val (.int 2), .val (.ref b1), .val (.int (-1)), .val .null, .val .null] []))
        refine oS (fun t k => oIc li_1 X303.here hx rfl (hb hby at_266) k) ?_
        refine oS (fun t k => XS.goto X303.here hx rfl (pc0 := 267) (pc' := 271) rfl (hb hby at_267) (by decide) (by decide) k) ?_
        exact own_ret (v := some (.int 1)) X303 (fun h => by rw [Bd.returns] at h; cases h) Bd.notSynchronized (fun fs hr => retN X303 hx (t := .boolean) Bd.returns (by simp) (hb hby at_271) hr) (by rw [e303]; exact ⟨rfl, N303⟩) (by decide) (by decide)
    · rw [hs263]
      show oG _ _ _ _ _ _ _ (T73.setTop (mkF m 200 #[.val (.int p1), .val (.int p2), .val (.int p3), .val (.int 3), .val (.int 2), .val (.int ((p3 &&& (2147483647 : Int32)) % (3 : Int32))), .val (.ref b1), .unset, .unset, .unset] []))
      show oG _ _ _ _ _ _ _ (T73.setTop (mkF m 200 #[.val (.int p1), .val (.int p2), .val (.int p3), .val (.int 3), .val (.int 2), .val (.int ((p3 &&& (2147483647 : Int32)) % (3 : Int32))), .val (.ref b1), .unset, .unset, .unset] []))
      rcases own_three p3 with hs304 | hs304 | hs304
      · rw [hs304]
        show oG _ _ _ _ _ _ _ (T73.setTop (mkF m 200 #[.val (.int p1), .val (.int p2), .val (.int p3), .val (.int 3), .val (.int 2), .val (.int 0), .val (.ref b1), .unset, .unset, .unset] []))
        refine oS (fun t k => XS.aload X73.here hx rfl (hb hby at_200) rfl rfl k) ?_
        refine oS (fun t k => XS.iloadN X73.here hx rfl (hb hby at_202) rfl k) ?_
        show oG _ _ _ _ _ _ _ (T73.setTop (mkF m 203 #[.val (.int p1), .val (.int p2), .val (.int p3), .val (.int 3), .val (.int 2), .val (.int 0), .val (.ref b1), .unset, .unset, .unset] [(.int 3), (.ref b1)]))
        refine oS (fun t k => oBp lb_9 X73.here hx rfl (hb hby at_203) k) ?_
        refine oS (S' := (T73.setTop (mkF m 206 #[.val (.int p1), .val (.int p2), .val (.int p3), .val (.int 3), .val (.int 2), .val (.int 0), .val (.ref b1), .unset, .unset, .unset] [(.int 27), (.ref b1)]))) (fun t k => XS.imul X73.here hx rfl (hb hby at_205) rfl (by rw [show (3 : Int32) * (9 : Int32) = (27 : Int32) from by decide]; exact k)) ?_
        refine oS (fun t k => XS.iload X73.here hx rfl (hb hby at_206) rfl k) ?_
        refine oS (fun t k => oIc li_3 X73.here hx rfl (hb hby at_208) k) ?_
        refine oS (S' := (T73.setTop (mkF m 210 #[.val (.int p1), .val (.int p2), .val (.int p3), .val (.int 3), .val (.int 2), .val (.int 0), .val (.ref b1), .unset, .unset, .unset] [(.int 6), (.int 27), (.ref b1)]))) (fun t k => XS.imul X73.here hx rfl (hb hby at_209) rfl (by rw [show (2 : Int32) * (3 : Int32) = (6 : Int32) from by decide]; exact k)) ?_
        refine oS (S' := (T73.setTop (mkF m 211 #[.val (.int p1), .val (.int p2), .val (.int p3), .val (.int 3), .val (.int 2), .val (.int 0), .val (.ref b1), .unset, .unset, .unset] [(.int 33), (.ref b1)]))) (fun t k => XS.iadd X73.here hx rfl (hb hby at_210) rfl (by rw [show (27 : Int32) + (6 : Int32) = (33 : Int32) from by decide]; exact k)) ?_
        refine oS (fun t k => XS.iload X73.here hx rfl (hb hby at_211) rfl k) ?_
        refine oS (S' := (T73.setTop (mkF m 214 #[.val (.int p1), .val (.int p2), .val (.int p3), .val (.int 3), .val (.int 2), .val (.int 0), .val (.ref b1), .unset, .unset, .unset] [(.int 33), (.ref b1)]))) (fun t k => XS.iadd X73.here hx rfl (hb hby at_213) rfl (by rw [show (33 : Int32) + (0 : Int32) = (33 : Int32) from by decide]; exact k)) ?_
        obtain ⟨cl305, Ar305, qk305, Sz305, Ng305, Ha305, Gf305⟩ := id V73
        have hin305 : ¬ ((33 : Int32) < 0 ∨ cl305.slots.size ≤ ((33 : Int32)).toNatClampNeg) := (inb_of Sz305 ⟨by decide, by decide⟩)
        have hat305 : cl305.slots[((33 : Int32)).toNatClampNeg]? = some (.int (-1)) := Ha305.at hin305 rfl
        refine oS (fun t k => X73.iaload hx (j := (33 : Int32)) (v := (.int (-1))) (by rw [e73]; exact Ar305.1) (State.isArrayOf_alike hZ.alike Ar305.2.1) Ar305.2.2 hin305 hat305 (g := (mkF m 214 #[.val (.int p1), .val (.int p2), .val (.int p3), .val (.int 3), .val (.int 2), .val (.int 0), .val (.ref b1), .unset, .unset, .unset] [(.int 33), (.ref b1)])) rfl rfl (hb hby at_214) t k) ?_
        refine oS (fun t k => XS.istore X73.here hx rfl (hb hby at_215) rfl (l' := #[.val (.int p1), .val (.int p2), .val (.int p3), .val (.int 3), .val (.int 2), .val (.int 0), .val (.ref b1), .val (.int (-1)), .unset, .unset]) rfl k) ?_
        show oG _ _ _ _ _ _ _ (T73.setTop (mkF m 217 #[.val (.int p1), .val (.int p2), .val (.int p3), .val (.int 3), .val (.int 2), .val (.int 0), .val (.ref b1), .val (.int (-1)), .unset, .unset] []))
        refine oS (fun t k => XS.iload X73.here hx rfl (hb hby at_217) rfl k) ?_
        refine oS (fun t k => XS.ifNo X73.here hx rfl (hb hby at_219) rfl ((if0 _ _).trans (tlt (by decide)).2.1) k) ?_
        refine oS (fun t k => XS.aconstNull X73.here hx rfl (hb hby at_222) k) ?_
        refine oS (fun t k => XS.goto X73.here hx rfl (pc0 := 223) (pc' := 231) rfl (hb hby at_223) (by decide) (by decide) k) ?_
        refine oS (fun t k => XS.astore X73.here hx rfl (hb hby at_231) rfl rfl (l' := #[.val (.int p1), .val (.int p2), .val (.int p3), .val (.int 3), .val (.int 2), .val (.int 0), .val (.ref b1), .val (.int (-1)), .val .null, .unset]) rfl k) ?_
        show oG _ _ _ _ _ _ _ (T73.setTop (mkF m 233 #[.val (.int p1), .val (.int p2), .val (.int p3), .val (.int 3), .val (.int 2), .val (.int 0), .val (.ref b1), .val (.int (-1)), .val .null, .unset] []))
        refine oS (fun t k => XS.iloadN X73.here hx rfl (hb hby at_233) rfl k) ?_
        obtain ⟨_, _, ⟨T306, L306, k306, n306⟩, -, X306, ⟨Lc306, hQ306, l306, y306, z306⟩, st306⟩ := Jvm.LawKit.callS X73 hx (y := mY0) hown (mvT hZ (oW hw 2 rfl)) (mvT hZ (oW hw 3 rfl)) (mvT hZ (oW hw 4 rfl)) (mvT hZ (oW hw 5 rfl)) (by decide) (backOf (W := 0) (rm_op_3 l Z a0 hw []  w h73 n0 O73 W ) hZ (oW hw 5 rfl) (oW hw 4 rfl) (by decide) (by decide)) (g := (mkF m 234 #[.val (.int p1), .val (.int p2), .val (.int p3), .val (.int 3), .val (.int 2), .val (.int 0), .val (.ref b1), .val (.int (-1)), .val .null, .unset] [(.int 3)])) rfl (by rw [hml]; rfl) (argsL := [(.int 3)]) (rest := []) (lenOf pd_5 rfl) rfl (by show 2 * 0 + _ ≤ _; exact Nat.le_of_eq rfl) (hb hby at_234) (fun _ _ => ⟨rfl, e73, (by decide : 1 + 0 ≤ _), (by decide : 36 + 0 ≤ _)⟩)
        dsimp only [Pt.U, Pt.locs, Pt.cells, Pt.slots] at X306 l306 y306 z306 st306 hQ306
        rw [l306, y306, z306] at X306
        clear l306 y306 z306
        obtain ⟨rfl, Nq306, e306⟩ := hQ306
        have N306 := Fr.app N73 Nq306
        refine oS (fun t k => st306 t k) ?_
        show oG _ _ _ _ _ _ _ (T306.setTop (mkF m 237 #[.val (.int p1), .val (.int p2), .val (.int p3), .val (.int 3), .val (.int 2), .val (.int 0), .val (.ref b1), .val (.int (-1)), .val .null, .unset] [(.ref (w 5))]))
        try clear st306 X73 e73
        try clear T73
        refine oS (fun t k => XS.iload X306.here hx rfl (hb hby at_237) rfl k) ?_
        obtain ⟨_, _, ⟨T307, L307, k307, n307⟩, -, X307, ⟨Lc307, hQ307, l307, y307, z307⟩, st307⟩ := Jvm.LawKit.callS X306 hx (y := mY2) hown (mvT hZ (oW hw 9 rfl)) (mvT hZ (oW hw 10 rfl)) (mvT hZ (oW hw 4 rfl)) (mvT hZ (oW hw 11 rfl)) (by decide) (backOf (W := 1) (rm_vt_2 l Z a0 hw []  w h73 n0 O73 W ) hZ (oW hw 11 rfl) (oW hw 4 rfl) (by decide) (by decide)) (g := (mkF m 239 #[.val (.int p1), .val (.int p2), .val (.int p3), .val (.int 3), .val (.int 2), .val (.int 0), .val (.ref b1), .val (.int (-1)), .val .null, .unset] [(.int 2), (.ref (w 5))])) rfl (by rw [hml]; rfl) (argsL := [(.int 2)]) (rest := [(.ref (w 5))]) (lenOf pd_4 rfl) rfl (by show 2 * 0 + _ ≤ _; exact Nat.le_of_eq rfl) (hb hby at_239) (fun _ _ => ⟨rfl, e306, (by decide : 1 + 0 ≤ _), (by decide : 36 + 0 ≤ _)⟩)
        dsimp only [Pt.U, Pt.locs, Pt.cells, Pt.slots] at X307 l307 y307 z307 st307 hQ307
        rw [l307, y307, z307] at X307
        clear l307 y307 z307
        obtain ⟨rfl, Nq307, e307⟩ := hQ307
        have N307 := Fr.app N306 Nq307
        refine oS (fun t k => st307 t k) ?_
        show oG _ _ _ _ _ _ _ (T307.setTop (mkF m 242 #[.val (.int p1), .val (.int p2), .val (.int p3), .val (.int 3), .val (.int 2), .val (.int 0), .val (.ref b1), .val (.int (-1)), .val .null, .unset] [(.ref (w 2)), (.ref (w 5))]))
        try clear st307 X306 e306
        refine oS (fun t k => XS.iload X307.here hx rfl (hb hby at_242) rfl k) ?_
        obtain ⟨_, _, ⟨T308, L308, k308, n308⟩, -, X308, ⟨Lc308, hQ308, l308, y308, z308⟩, st308⟩ := Jvm.LawKit.callS X307 hx (y := mY2) hown (mvT hZ (oW hw 9 rfl)) (mvT hZ (oW hw 10 rfl)) (mvT hZ (oW hw 4 rfl)) (mvT hZ (oW hw 11 rfl)) (by decide) (backOf (W := 2) (rm_vt_0 l Z a0 hw []  w h73 n0 O73 W ) hZ (oW hw 11 rfl) (oW hw 4 rfl) (by decide) (by decide)) (g := (mkF m 244 #[.val (.int p1), .val (.int p2), .val (.int p3), .val (.int 3), .val (.int 2), .val (.int 0), .val (.ref b1), .val (.int (-1)), .val .null, .unset] [(.int 0), (.ref (w 2)), (.ref (w 5))])) rfl (by rw [hml]; rfl) (argsL := [(.int 0)]) (rest := [(.ref (w 2)), (.ref (w 5))]) (lenOf pd_4 rfl) rfl (by show 2 * 0 + _ ≤ _; exact Nat.le_of_eq rfl) (hb hby at_244) (fun _ _ => ⟨rfl, e307, (by decide : 1 + 0 ≤ _), (by decide : 36 + 0 ≤ _)⟩)
        dsimp only [Pt.U, Pt.locs, Pt.cells, Pt.slots] at X308 l308 y308 z308 st308 hQ308
        rw [l308, y308, z308] at X308
        clear l308 y308 z308
        obtain ⟨rfl, Nq308, e308⟩ := hQ308
        have N308 := Fr.app N307 Nq308
        refine oS (fun t k => st308 t k) ?_
        show oG _ _ _ _ _ _ _ (T308.setTop (mkF m 247 #[.val (.int p1), .val (.int p2), .val (.int p3), .val (.int 3), .val (.int 2), .val (.int 0), .val (.ref b1), .val (.int (-1)), .val .null, .unset] [(.ref (w 1)), (.ref (w 2)), (.ref (w 5))]))
        try clear st308 X307 e307
        obtain ⟨cq309, kq309, q309a, q309b, q309c⟩ := isOf hZ e308 ((wE5 W).ext O73.2)
        obtain ⟨_, _, ⟨T309, L309, k309, n309⟩, -, X309, ⟨Lc309, hQ309, l309, y309, z309⟩, st309⟩ := X308.virtualBack hx (y := mY8) (z := mY8) hown (mvT hZ (oW hw 17 rfl)) (mvT hZ (oW hw 18 rfl)) (notFace_of_selects (args := #[]) (mvT hZ (oW hw 20 rfl))) (mvT hZ (oW hw 20 rfl)) (mvT hZ (oW hw 19 rfl)) (by decide) (backOf (W := 0) (rm_ty_320 l Z a0 hw []  w h73 n0 O73 W ) hZ (oW hw 21 rfl) (oW hw 7 rfl) (by decide) (by decide)) q309a q309c (g := (mkF m 247 #[.val (.int p1), .val (.int p2), .val (.int p3), .val (.int 3), .val (.int 2), .val (.int 0), .val (.ref b1), .val (.int (-1)), .val .null, .unset] [(.ref (w 1)), (.ref (w 2)), (.ref (w 5))])) rfl (by rw [hml]; rfl) (Steps.refl _) (argsL := [(.ref (w 2)), (.ref (w 1))]) (rest := []) (lenOf pd_6 rfl) rfl (by show 2 * 0 + _ ≤ _; exact Nat.le_of_eq rfl) (hb hby at_247) (fun _ _ => ⟨rfl, e308, (by decide : 1 + 0 ≤ _), (by decide : 36 + 0 ≤ _)⟩)
        dsimp only [Pt.U, Pt.locs, Pt.cells, Pt.slots] at X309 l309 y309 z309 st309 hQ309
        rw [l309, y309, z309] at X309
        clear l309 y309 z309
        obtain ⟨rfl, Nq309, e309⟩ := hQ309
        have N309 := Fr.app N308 Nq309
        refine oS (fun t k => st309.trans k) ?_
        show oG _ _ _ _ _ _ _ (T309.setTop (mkF m 250 #[.val (.int p1), .val (.int p2), .val (.int p3), .val (.int 3), .val (.int 2), .val (.int 0), .val (.ref b1), .val (.int (-1)), .val .null, .unset] [(.ref (w 7))]))
        try clear st309 X308 e308
        refine oS (fun t k => XS.aconstNull X309.here hx rfl (hb hby at_250) k) ?_
        obtain ⟨cq310, kq310, q310a, q310b, q310c⟩ := isOf hZ e309 ((wE7 W).ext O73.2)
        obtain ⟨_, _, ⟨T310, L310, k310, n310⟩, -, X310, ⟨Lc310, hQ310, l310, y310, z310⟩, st310⟩ := X309.virtualBack hx (y := mY7) (z := mY7) hown (mvT hZ (oW hw 39 rfl)) (mvT hZ (oW hw 40 rfl)) (notFace_of_selects (args := #[]) (mvT hZ (oW hw 42 rfl))) (mvT hZ (oW hw 42 rfl)) (mvT hZ (oW hw 41 rfl)) (by decide) (backOf (W := 0) (rm_oe0 l Z a0 hw [] (w 7)  h73 n0 O73  ((wF7_value W).ext O73.2)) hZ (oW hw 43 rfl) (oW hw 36 rfl) (by decide) (by decide)) q310a q310c (g := (mkF m 251 #[.val (.int p1), .val (.int p2), .val (.int p3), .val (.int 3), .val (.int 2), .val (.int 0), .val (.ref b1), .val (.int (-1)), .val .null, .unset] [.null, (.ref (w 7))])) rfl (by rw [hml]; rfl) (Steps.refl _) (argsL := [.null]) (rest := []) (lenOf pd_0 rfl) rfl (by show 2 * 0 + _ ≤ _; exact Nat.le_of_eq rfl) (hb hby at_251) (fun _ _ => ⟨rfl, e309, (by decide : 1 + 0 ≤ _), (by decide : 36 + 0 ≤ _)⟩)
        dsimp only [Pt.U, Pt.locs, Pt.cells, Pt.slots] at X310 l310 y310 z310 st310 hQ310
        rw [l310, y310, z310] at X310
        clear l310 y310 z310
        obtain ⟨rfl, Nq310, e310⟩ := hQ310
        have N310 := Fr.app N309 Nq310
        refine oS (fun t k => st310.trans k) ?_
        show oG _ _ _ _ _ _ _ (T310.setTop (mkF m 254 #[.val (.int p1), .val (.int p2), .val (.int p3), .val (.int 3), .val (.int 2), .val (.int 0), .val (.ref b1), .val (.int (-1)), .val .null, .unset] [.null]))
        try clear st310 X309 e309
        refine oS (fun t k => X310.checkcastNull hx (g := (mkF m 254 #[.val (.int p1), .val (.int p2), .val (.int p3), .val (.int 3), .val (.int 2), .val (.int 0), .val (.ref b1), .val (.int (-1)), .val .null, .unset] [.null])) rfl rfl (hb hby at_254) t k) ?_
        refine oS (fun t k => XS.astore X310.here hx rfl (hb hby at_257) rfl rfl (l' := #[.val (.int p1), .val (.int p2), .val (.int p3), .val (.int 3), .val (.int 2), .val (.int 0), .val (.ref b1), .val (.int (-1)), .val .null, .val .null]) rfl k) ?_
        refine oS (fun t k => XS.aload X310.here hx rfl (hb hby at_259) rfl rfl k) ?_
        refine oS (fun t k => XS.aload X310.here hx rfl (hb hby at_261) rfl rfl k) ?_
        refine oS (fun t k => Jvm.RoadKit.acmp (g := (mkF m 263 #[.val (.int p1), .val (.int p2), .val (.int p3), .val (.int 3), .val (.int 2), .val (.int 0), .val (.ref b1), .val (.int (-1)), .val .null, .val .null] [.null, .null])) X310 hx rfl rfl rfl (pc0 := 263) (pc' := 266) (same := true) rfl (hb hby at_263) rfl (decide_eq_true rfl) (by decide) (by decide) k) ?_
        show oG _ _ _ _ _ _ _ (T310.setTop (mkF m 266 #[.val (.int p1), .val (.int p2), .val (.int p3), .val (.int 3), .val (.int 2), .val (.int 0), .val (.ref b1), .val (.int (-1)), .val .null, .val .null] []))
        refine oS (fun t k => oIc li_1 X310.here hx rfl (hb hby at_266) k) ?_
        refine oS (fun t k => XS.goto X310.here hx rfl (pc0 := 267) (pc' := 271) rfl (hb hby at_267) (by decide) (by decide) k) ?_
        exact own_ret (v := some (.int 1)) X310 (fun h => by rw [Bd.returns] at h; cases h) Bd.notSynchronized (fun fs hr => retN X310 hx (t := .boolean) Bd.returns (by simp) (hb hby at_271) hr) (by rw [e310]; exact ⟨rfl, N310⟩) (by decide) (by decide)
      · rw [hs304]
        show oG _ _ _ _ _ _ _ (T73.setTop (mkF m 200 #[.val (.int p1), .val (.int p2), .val (.int p3), .val (.int 3), .val (.int 2), .val (.int 1), .val (.ref b1), .unset, .unset, .unset] []))
        refine oS (fun t k => XS.aload X73.here hx rfl (hb hby at_200) rfl rfl k) ?_
        refine oS (fun t k => XS.iloadN X73.here hx rfl (hb hby at_202) rfl k) ?_
        show oG _ _ _ _ _ _ _ (T73.setTop (mkF m 203 #[.val (.int p1), .val (.int p2), .val (.int p3), .val (.int 3), .val (.int 2), .val (.int 1), .val (.ref b1), .unset, .unset, .unset] [(.int 3), (.ref b1)]))
        refine oS (fun t k => oBp lb_9 X73.here hx rfl (hb hby at_203) k) ?_
        refine oS (S' := (T73.setTop (mkF m 206 #[.val (.int p1), .val (.int p2), .val (.int p3), .val (.int 3), .val (.int 2), .val (.int 1), .val (.ref b1), .unset, .unset, .unset] [(.int 27), (.ref b1)]))) (fun t k => XS.imul X73.here hx rfl (hb hby at_205) rfl (by rw [show (3 : Int32) * (9 : Int32) = (27 : Int32) from by decide]; exact k)) ?_
        refine oS (fun t k => XS.iload X73.here hx rfl (hb hby at_206) rfl k) ?_
        refine oS (fun t k => oIc li_3 X73.here hx rfl (hb hby at_208) k) ?_
        refine oS (S' := (T73.setTop (mkF m 210 #[.val (.int p1), .val (.int p2), .val (.int p3), .val (.int 3), .val (.int 2), .val (.int 1), .val (.ref b1), .unset, .unset, .unset] [(.int 6), (.int 27), (.ref b1)]))) (fun t k => XS.imul X73.here hx rfl (hb hby at_209) rfl (by rw [show (2 : Int32) * (3 : Int32) = (6 : Int32) from by decide]; exact k)) ?_
        refine oS (S' := (T73.setTop (mkF m 211 #[.val (.int p1), .val (.int p2), .val (.int p3), .val (.int 3), .val (.int 2), .val (.int 1), .val (.ref b1), .unset, .unset, .unset] [(.int 33), (.ref b1)]))) (fun t k => XS.iadd X73.here hx rfl (hb hby at_210) rfl (by rw [show (27 : Int32) + (6 : Int32) = (33 : Int32) from by decide]; exact k)) ?_
        refine oS (fun t k => XS.iload X73.here hx rfl (hb hby at_211) rfl k) ?_
        refine oS (S' := (T73.setTop (mkF m 214 #[.val (.int p1), .val (.int p2), .val (.int p3), .val (.int 3), .val (.int 2), .val (.int 1), .val (.ref b1), .unset, .unset, .unset] [(.int 34), (.ref b1)]))) (fun t k => XS.iadd X73.here hx rfl (hb hby at_213) rfl (by rw [show (33 : Int32) + (1 : Int32) = (34 : Int32) from by decide]; exact k)) ?_
        obtain ⟨cl311, Ar311, qk311, Sz311, Ng311, Ha311, Gf311⟩ := id V73
        have hin311 : ¬ ((34 : Int32) < 0 ∨ cl311.slots.size ≤ ((34 : Int32)).toNatClampNeg) := (inb_of Sz311 ⟨by decide, by decide⟩)
        have hat311 : cl311.slots[((34 : Int32)).toNatClampNeg]? = some (.int (-1)) := Ha311.at hin311 rfl
        refine oS (fun t k => X73.iaload hx (j := (34 : Int32)) (v := (.int (-1))) (by rw [e73]; exact Ar311.1) (State.isArrayOf_alike hZ.alike Ar311.2.1) Ar311.2.2 hin311 hat311 (g := (mkF m 214 #[.val (.int p1), .val (.int p2), .val (.int p3), .val (.int 3), .val (.int 2), .val (.int 1), .val (.ref b1), .unset, .unset, .unset] [(.int 34), (.ref b1)])) rfl rfl (hb hby at_214) t k) ?_
        refine oS (fun t k => XS.istore X73.here hx rfl (hb hby at_215) rfl (l' := #[.val (.int p1), .val (.int p2), .val (.int p3), .val (.int 3), .val (.int 2), .val (.int 1), .val (.ref b1), .val (.int (-1)), .unset, .unset]) rfl k) ?_
        show oG _ _ _ _ _ _ _ (T73.setTop (mkF m 217 #[.val (.int p1), .val (.int p2), .val (.int p3), .val (.int 3), .val (.int 2), .val (.int 1), .val (.ref b1), .val (.int (-1)), .unset, .unset] []))
        refine oS (fun t k => XS.iload X73.here hx rfl (hb hby at_217) rfl k) ?_
        refine oS (fun t k => XS.ifNo X73.here hx rfl (hb hby at_219) rfl ((if0 _ _).trans (tlt (by decide)).2.1) k) ?_
        refine oS (fun t k => XS.aconstNull X73.here hx rfl (hb hby at_222) k) ?_
        refine oS (fun t k => XS.goto X73.here hx rfl (pc0 := 223) (pc' := 231) rfl (hb hby at_223) (by decide) (by decide) k) ?_
        refine oS (fun t k => XS.astore X73.here hx rfl (hb hby at_231) rfl rfl (l' := #[.val (.int p1), .val (.int p2), .val (.int p3), .val (.int 3), .val (.int 2), .val (.int 1), .val (.ref b1), .val (.int (-1)), .val .null, .unset]) rfl k) ?_
        show oG _ _ _ _ _ _ _ (T73.setTop (mkF m 233 #[.val (.int p1), .val (.int p2), .val (.int p3), .val (.int 3), .val (.int 2), .val (.int 1), .val (.ref b1), .val (.int (-1)), .val .null, .unset] []))
        refine oS (fun t k => XS.iloadN X73.here hx rfl (hb hby at_233) rfl k) ?_
        obtain ⟨_, _, ⟨T312, L312, k312, n312⟩, -, X312, ⟨Lc312, hQ312, l312, y312, z312⟩, st312⟩ := Jvm.LawKit.callS X73 hx (y := mY0) hown (mvT hZ (oW hw 2 rfl)) (mvT hZ (oW hw 3 rfl)) (mvT hZ (oW hw 4 rfl)) (mvT hZ (oW hw 5 rfl)) (by decide) (backOf (W := 0) (rm_op_3 l Z a0 hw []  w h73 n0 O73 W ) hZ (oW hw 5 rfl) (oW hw 4 rfl) (by decide) (by decide)) (g := (mkF m 234 #[.val (.int p1), .val (.int p2), .val (.int p3), .val (.int 3), .val (.int 2), .val (.int 1), .val (.ref b1), .val (.int (-1)), .val .null, .unset] [(.int 3)])) rfl (by rw [hml]; rfl) (argsL := [(.int 3)]) (rest := []) (lenOf pd_5 rfl) rfl (by show 2 * 0 + _ ≤ _; exact Nat.le_of_eq rfl) (hb hby at_234) (fun _ _ => ⟨rfl, e73, (by decide : 1 + 0 ≤ _), (by decide : 36 + 0 ≤ _)⟩)
        dsimp only [Pt.U, Pt.locs, Pt.cells, Pt.slots] at X312 l312 y312 z312 st312 hQ312
        rw [l312, y312, z312] at X312
        clear l312 y312 z312
        obtain ⟨rfl, Nq312, e312⟩ := hQ312
        have N312 := Fr.app N73 Nq312
        refine oS (fun t k => st312 t k) ?_
        show oG _ _ _ _ _ _ _ (T312.setTop (mkF m 237 #[.val (.int p1), .val (.int p2), .val (.int p3), .val (.int 3), .val (.int 2), .val (.int 1), .val (.ref b1), .val (.int (-1)), .val .null, .unset] [(.ref (w 5))]))
        try clear st312 X73 e73
        try clear T73
        refine oS (fun t k => XS.iload X312.here hx rfl (hb hby at_237) rfl k) ?_
        obtain ⟨_, _, ⟨T313, L313, k313, n313⟩, -, X313, ⟨Lc313, hQ313, l313, y313, z313⟩, st313⟩ := Jvm.LawKit.callS X312 hx (y := mY2) hown (mvT hZ (oW hw 9 rfl)) (mvT hZ (oW hw 10 rfl)) (mvT hZ (oW hw 4 rfl)) (mvT hZ (oW hw 11 rfl)) (by decide) (backOf (W := 1) (rm_vt_2 l Z a0 hw []  w h73 n0 O73 W ) hZ (oW hw 11 rfl) (oW hw 4 rfl) (by decide) (by decide)) (g := (mkF m 239 #[.val (.int p1), .val (.int p2), .val (.int p3), .val (.int 3), .val (.int 2), .val (.int 1), .val (.ref b1), .val (.int (-1)), .val .null, .unset] [(.int 2), (.ref (w 5))])) rfl (by rw [hml]; rfl) (argsL := [(.int 2)]) (rest := [(.ref (w 5))]) (lenOf pd_4 rfl) rfl (by show 2 * 0 + _ ≤ _; exact Nat.le_of_eq rfl) (hb hby at_239) (fun _ _ => ⟨rfl, e312, (by decide : 1 + 0 ≤ _), (by decide : 36 + 0 ≤ _)⟩)
        dsimp only [Pt.U, Pt.locs, Pt.cells, Pt.slots] at X313 l313 y313 z313 st313 hQ313
        rw [l313, y313, z313] at X313
        clear l313 y313 z313
        obtain ⟨rfl, Nq313, e313⟩ := hQ313
        have N313 := Fr.app N312 Nq313
        refine oS (fun t k => st313 t k) ?_
        show oG _ _ _ _ _ _ _ (T313.setTop (mkF m 242 #[.val (.int p1), .val (.int p2), .val (.int p3), .val (.int 3), .val (.int 2), .val (.int 1), .val (.ref b1), .val (.int (-1)), .val .null, .unset] [(.ref (w 2)), (.ref (w 5))]))
        try clear st313 X312 e312
        refine oS (fun t k => XS.iload X313.here hx rfl (hb hby at_242) rfl k) ?_
        obtain ⟨_, _, ⟨T314, L314, k314, n314⟩, -, X314, ⟨Lc314, hQ314, l314, y314, z314⟩, st314⟩ := Jvm.LawKit.callS X313 hx (y := mY2) hown (mvT hZ (oW hw 9 rfl)) (mvT hZ (oW hw 10 rfl)) (mvT hZ (oW hw 4 rfl)) (mvT hZ (oW hw 11 rfl)) (by decide) (backOf (W := 2) (rm_vt_1 l Z a0 hw []  w h73 n0 O73 W ) hZ (oW hw 11 rfl) (oW hw 4 rfl) (by decide) (by decide)) (g := (mkF m 244 #[.val (.int p1), .val (.int p2), .val (.int p3), .val (.int 3), .val (.int 2), .val (.int 1), .val (.ref b1), .val (.int (-1)), .val .null, .unset] [(.int 1), (.ref (w 2)), (.ref (w 5))])) rfl (by rw [hml]; rfl) (argsL := [(.int 1)]) (rest := [(.ref (w 2)), (.ref (w 5))]) (lenOf pd_4 rfl) rfl (by show 2 * 0 + _ ≤ _; exact Nat.le_of_eq rfl) (hb hby at_244) (fun _ _ => ⟨rfl, e313, (by decide : 1 + 0 ≤ _), (by decide : 36 + 0 ≤ _)⟩)
        dsimp only [Pt.U, Pt.locs, Pt.cells, Pt.slots] at X314 l314 y314 z314 st314 hQ314
        rw [l314, y314, z314] at X314
        clear l314 y314 z314
        obtain ⟨rfl, Nq314, e314⟩ := hQ314
        have N314 := Fr.app N313 Nq314
        refine oS (fun t k => st314 t k) ?_
        show oG _ _ _ _ _ _ _ (T314.setTop (mkF m 247 #[.val (.int p1), .val (.int p2), .val (.int p3), .val (.int 3), .val (.int 2), .val (.int 1), .val (.ref b1), .val (.int (-1)), .val .null, .unset] [(.ref (w 3)), (.ref (w 2)), (.ref (w 5))]))
        try clear st314 X313 e313
        obtain ⟨cq315, kq315, q315a, q315b, q315c⟩ := isOf hZ e314 ((wE5 W).ext O73.2)
        obtain ⟨_, _, ⟨T315, L315, k315, n315⟩, -, X315, ⟨Lc315, hQ315, l315, y315, z315⟩, st315⟩ := X314.virtualBack hx (y := mY8) (z := mY8) hown (mvT hZ (oW hw 17 rfl)) (mvT hZ (oW hw 18 rfl)) (notFace_of_selects (args := #[]) (mvT hZ (oW hw 20 rfl))) (mvT hZ (oW hw 20 rfl)) (mvT hZ (oW hw 19 rfl)) (by decide) (backOf (W := 0) (rm_ty_321 l Z a0 hw []  w h73 n0 O73 W ) hZ (oW hw 21 rfl) (oW hw 7 rfl) (by decide) (by decide)) q315a q315c (g := (mkF m 247 #[.val (.int p1), .val (.int p2), .val (.int p3), .val (.int 3), .val (.int 2), .val (.int 1), .val (.ref b1), .val (.int (-1)), .val .null, .unset] [(.ref (w 3)), (.ref (w 2)), (.ref (w 5))])) rfl (by rw [hml]; rfl) (Steps.refl _) (argsL := [(.ref (w 2)), (.ref (w 3))]) (rest := []) (lenOf pd_6 rfl) rfl (by show 2 * 0 + _ ≤ _; exact Nat.le_of_eq rfl) (hb hby at_247) (fun _ _ => ⟨rfl, e314, (by decide : 1 + 0 ≤ _), (by decide : 36 + 0 ≤ _)⟩)
        dsimp only [Pt.U, Pt.locs, Pt.cells, Pt.slots] at X315 l315 y315 z315 st315 hQ315
        rw [l315, y315, z315] at X315
        clear l315 y315 z315
        obtain ⟨rfl, Nq315, e315⟩ := hQ315
        have N315 := Fr.app N314 Nq315
        refine oS (fun t k => st315.trans k) ?_
        show oG _ _ _ _ _ _ _ (T315.setTop (mkF m 250 #[.val (.int p1), .val (.int p2), .val (.int p3), .val (.int 3), .val (.int 2), .val (.int 1), .val (.ref b1), .val (.int (-1)), .val .null, .unset] [(.ref (w 7))]))
        try clear st315 X314 e314
        refine oS (fun t k => XS.aconstNull X315.here hx rfl (hb hby at_250) k) ?_
        obtain ⟨cq316, kq316, q316a, q316b, q316c⟩ := isOf hZ e315 ((wE7 W).ext O73.2)
        obtain ⟨_, _, ⟨T316, L316, k316, n316⟩, -, X316, ⟨Lc316, hQ316, l316, y316, z316⟩, st316⟩ := X315.virtualBack hx (y := mY7) (z := mY7) hown (mvT hZ (oW hw 39 rfl)) (mvT hZ (oW hw 40 rfl)) (notFace_of_selects (args := #[]) (mvT hZ (oW hw 42 rfl))) (mvT hZ (oW hw 42 rfl)) (mvT hZ (oW hw 41 rfl)) (by decide) (backOf (W := 0) (rm_oe0 l Z a0 hw [] (w 7)  h73 n0 O73  ((wF7_value W).ext O73.2)) hZ (oW hw 43 rfl) (oW hw 36 rfl) (by decide) (by decide)) q316a q316c (g := (mkF m 251 #[.val (.int p1), .val (.int p2), .val (.int p3), .val (.int 3), .val (.int 2), .val (.int 1), .val (.ref b1), .val (.int (-1)), .val .null, .unset] [.null, (.ref (w 7))])) rfl (by rw [hml]; rfl) (Steps.refl _) (argsL := [.null]) (rest := []) (lenOf pd_0 rfl) rfl (by show 2 * 0 + _ ≤ _; exact Nat.le_of_eq rfl) (hb hby at_251) (fun _ _ => ⟨rfl, e315, (by decide : 1 + 0 ≤ _), (by decide : 36 + 0 ≤ _)⟩)
        dsimp only [Pt.U, Pt.locs, Pt.cells, Pt.slots] at X316 l316 y316 z316 st316 hQ316
        rw [l316, y316, z316] at X316
        clear l316 y316 z316
        obtain ⟨rfl, Nq316, e316⟩ := hQ316
        have N316 := Fr.app N315 Nq316
        refine oS (fun t k => st316.trans k) ?_
        show oG _ _ _ _ _ _ _ (T316.setTop (mkF m 254 #[.val (.int p1), .val (.int p2), .val (.int p3), .val (.int 3), .val (.int 2), .val (.int 1), .val (.ref b1), .val (.int (-1)), .val .null, .unset] [.null]))
        try clear st316 X315 e315
        refine oS (fun t k => X316.checkcastNull hx (g := (mkF m 254 #[.val (.int p1), .val (.int p2), .val (.int p3), .val (.int 3), .val (.int 2), .val (.int 1), .val (.ref b1), .val (.int (-1)), .val .null, .unset] [.null])) rfl rfl (hb hby at_254) t k) ?_
        refine oS (fun t k => XS.astore X316.here hx rfl (hb hby at_257) rfl rfl (l' := #[.val (.int p1), .val (.int p2), .val (.int p3), .val (.int 3), .val (.int 2), .val (.int 1), .val (.ref b1), .val (.int (-1)), .val .null, .val .null]) rfl k) ?_
        refine oS (fun t k => XS.aload X316.here hx rfl (hb hby at_259) rfl rfl k) ?_
        refine oS (fun t k => XS.aload X316.here hx rfl (hb hby at_261) rfl rfl k) ?_
        refine oS (fun t k => Jvm.RoadKit.acmp (g := (mkF m 263 #[.val (.int p1), .val (.int p2), .val (.int p3), .val (.int 3), .val (.int 2), .val (.int 1), .val (.ref b1), .val (.int (-1)), .val .null, .val .null] [.null, .null])) X316 hx rfl rfl rfl (pc0 := 263) (pc' := 266) (same := true) rfl (hb hby at_263) rfl (decide_eq_true rfl) (by decide) (by decide) k) ?_
        show oG _ _ _ _ _ _ _ (T316.setTop (mkF m 266 #[.val (.int p1), .val (.int p2), .val (.int p3), .val (.int 3), .val (.int 2), .val (.int 1), .val (.ref b1), .val (.int (-1)), .val .null, .val .null] []))
        refine oS (fun t k => oIc li_1 X316.here hx rfl (hb hby at_266) k) ?_
        refine oS (fun t k => XS.goto X316.here hx rfl (pc0 := 267) (pc' := 271) rfl (hb hby at_267) (by decide) (by decide) k) ?_
        exact own_ret (v := some (.int 1)) X316 (fun h => by rw [Bd.returns] at h; cases h) Bd.notSynchronized (fun fs hr => retN X316 hx (t := .boolean) Bd.returns (by simp) (hb hby at_271) hr) (by rw [e316]; exact ⟨rfl, N316⟩) (by decide) (by decide)
      · rw [hs304]
        show oG _ _ _ _ _ _ _ (T73.setTop (mkF m 200 #[.val (.int p1), .val (.int p2), .val (.int p3), .val (.int 3), .val (.int 2), .val (.int 2), .val (.ref b1), .unset, .unset, .unset] []))
        refine oS (fun t k => XS.aload X73.here hx rfl (hb hby at_200) rfl rfl k) ?_
        refine oS (fun t k => XS.iloadN X73.here hx rfl (hb hby at_202) rfl k) ?_
        show oG _ _ _ _ _ _ _ (T73.setTop (mkF m 203 #[.val (.int p1), .val (.int p2), .val (.int p3), .val (.int 3), .val (.int 2), .val (.int 2), .val (.ref b1), .unset, .unset, .unset] [(.int 3), (.ref b1)]))
        refine oS (fun t k => oBp lb_9 X73.here hx rfl (hb hby at_203) k) ?_
        refine oS (S' := (T73.setTop (mkF m 206 #[.val (.int p1), .val (.int p2), .val (.int p3), .val (.int 3), .val (.int 2), .val (.int 2), .val (.ref b1), .unset, .unset, .unset] [(.int 27), (.ref b1)]))) (fun t k => XS.imul X73.here hx rfl (hb hby at_205) rfl (by rw [show (3 : Int32) * (9 : Int32) = (27 : Int32) from by decide]; exact k)) ?_
        refine oS (fun t k => XS.iload X73.here hx rfl (hb hby at_206) rfl k) ?_
        refine oS (fun t k => oIc li_3 X73.here hx rfl (hb hby at_208) k) ?_
        refine oS (S' := (T73.setTop (mkF m 210 #[.val (.int p1), .val (.int p2), .val (.int p3), .val (.int 3), .val (.int 2), .val (.int 2), .val (.ref b1), .unset, .unset, .unset] [(.int 6), (.int 27), (.ref b1)]))) (fun t k => XS.imul X73.here hx rfl (hb hby at_209) rfl (by rw [show (2 : Int32) * (3 : Int32) = (6 : Int32) from by decide]; exact k)) ?_
        refine oS (S' := (T73.setTop (mkF m 211 #[.val (.int p1), .val (.int p2), .val (.int p3), .val (.int 3), .val (.int 2), .val (.int 2), .val (.ref b1), .unset, .unset, .unset] [(.int 33), (.ref b1)]))) (fun t k => XS.iadd X73.here hx rfl (hb hby at_210) rfl (by rw [show (27 : Int32) + (6 : Int32) = (33 : Int32) from by decide]; exact k)) ?_
        refine oS (fun t k => XS.iload X73.here hx rfl (hb hby at_211) rfl k) ?_
        refine oS (S' := (T73.setTop (mkF m 214 #[.val (.int p1), .val (.int p2), .val (.int p3), .val (.int 3), .val (.int 2), .val (.int 2), .val (.ref b1), .unset, .unset, .unset] [(.int 35), (.ref b1)]))) (fun t k => XS.iadd X73.here hx rfl (hb hby at_213) rfl (by rw [show (33 : Int32) + (2 : Int32) = (35 : Int32) from by decide]; exact k)) ?_
        obtain ⟨cl317, Ar317, qk317, Sz317, Ng317, Ha317, Gf317⟩ := id V73
        have hin317 : ¬ ((35 : Int32) < 0 ∨ cl317.slots.size ≤ ((35 : Int32)).toNatClampNeg) := (inb_of Sz317 ⟨by decide, by decide⟩)
        have hat317 : cl317.slots[((35 : Int32)).toNatClampNeg]? = some (.int (-1)) := Ha317.at hin317 rfl
        refine oS (fun t k => X73.iaload hx (j := (35 : Int32)) (v := (.int (-1))) (by rw [e73]; exact Ar317.1) (State.isArrayOf_alike hZ.alike Ar317.2.1) Ar317.2.2 hin317 hat317 (g := (mkF m 214 #[.val (.int p1), .val (.int p2), .val (.int p3), .val (.int 3), .val (.int 2), .val (.int 2), .val (.ref b1), .unset, .unset, .unset] [(.int 35), (.ref b1)])) rfl rfl (hb hby at_214) t k) ?_
        refine oS (fun t k => XS.istore X73.here hx rfl (hb hby at_215) rfl (l' := #[.val (.int p1), .val (.int p2), .val (.int p3), .val (.int 3), .val (.int 2), .val (.int 2), .val (.ref b1), .val (.int (-1)), .unset, .unset]) rfl k) ?_
        show oG _ _ _ _ _ _ _ (T73.setTop (mkF m 217 #[.val (.int p1), .val (.int p2), .val (.int p3), .val (.int 3), .val (.int 2), .val (.int 2), .val (.ref b1), .val (.int (-1)), .unset, .unset] []))
        refine oS (fun t k => XS.iload X73.here hx rfl (hb hby at_217) rfl k) ?_
        refine oS (fun t k => XS.ifNo X73.here hx rfl (hb hby at_219) rfl ((if0 _ _).trans (tlt (by decide)).2.1) k) ?_
        refine oS (fun t k => XS.aconstNull X73.here hx rfl (hb hby at_222) k) ?_
        refine oS (fun t k => XS.goto X73.here hx rfl (pc0 := 223) (pc' := 231) rfl (hb hby at_223) (by decide) (by decide) k) ?_
        refine oS (fun t k => XS.astore X73.here hx rfl (hb hby at_231) rfl rfl (l' := #[.val (.int p1), .val (.int p2), .val (.int p3), .val (.int 3), .val (.int 2), .val (.int 2), .val (.ref b1), .val (.int (-1)), .val .null, .unset]) rfl k) ?_
        show oG _ _ _ _ _ _ _ (T73.setTop (mkF m 233 #[.val (.int p1), .val (.int p2), .val (.int p3), .val (.int 3), .val (.int 2), .val (.int 2), .val (.ref b1), .val (.int (-1)), .val .null, .unset] []))
        refine oS (fun t k => XS.iloadN X73.here hx rfl (hb hby at_233) rfl k) ?_
        obtain ⟨_, _, ⟨T318, L318, k318, n318⟩, -, X318, ⟨Lc318, hQ318, l318, y318, z318⟩, st318⟩ := Jvm.LawKit.callS X73 hx (y := mY0) hown (mvT hZ (oW hw 2 rfl)) (mvT hZ (oW hw 3 rfl)) (mvT hZ (oW hw 4 rfl)) (mvT hZ (oW hw 5 rfl)) (by decide) (backOf (W := 0) (rm_op_3 l Z a0 hw []  w h73 n0 O73 W ) hZ (oW hw 5 rfl) (oW hw 4 rfl) (by decide) (by decide)) (g := (mkF m 234 #[.val (.int p1), .val (.int p2), .val (.int p3), .val (.int 3), .val (.int 2), .val (.int 2), .val (.ref b1), .val (.int (-1)), .val .null, .unset] [(.int 3)])) rfl (by rw [hml]; rfl) (argsL := [(.int 3)]) (rest := []) (lenOf pd_5 rfl) rfl (by show 2 * 0 + _ ≤ _; exact Nat.le_of_eq rfl) (hb hby at_234) (fun _ _ => ⟨rfl, e73, (by decide : 1 + 0 ≤ _), (by decide : 36 + 0 ≤ _)⟩)
        dsimp only [Pt.U, Pt.locs, Pt.cells, Pt.slots] at X318 l318 y318 z318 st318 hQ318
        rw [l318, y318, z318] at X318
        clear l318 y318 z318
        obtain ⟨rfl, Nq318, e318⟩ := hQ318
        have N318 := Fr.app N73 Nq318
        refine oS (fun t k => st318 t k) ?_
        show oG _ _ _ _ _ _ _ (T318.setTop (mkF m 237 #[.val (.int p1), .val (.int p2), .val (.int p3), .val (.int 3), .val (.int 2), .val (.int 2), .val (.ref b1), .val (.int (-1)), .val .null, .unset] [(.ref (w 5))]))
        try clear st318 X73 e73
        try clear T73
        refine oS (fun t k => XS.iload X318.here hx rfl (hb hby at_237) rfl k) ?_
        obtain ⟨_, _, ⟨T319, L319, k319, n319⟩, -, X319, ⟨Lc319, hQ319, l319, y319, z319⟩, st319⟩ := Jvm.LawKit.callS X318 hx (y := mY2) hown (mvT hZ (oW hw 9 rfl)) (mvT hZ (oW hw 10 rfl)) (mvT hZ (oW hw 4 rfl)) (mvT hZ (oW hw 11 rfl)) (by decide) (backOf (W := 1) (rm_vt_2 l Z a0 hw []  w h73 n0 O73 W ) hZ (oW hw 11 rfl) (oW hw 4 rfl) (by decide) (by decide)) (g := (mkF m 239 #[.val (.int p1), .val (.int p2), .val (.int p3), .val (.int 3), .val (.int 2), .val (.int 2), .val (.ref b1), .val (.int (-1)), .val .null, .unset] [(.int 2), (.ref (w 5))])) rfl (by rw [hml]; rfl) (argsL := [(.int 2)]) (rest := [(.ref (w 5))]) (lenOf pd_4 rfl) rfl (by show 2 * 0 + _ ≤ _; exact Nat.le_of_eq rfl) (hb hby at_239) (fun _ _ => ⟨rfl, e318, (by decide : 1 + 0 ≤ _), (by decide : 36 + 0 ≤ _)⟩)
        dsimp only [Pt.U, Pt.locs, Pt.cells, Pt.slots] at X319 l319 y319 z319 st319 hQ319
        rw [l319, y319, z319] at X319
        clear l319 y319 z319
        obtain ⟨rfl, Nq319, e319⟩ := hQ319
        have N319 := Fr.app N318 Nq319
        refine oS (fun t k => st319 t k) ?_
        show oG _ _ _ _ _ _ _ (T319.setTop (mkF m 242 #[.val (.int p1), .val (.int p2), .val (.int p3), .val (.int 3), .val (.int 2), .val (.int 2), .val (.ref b1), .val (.int (-1)), .val .null, .unset] [(.ref (w 2)), (.ref (w 5))]))
        try clear st319 X318 e318
        refine oS (fun t k => XS.iload X319.here hx rfl (hb hby at_242) rfl k) ?_
        obtain ⟨_, _, ⟨T320, L320, k320, n320⟩, -, X320, ⟨Lc320, hQ320, l320, y320, z320⟩, st320⟩ := Jvm.LawKit.callS X319 hx (y := mY2) hown (mvT hZ (oW hw 9 rfl)) (mvT hZ (oW hw 10 rfl)) (mvT hZ (oW hw 4 rfl)) (mvT hZ (oW hw 11 rfl)) (by decide) (backOf (W := 2) (rm_vt_2 l Z a0 hw []  w h73 n0 O73 W ) hZ (oW hw 11 rfl) (oW hw 4 rfl) (by decide) (by decide)) (g := (mkF m 244 #[.val (.int p1), .val (.int p2), .val (.int p3), .val (.int 3), .val (.int 2), .val (.int 2), .val (.ref b1), .val (.int (-1)), .val .null, .unset] [(.int 2), (.ref (w 2)), (.ref (w 5))])) rfl (by rw [hml]; rfl) (argsL := [(.int 2)]) (rest := [(.ref (w 2)), (.ref (w 5))]) (lenOf pd_4 rfl) rfl (by show 2 * 0 + _ ≤ _; exact Nat.le_of_eq rfl) (hb hby at_244) (fun _ _ => ⟨rfl, e319, (by decide : 1 + 0 ≤ _), (by decide : 36 + 0 ≤ _)⟩)
        dsimp only [Pt.U, Pt.locs, Pt.cells, Pt.slots] at X320 l320 y320 z320 st320 hQ320
        rw [l320, y320, z320] at X320
        clear l320 y320 z320
        obtain ⟨rfl, Nq320, e320⟩ := hQ320
        have N320 := Fr.app N319 Nq320
        refine oS (fun t k => st320 t k) ?_
        show oG _ _ _ _ _ _ _ (T320.setTop (mkF m 247 #[.val (.int p1), .val (.int p2), .val (.int p3), .val (.int 3), .val (.int 2), .val (.int 2), .val (.ref b1), .val (.int (-1)), .val .null, .unset] [(.ref (w 2)), (.ref (w 2)), (.ref (w 5))]))
        try clear st320 X319 e319
        obtain ⟨cq321, kq321, q321a, q321b, q321c⟩ := isOf hZ e320 ((wE5 W).ext O73.2)
        obtain ⟨_, _, ⟨T321, L321, k321, n321⟩, -, X321, ⟨Lc321, hQ321, l321, y321, z321⟩, st321⟩ := X320.virtualBack hx (y := mY8) (z := mY8) hown (mvT hZ (oW hw 17 rfl)) (mvT hZ (oW hw 18 rfl)) (notFace_of_selects (args := #[]) (mvT hZ (oW hw 20 rfl))) (mvT hZ (oW hw 20 rfl)) (mvT hZ (oW hw 19 rfl)) (by decide) (backOf (W := 0) (rm_ty_322 l Z a0 hw []  w h73 n0 O73 W ) hZ (oW hw 21 rfl) (oW hw 7 rfl) (by decide) (by decide)) q321a q321c (g := (mkF m 247 #[.val (.int p1), .val (.int p2), .val (.int p3), .val (.int 3), .val (.int 2), .val (.int 2), .val (.ref b1), .val (.int (-1)), .val .null, .unset] [(.ref (w 2)), (.ref (w 2)), (.ref (w 5))])) rfl (by rw [hml]; rfl) (Steps.refl _) (argsL := [(.ref (w 2)), (.ref (w 2))]) (rest := []) (lenOf pd_6 rfl) rfl (by show 2 * 0 + _ ≤ _; exact Nat.le_of_eq rfl) (hb hby at_247) (fun _ _ => ⟨rfl, e320, (by decide : 1 + 0 ≤ _), (by decide : 36 + 0 ≤ _)⟩)
        dsimp only [Pt.U, Pt.locs, Pt.cells, Pt.slots] at X321 l321 y321 z321 st321 hQ321
        rw [l321, y321, z321] at X321
        clear l321 y321 z321
        obtain ⟨rfl, Nq321, e321⟩ := hQ321
        have N321 := Fr.app N320 Nq321
        refine oS (fun t k => st321.trans k) ?_
        show oG _ _ _ _ _ _ _ (T321.setTop (mkF m 250 #[.val (.int p1), .val (.int p2), .val (.int p3), .val (.int 3), .val (.int 2), .val (.int 2), .val (.ref b1), .val (.int (-1)), .val .null, .unset] [(.ref (w 7))]))
        try clear st321 X320 e320
        refine oS (fun t k => XS.aconstNull X321.here hx rfl (hb hby at_250) k) ?_
        obtain ⟨cq322, kq322, q322a, q322b, q322c⟩ := isOf hZ e321 ((wE7 W).ext O73.2)
        obtain ⟨_, _, ⟨T322, L322, k322, n322⟩, -, X322, ⟨Lc322, hQ322, l322, y322, z322⟩, st322⟩ := X321.virtualBack hx (y := mY7) (z := mY7) hown (mvT hZ (oW hw 39 rfl)) (mvT hZ (oW hw 40 rfl)) (notFace_of_selects (args := #[]) (mvT hZ (oW hw 42 rfl))) (mvT hZ (oW hw 42 rfl)) (mvT hZ (oW hw 41 rfl)) (by decide) (backOf (W := 0) (rm_oe0 l Z a0 hw [] (w 7)  h73 n0 O73  ((wF7_value W).ext O73.2)) hZ (oW hw 43 rfl) (oW hw 36 rfl) (by decide) (by decide)) q322a q322c (g := (mkF m 251 #[.val (.int p1), .val (.int p2), .val (.int p3), .val (.int 3), .val (.int 2), .val (.int 2), .val (.ref b1), .val (.int (-1)), .val .null, .unset] [.null, (.ref (w 7))])) rfl (by rw [hml]; rfl) (Steps.refl _) (argsL := [.null]) (rest := []) (lenOf pd_0 rfl) rfl (by show 2 * 0 + _ ≤ _; exact Nat.le_of_eq rfl) (hb hby at_251) (fun _ _ => ⟨rfl, e321, (by decide : 1 + 0 ≤ _), (by decide : 36 + 0 ≤ _)⟩)
        dsimp only [Pt.U, Pt.locs, Pt.cells, Pt.slots] at X322 l322 y322 z322 st322 hQ322
        rw [l322, y322, z322] at X322
        clear l322 y322 z322
        obtain ⟨rfl, Nq322, e322⟩ := hQ322
        have N322 := Fr.app N321 Nq322
        refine oS (fun t k => st322.trans k) ?_
        show oG _ _ _ _ _ _ _ (T322.setTop (mkF m 254 #[.val (.int p1), .val (.int p2), .val (.int p3), .val (.int 3), .val (.int 2), .val (.int 2), .val (.ref b1), .val (.int (-1)), .val .null, .unset] [.null]))
        try clear st322 X321 e321
        refine oS (fun t k => X322.checkcastNull hx (g := (mkF m 254 #[.val (.int p1), .val (.int p2), .val (.int p3), .val (.int 3), .val (.int 2), .val (.int 2), .val (.ref b1), .val (.int (-1)), .val .null, .unset] [.null])) rfl rfl (hb hby at_254) t k) ?_
        refine oS (fun t k => XS.astore X322.here hx rfl (hb hby at_257) rfl rfl (l' := #[.val (.int p1), .val (.int p2), .val (.int p3), .val (.int 3), .val (.int 2), .val (.int 2), .val (.ref b1), .val (.int (-1)), .val .null, .val .null]) rfl k) ?_
        refine oS (fun t k => XS.aload X322.here hx rfl (hb hby at_259) rfl rfl k) ?_
        refine oS (fun t k => XS.aload X322.here hx rfl (hb hby at_261) rfl rfl k) ?_
        refine oS (fun t k => Jvm.RoadKit.acmp (g := (mkF m 263 #[.val (.int p1), .val (.int p2), .val (.int p3), .val (.int 3), .val (.int 2), .val (.int 2), .val (.ref b1), .val (.int (-1)), .val .null, .val .null] [.null, .null])) X322 hx rfl rfl rfl (pc0 := 263) (pc' := 266) (same := true) rfl (hb hby at_263) rfl (decide_eq_true rfl) (by decide) (by decide) k) ?_
        show oG _ _ _ _ _ _ _ (T322.setTop (mkF m 266 #[.val (.int p1), .val (.int p2), .val (.int p3), .val (.int 3), .val (.int 2), .val (.int 2), .val (.ref b1), .val (.int (-1)), .val .null, .val .null] []))
        refine oS (fun t k => oIc li_1 X322.here hx rfl (hb hby at_266) k) ?_
        refine oS (fun t k => XS.goto X322.here hx rfl (pc0 := 267) (pc' := 271) rfl (hb hby at_267) (by decide) (by decide) k) ?_
        exact own_ret (v := some (.int 1)) X322 (fun h => by rw [Bd.returns] at h; cases h) Bd.notSynchronized (fun fs hr => retN X322 hx (t := .boolean) Bd.returns (by simp) (hb hby at_271) hr) (by rw [e322]; exact ⟨rfl, N322⟩) (by decide) (by decide)
set_option maxRecDepth 65536 in
set_option maxHeartbeats 40000000 in
theorem comes_1 {Post : Tables → Env → Array Value → State → Outcome → State → Prop} (hpost : ∀ tb e args s v u, (limb_1_1.after args s (.returned v) u = true ∧ limb_1_2.after args s (.returned v) u = true ∧ True) → FrameEnd s (.returned v) u (Jvm.fieldLocs frame_1_writes args s ++ Jvm.arrayLocs frame_1_arrays args s ++ Jvm.staticLocs frame_1_statics s) 16 192 → Post tb e args s (.returned v) u) :
    ArmFor flags0 classFile x code maxLocals ret World_1 tables_1 room_1 Calls_1 rest_1 Pre_1 Post := by
  intro l hfl _ _ p e ha hc hk s m args below hf hA hF happ hP
  obtain ⟨hcalls, hrest, hpre⟩ := hP
  obtain ⟨-, -, -, hnamed, -, -, -, hat⟩ := (Spec.applies_iff hf).mp happ
  obtain ⟨hg, hn⟩ := and_e (Cond.before_iff.mp (show (Jvm.Cond.and given_1 narrow_1).before args s = true from hpre))
  obtain ⟨g0, g1⟩ := and_e hg
  obtain ⟨g2, g3⟩ := and_e g1
  obtain ⟨g4, g5⟩ := and_e g3
  obtain ⟨w0, w1, w2, rfl⟩ : ∃ w0 w1 w2 : Value, args = #[w0, w1, w2] := by
    have hs : args.size = 3 := by simpa [Cond.value, given_1] using g0
    obtain ⟨L⟩ := args
    match L, hs with
    | [w0, w1, w2], _ => exact ⟨w0, w1, w2, rfl⟩
  have hw := fun d (hd : d ∈ tables_1) => atoms_spec (ws := Jvm.Cond.code x code maxLocals ret :: tables_1) hat d (List.mem_cons_of_mem _ hd)
  have hfit : Fit s := fun {y c} hc i hi => by
    obtain ⟨ha, rfl⟩ := Array.getElem?_eq_some_iff.mp hc
    have q := List.all_eq_true.mp ((Array.all_eq_true_iff_forall_mem.mp hF) _ (Array.getElem_mem ha)) i (List.mem_range.mpr hi)
    simpa [Array.getElem?_eq_getElem hi] using q
  obtain ⟨i0, ei0⟩ := is_v g2
  obtain rfl : w0 = (.int i0) := Option.some.inj ei0
  obtain ⟨i1, ei1⟩ := is_v g4
  obtain rfl : w1 = (.int i1) := Option.some.inj ei1
  obtain ⟨i2, ei2⟩ := is_v g5
  obtain rfl : w2 = (.int i2) := Option.some.inj ei2
  obtain ⟨hsets, hown0⟩ := atoms_of _ (rest_1_c_eq ▸ (show rest_1_c.before _ s = true from hrest))
  have hr0 := Cond.before_iff.mp hown0
  obtain ⟨w, W⟩ := own_world hw hfit hsets hn
  obtain ⟨n, o, h1, h2, h3, _, L, rfl, ⟨rfl, N⟩, hq⟩ := rm_law l s _ hw tables_1 i0 i1 i2 w s.heap s.heap.size (Old.start s) W  p e ha hc hk s m _ below hf ((Spec.applies_iff_loose hf).mp happ).1 ⟨rfl, State.Warmed39.refl s, rfl⟩ trivial
  refine ⟨n, _, h1, h2, h3, hpost _ _ _ _ _ _ ⟨Cond.after_iff.mpr rfl, Cond.after_iff.mpr (eq_i res_at (Term.int_eval (1)) rfl), trivial⟩ ⟨hq.1, hq.2.1, (hq.2.2.sift fun y hy => Or.inr (N y hy)).mono (by decide) (by decide)⟩⟩
theorem main_1_1 : Claimed_1_1 := comes_1 fun _ _ _ _ _ _ h hF => ⟨h.1, hF⟩
theorem main_1_2 : Claimed_1_2 := comes_1 fun _ _ _ _ _ _ h hF => ⟨h.2.1, hF⟩
end Jvm.Pilot.@@N@@
namespace Jvm.Pilot.@@N@@
open Jvm Jvm.ClassFile Sem Op Lib Jvm.Free Jvm.Stand Jvm.Pilot.@@N@@.Jvm.D
/-! MADE BY PROGRAM (witnessworld.py) out of the Statement's table words and the real class files: 15 classes; the members and pool entries that the words name. The judged class is class 1, her method 3. -/
namespace start1
open Jvm.ClassFile
def u (s : String) : CpInfo := .utf8 (stringToUtf16 s)
/-- a pool by its gaps: so many unusable entries, then the entry; so many at the end -/
def gap : Nat → List CpInfo → List CpInfo
  | 0, r => r
  | n + 1, r => .unusable :: gap n r
def poolList (es : List (Nat × CpInfo)) (last : Nat) : List CpInfo := es.foldr (fun e r => gap e.1 (e.2 :: r)) (gap last [])
def pool (es : List (Nat × CpInfo)) (last : Nat) : Array CpInfo := ⟨poolList es last⟩
def fileOf (pool : Array CpInfo) (this : Nat) (attrs : Array Attribute := #[]) (ms : Array MethodInfo := #[]) (fl : Nat := 33) (sup : Nat := 0) (ifs : Array Nat := #[]) (fds : Array FieldInfo := #[]) : ClassFile where
  minorVersion := 0
  majorVersion := 65
  constantPool := pool
  accessFlags := fl
  thisClass := this
  superClass := sup
  interfaces := ifs
  fields := fds
  methods := ms
  attributes := attrs
def plain (name : String) (sup : Option ClassId) : Class where
  name := name
  kind := .ordinary
  loader := none
  accessFlags := 33
  super := sup
  interfaces := #[]
  cf := none
  fields := #[]
  methods := #[]
  instanceTypes := #[]
  staticTypes := #[]
  resolved := #[]
  callSites := []
  init := .initialized
  statics := none
  mirror := none

def pool0 : Array CpInfo := pool [(5, u "<init>"), (0, u "()V"), (1, .class_ 10), (1, u "java/lang/Object")] 113

def k0c0 : Code := { maxStack := 0, maxLocals := 1, code := object_method_1_code, exceptionTable := #[], attributes := #[] }
def k0m0 : Method := { name := "<init>", desc := "()V", sig := { parameters := [], returnType := none }, accessFlags := 1, code := some k0c0 }
/-- java/lang/Object -/
def k0 : Class := { plain "java/lang/Object" none with
  accessFlags := 33
  interfaces := #[]
  cf := some (fileOf pool0 8 #[] #[{ accessFlags := 1, nameIndex := 5, descriptorIndex := 6, attributes := #[] }] 33 0 #[] #[])
  fields := #[]
  methods := #[k0m0]
  instanceTypes := #[]
  staticTypes := #[]
  resolved := Array.replicate 124 none
  statics := none }

def pool1 : Array CpInfo := pool [(2, .class_ 4), (1, u "java/lang/Object"), (0, u "<init>"), (0, u "()V"), (0, .fieldref 8 9), (0, .class_ 10), (0, .nameAndType 11 12), (0, u "com/example/planwright/planwright/model/Expression$Operator"), (0, u "ADD"), (0, u "Lcom/example/planwright/planwright/model/Expression$Operator;"), (0, .fieldref 8 14), (0, .nameAndType 15 12), (0, u "SUBTRACT"), (0, .fieldref 8 17), (0, .nameAndType 18 12), (0, u "MULTIPLY"), (0, .fieldref 8 20), (0, .nameAndType 21 12), (0, u "DIVIDE"), (0, .fieldref 23 24), (0, .class_ 25), (0, .nameAndType 26 27), (0, u "com/example/planwright/planwright/model/ValueType"), (0, u "NUMBER"), (0, u "Lcom/example/planwright/planwright/model/ValueType;"), (0, .fieldref 23 29), (0, .nameAndType 30 27), (0, u "DATE"), (0, .fieldref 23 32), (0, .nameAndType 33 27), (0, u "FLAG"), (0, .integer 2147483647), (0, .methodref 36 37), (0, .class_ 38), (0, .nameAndType 39 40), (0, u "com/example/planwright/planwright/model/OperatorTypePinLaw"), (0, u "valueType"), (0, u "(I)Lcom/example/planwright/planwright/model/ValueType;"), (0, .methodref 36 42), (0, .nameAndType 43 44), (0, u "operator"), (0, u "(I)Lcom/example/planwright/planwright/model/Expression$Operator;"), (0, .methodref 8 46), (0, .nameAndType 47 48), (0, u "type"), (0, u "(Lcom/example/planwright/planwright/model/ValueType;Lcom/example/planwright/planwright/model/ValueType;)Ljava/util/Optional;"), (0, .methodref 50 51), (0, .class_ 52), (0, .nameAndType 53 54), (0, u "java/util/Optional"), (0, u "orElse"), (0, u "(Ljava/lang/Object;)Ljava/lang/Object;"), (3, u "law"), (0, u "(III)Z")] 8

def k1m0 : Method := { name := "<init>", desc := "()V", sig := { parameters := [], returnType := none }, accessFlags := 2, code := none }
def k1c1 : Code := { maxStack := 2, maxLocals := 1, code := method_2_code, exceptionTable := #[], attributes := #[] }
def k1m1 : Method := { name := "operator", desc := "(I)Lcom/example/planwright/planwright/model/Expression$Operator;", sig := { parameters := [.int], returnType := some (.object "com/example/planwright/planwright/model/Expression$Operator") }, accessFlags := 10, code := some k1c1 }
def k1c2 : Code := { maxStack := 2, maxLocals := 1, code := method_3_code, exceptionTable := #[], attributes := #[] }
def k1m2 : Method := { name := "valueType", desc := "(I)Lcom/example/planwright/planwright/model/ValueType;", sig := { parameters := [.int], returnType := some (.object "com/example/planwright/planwright/model/ValueType") }, accessFlags := 10, code := some k1c2 }
def k1c3 : Code := { maxStack := 4, maxLocals := 10, code := code, exceptionTable := #[], attributes := #[] }
def k1m3 : Method := { name := "law", desc := "(III)Z", sig := { parameters := [.int, .int, .int], returnType := some .boolean }, accessFlags := 9, code := some k1c3 }
/-- com/example/planwright/planwright/model/OperatorTypePinLaw -/
def k1 : Class := { plain "com/example/planwright/planwright/model/OperatorTypePinLaw" (some 0) with
  accessFlags := 49
  interfaces := #[]
  cf := some (fileOf pool1 36 #[] #[{ accessFlags := 2, nameIndex := 5, descriptorIndex := 6, attributes := #[] }, { accessFlags := 10, nameIndex := 43, descriptorIndex := 44, attributes := #[] }, { accessFlags := 10, nameIndex := 39, descriptorIndex := 40, attributes := #[] }, { accessFlags := 9, nameIndex := 58, descriptorIndex := 59, attributes := #[] }] 49 2 #[] #[])
  fields := #[]
  methods := #[k1m0, k1m1, k1m2, k1m3]
  instanceTypes := #[]
  staticTypes := #[]
  resolved := Array.replicate 68 none
  statics := none }

def pool2 : Array CpInfo := pool [(1, .class_ 2), (0, u "java/lang/constant/Constable"), (0, .class_ 4), (0, u "java/lang/Object")] 6

/-- java/lang/constant/Constable -/
def k2 : Class := { plain "java/lang/constant/Constable" (some 0) with
  accessFlags := 1537
  interfaces := #[]
  cf := some (fileOf pool2 1 #[] #[] 1537 3 #[] #[])
  fields := #[]
  methods := #[]
  instanceTypes := #[]
  staticTypes := #[]
  resolved := Array.replicate 11 none
  statics := none }

def pool3 : Array CpInfo := pool [(1, .class_ 2), (0, u "java/lang/Comparable"), (0, .class_ 4), (0, u "java/lang/Object")] 7

/-- java/lang/Comparable -/
def k3 : Class := { plain "java/lang/Comparable" (some 0) with
  accessFlags := 1537
  interfaces := #[]
  cf := some (fileOf pool3 1 #[] #[] 1537 3 #[] #[])
  fields := #[]
  methods := #[]
  instanceTypes := #[]
  staticTypes := #[]
  resolved := Array.replicate 12 none
  statics := none }

def pool4 : Array CpInfo := pool [(1, .class_ 2), (0, u "java/io/Serializable"), (0, .class_ 4), (0, u "java/lang/Object")] 2

/-- java/io/Serializable -/
def k4 : Class := { plain "java/io/Serializable" (some 0) with
  accessFlags := 1537
  interfaces := #[]
  cf := some (fileOf pool4 1 #[] #[] 1537 3 #[] #[])
  fields := #[]
  methods := #[]
  instanceTypes := #[]
  staticTypes := #[]
  resolved := Array.replicate 7 none
  statics := none }

def pool5 : Array CpInfo := pool [(2, .class_ 4), (1, u "java/lang/Enum"), (0, u "name"), (0, u "Ljava/lang/String;"), (0, .fieldref 2 8), (0, .nameAndType 9 10), (0, u "ordinal"), (0, u "I"), (1, .class_ 14), (1, u "java/lang/Object"), (4, u "hash"), (86, .class_ 108), (1, u "java/lang/Enum$EnumDesc"), (2, .class_ 112), (0, u "java/lang/constant/Constable"), (0, .class_ 114), (0, u "java/lang/Comparable"), (0, .class_ 116), (0, u "java/io/Serializable"), (9, u "()I")] 77

def k5c0 : Code := { maxStack := 1, maxLocals := 1, code := jdk_37_method_2_code, exceptionTable := #[], attributes := #[] }
def k5m0 : Method := { name := "ordinal", desc := "()I", sig := { parameters := [], returnType := some .int }, accessFlags := 17, code := some k5c0 }
/-- java/lang/Enum -/
def k5 : Class := { plain "java/lang/Enum" (some 0) with
  accessFlags := 1057
  interfaces := #[2, 3, 4]
  cf := some (fileOf pool5 2 #[.nestMembers #[106]] #[{ accessFlags := 17, nameIndex := 9, descriptorIndex := 126, attributes := #[] }] 1057 12 #[111, 113, 115] #[{ accessFlags := 18, nameIndex := 5, descriptorIndex := 6, attributes := #[] }, { accessFlags := 18, nameIndex := 9, descriptorIndex := 10, attributes := #[] }, { accessFlags := 2, nameIndex := 19, descriptorIndex := 10, attributes := #[] }])
  fields := #[{ name := "name", type := (.object "java/lang/String"), accessFlags := 18, slot := 0, constantValue := 0 }, { name := "ordinal", type := .int, accessFlags := 18, slot := 1, constantValue := 0 }, { name := "hash", type := .int, accessFlags := 2, slot := 2, constantValue := 0 }]
  methods := #[k5m0]
  instanceTypes := #[(.object "java/lang/String"), .int, .int]
  staticTypes := #[]
  resolved := Array.replicate 204 none
  statics := none }

def pool6 : Array CpInfo := pool [(1, .class_ 2), (0, u "com/example/planwright/planwright/model/Expression$Operator"), (2, u "ADD"), (0, u "Lcom/example/planwright/planwright/model/Expression$Operator;"), (2, u "SUBTRACT"), (2, u "MULTIPLY"), (2, u "DIVIDE"), (2, u "$VALUES"), (0, u "[Lcom/example/planwright/planwright/model/Expression$Operator;"), (6, .class_ 28), (1, u "java/lang/Enum"), (8, u "symbol"), (0, u "C"), (2, u "rule"), (0, u "Ljava/util/function/BinaryOperator;"), (8, .fieldref 52 53), (0, .class_ 54), (0, .nameAndType 55 56), (0, u "com/example/planwright/planwright/model/ValueType"), (0, u "NUMBER"), (0, u "Lcom/example/planwright/planwright/model/ValueType;"), (0, .fieldref 52 58), (0, .nameAndType 59 56), (0, u "DATE"), (0, .methodref 61 62), (0, .class_ 63), (0, .nameAndType 64 65), (0, u "java/util/Optional"), (0, u "of"), (0, u "(Ljava/lang/Object;)Ljava/util/Optional;"), (0, .methodref 1 67), (0, .nameAndType 68 69), (0, u "ordinal"), (0, u "()I"), (5, .methodref 61 76), (0, .nameAndType 77 65), (0, u "ofNullable"), (27, u "type"), (0, u "(Lcom/example/planwright/planwright/model/ValueType;Lcom/example/planwright/planwright/model/ValueType;)Ljava/util/Optional;"), (8, .class_ 116), (0, u "com/example/planwright/planwright/model/Expression")] 34

def k6c0 : Code := { maxStack := 4, maxLocals := 5, code := prog_45_method_6_code, exceptionTable := #[], attributes := #[] }
def k6m0 : Method := { name := "type", desc := "(Lcom/example/planwright/planwright/model/ValueType;Lcom/example/planwright/planwright/model/ValueType;)Ljava/util/Optional;", sig := { parameters := [(.object "com/example/planwright/planwright/model/ValueType"), (.object "com/example/planwright/planwright/model/ValueType")], returnType := some (.object "java/util/Optional") }, accessFlags := 0, code := some k6c0 }
/-- com/example/planwright/planwright/model/Expression$Operator -/
def k6 : Class := { plain "com/example/planwright/planwright/model/Expression$Operator" (some 5) with
  accessFlags := 16433
  interfaces := #[]
  cf := some (fileOf pool6 1 #[.nestHost 115] #[{ accessFlags := 0, nameIndex := 105, descriptorIndex := 106, attributes := #[] }] 16433 26 #[] #[{ accessFlags := 16409, nameIndex := 5, descriptorIndex := 6, attributes := #[] }, { accessFlags := 16409, nameIndex := 9, descriptorIndex := 6, attributes := #[] }, { accessFlags := 16409, nameIndex := 12, descriptorIndex := 6, attributes := #[] }, { accessFlags := 16409, nameIndex := 15, descriptorIndex := 6, attributes := #[] }, { accessFlags := 18, nameIndex := 37, descriptorIndex := 38, attributes := #[] }, { accessFlags := 18, nameIndex := 41, descriptorIndex := 42, attributes := #[] }, { accessFlags := 4122, nameIndex := 18, descriptorIndex := 19, attributes := #[] }])
  fields := #[{ name := "ADD", type := (.object "com/example/planwright/planwright/model/Expression$Operator"), accessFlags := 16409, slot := 0, constantValue := 0 }, { name := "SUBTRACT", type := (.object "com/example/planwright/planwright/model/Expression$Operator"), accessFlags := 16409, slot := 1, constantValue := 0 }, { name := "MULTIPLY", type := (.object "com/example/planwright/planwright/model/Expression$Operator"), accessFlags := 16409, slot := 2, constantValue := 0 }, { name := "DIVIDE", type := (.object "com/example/planwright/planwright/model/Expression$Operator"), accessFlags := 16409, slot := 3, constantValue := 0 }, { name := "symbol", type := .char, accessFlags := 18, slot := 3, constantValue := 0 }, { name := "rule", type := (.object "java/util/function/BinaryOperator"), accessFlags := 18, slot := 4, constantValue := 0 }, { name := "$VALUES", type := (.array (.object "com/example/planwright/planwright/model/Expression$Operator")), accessFlags := 4122, slot := 4, constantValue := 0 }]
  methods := #[k6m0]
  instanceTypes := #[(.object "java/lang/String"), .int, .int, .char, (.object "java/util/function/BinaryOperator")]
  staticTypes := #[(.object "com/example/planwright/planwright/model/Expression$Operator"), (.object "com/example/planwright/planwright/model/Expression$Operator"), (.object "com/example/planwright/planwright/model/Expression$Operator"), (.object "com/example/planwright/planwright/model/Expression$Operator"), (.array (.object "com/example/planwright/planwright/model/Expression$Operator"))]
  resolved := Array.replicate 151 none
  statics := some 0 }

def pool7 : Array CpInfo := pool [(1, .class_ 2), (0, u "com/example/planwright/planwright/model/ValueType"), (2, u "NUMBER"), (0, u "Lcom/example/planwright/planwright/model/ValueType;"), (2, u "DATE"), (2, u "FLAG"), (2, u "$VALUES"), (0, u "[Lcom/example/planwright/planwright/model/ValueType;"), (6, .class_ 25), (1, u "java/lang/Enum"), (8, u "one"), (0, u "Ljava/lang/String;"), (2, u "many")] 35

/-- com/example/planwright/planwright/model/ValueType -/
def k7 : Class := { plain "com/example/planwright/planwright/model/ValueType" (some 5) with
  accessFlags := 16433
  interfaces := #[]
  cf := some (fileOf pool7 1 #[] #[] 16433 23 #[] #[{ accessFlags := 16409, nameIndex := 5, descriptorIndex := 6, attributes := #[] }, { accessFlags := 16409, nameIndex := 9, descriptorIndex := 6, attributes := #[] }, { accessFlags := 16409, nameIndex := 12, descriptorIndex := 6, attributes := #[] }, { accessFlags := 18, nameIndex := 34, descriptorIndex := 35, attributes := #[] }, { accessFlags := 18, nameIndex := 38, descriptorIndex := 35, attributes := #[] }, { accessFlags := 4122, nameIndex := 15, descriptorIndex := 16, attributes := #[] }])
  fields := #[{ name := "NUMBER", type := (.object "com/example/planwright/planwright/model/ValueType"), accessFlags := 16409, slot := 0, constantValue := 0 }, { name := "DATE", type := (.object "com/example/planwright/planwright/model/ValueType"), accessFlags := 16409, slot := 1, constantValue := 0 }, { name := "FLAG", type := (.object "com/example/planwright/planwright/model/ValueType"), accessFlags := 16409, slot := 2, constantValue := 0 }, { name := "one", type := (.object "java/lang/String"), accessFlags := 18, slot := 3, constantValue := 0 }, { name := "many", type := (.object "java/lang/String"), accessFlags := 18, slot := 4, constantValue := 0 }, { name := "$VALUES", type := (.array (.object "com/example/planwright/planwright/model/ValueType")), accessFlags := 4122, slot := 3, constantValue := 0 }]
  methods := #[]
  instanceTypes := #[(.object "java/lang/String"), .int, .int, (.object "java/lang/String"), (.object "java/lang/String")]
  staticTypes := #[(.object "com/example/planwright/planwright/model/ValueType"), (.object "com/example/planwright/planwright/model/ValueType"), (.object "com/example/planwright/planwright/model/ValueType"), (.array (.object "com/example/planwright/planwright/model/ValueType"))]
  resolved := Array.replicate 74 none
  statics := some 1 }

def pool8 : Array CpInfo := pool [(1, .fieldref 2 3), (0, .class_ 4), (0, .nameAndType 5 6), (0, u "java/util/Optional"), (0, u "EMPTY"), (0, u "Ljava/util/Optional;"), (0, .methodref 8 9), (0, .class_ 10), (0, .nameAndType 11 12), (0, u "java/lang/Object"), (0, u "<init>"), (0, u "()V"), (0, .fieldref 2 14), (0, .nameAndType 15 16), (0, u "value"), (0, u "Ljava/lang/Object;"), (0, .methodref 18 19), (0, .class_ 20), (0, .nameAndType 21 22), (0, u "java/util/Objects"), (0, u "requireNonNull"), (0, u "(Ljava/lang/Object;)Ljava/lang/Object;"), (0, .methodref 2 24), (0, .nameAndType 11 25), (0, u "(Ljava/lang/Object;)V"), (38, u "ofNullable"), (0, u "(Ljava/lang/Object;)Ljava/util/Optional;"), (16, u "of"), (82, u "orElse")] 21

def k8c0 : Code := { maxStack := 2, maxLocals := 2, code := jdk_32_method_2_code, exceptionTable := #[], attributes := #[] }
def k8m0 : Method := { name := "<init>", desc := "(Ljava/lang/Object;)V", sig := { parameters := [(.object "java/lang/Object")], returnType := none }, accessFlags := 2, code := some k8c0 }
def k8c1 : Code := { maxStack := 3, maxLocals := 1, code := jdk_32_method_3_code, exceptionTable := #[], attributes := #[] }
def k8m1 : Method := { name := "of", desc := "(Ljava/lang/Object;)Ljava/util/Optional;", sig := { parameters := [(.object "java/lang/Object")], returnType := some (.object "java/util/Optional") }, accessFlags := 9, code := some k8c1 }
def k8c2 : Code := { maxStack := 3, maxLocals := 1, code := jdk_32_method_4_code, exceptionTable := #[], attributes := #[] }
def k8m2 : Method := { name := "ofNullable", desc := "(Ljava/lang/Object;)Ljava/util/Optional;", sig := { parameters := [(.object "java/lang/Object")], returnType := some (.object "java/util/Optional") }, accessFlags := 9, code := some k8c2 }
def k8c3 : Code := { maxStack := 1, maxLocals := 2, code := jdk_32_method_15_code, exceptionTable := #[], attributes := #[] }
def k8m3 : Method := { name := "orElse", desc := "(Ljava/lang/Object;)Ljava/lang/Object;", sig := { parameters := [(.object "java/lang/Object")], returnType := some (.object "java/lang/Object") }, accessFlags := 1, code := some k8c3 }
/-- java/util/Optional -/
def k8 : Class := { plain "java/util/Optional" (some 0) with
  accessFlags := 49
  interfaces := #[]
  cf := some (fileOf pool8 2 #[] #[{ accessFlags := 2, nameIndex := 11, descriptorIndex := 25, attributes := #[] }, { accessFlags := 9, nameIndex := 82, descriptorIndex := 65, attributes := #[] }, { accessFlags := 9, nameIndex := 64, descriptorIndex := 65, attributes := #[] }, { accessFlags := 1, nameIndex := 165, descriptorIndex := 22, attributes := #[] }] 49 8 #[] #[{ accessFlags := 26, nameIndex := 5, descriptorIndex := 6, attributes := #[] }, { accessFlags := 18, nameIndex := 15, descriptorIndex := 16, attributes := #[] }])
  fields := #[{ name := "EMPTY", type := (.object "java/util/Optional"), accessFlags := 26, slot := 0, constantValue := 0 }, { name := "value", type := (.object "java/lang/Object"), accessFlags := 18, slot := 0, constantValue := 0 }]
  methods := #[k8m0, k8m1, k8m2, k8m3]
  instanceTypes := #[(.object "java/lang/Object")]
  staticTypes := #[(.object "java/util/Optional")]
  resolved := Array.replicate 187 none
  statics := some 2 }

def pool9 : Array CpInfo := pool [(2, .class_ 4), (1, u "java/lang/Object"), (0, u "<init>"), (0, u "()V"), (35, .class_ 44), (1, u "java/util/Objects"), (0, u "requireNonNull"), (0, u "(Ljava/lang/Object;)Ljava/lang/Object;")] 137

def k9m0 : Method := { name := "<init>", desc := "()V", sig := { parameters := [], returnType := none }, accessFlags := 2, code := none }
def k9c1 : Code := { maxStack := 2, maxLocals := 1, code := jdk_31_method_10_code, exceptionTable := #[], attributes := #[] }
def k9m1 : Method := { name := "requireNonNull", desc := "(Ljava/lang/Object;)Ljava/lang/Object;", sig := { parameters := [(.object "java/lang/Object")], returnType := some (.object "java/lang/Object") }, accessFlags := 9, code := some k9c1 }
/-- java/util/Objects -/
def k9 : Class := { plain "java/util/Objects" (some 0) with
  accessFlags := 49
  interfaces := #[]
  cf := some (fileOf pool9 42 #[] #[{ accessFlags := 2, nameIndex := 5, descriptorIndex := 6, attributes := #[] }, { accessFlags := 9, nameIndex := 45, descriptorIndex := 46, attributes := #[] }] 49 2 #[] #[])
  fields := #[]
  methods := #[k9m0, k9m1]
  instanceTypes := #[]
  staticTypes := #[]
  resolved := Array.replicate 184 none
  statics := none }

def pool10 : Array CpInfo := pool [(1, u "java/lang/Cloneable"), (0, .class_ 1), (0, u "java/lang/Object"), (0, .class_ 3)] 3

/-- java/lang/Cloneable -/
def k10 : Class := { plain "java/lang/Cloneable" (some 0) with
  accessFlags := 1537
  interfaces := #[]
  cf := some (fileOf pool10 2 #[] #[] 1537 4 #[] #[])
  fields := #[]
  methods := #[]
  instanceTypes := #[]
  staticTypes := #[]
  resolved := Array.replicate 8 none
  statics := none }

/-- the primitive byte -/
def k11 : Class := { plain "byte" none with kind := .primitive 'B', accessFlags := 0x411 }
/-- [B -/
def k12 : Class := { plain "[B" (some 0) with kind := .array 11 .byte, interfaces := #[10, 4], accessFlags := 1041 }

/-- the primitive int -/
def k13 : Class := { plain "int" none with kind := .primitive 'I', accessFlags := 0x411 }
/-- [I -/
def k14 : Class := { plain "[I" (some 0) with kind := .array 13 .int, interfaces := #[10, 4], accessFlags := 1041 }

def heap : Heap := #[{ cls := 6, slots := #[.ref 3, .ref 7, .ref 9, .ref 8, .null], vm := .statics 6 },
  { cls := 7, slots := #[.ref 4, .ref 6, .ref 5, .null], vm := .statics 7 },
  { cls := 8, slots := #[.ref 10], vm := .statics 8 },
  { cls := 6, slots := #[.null, .int 0, .int 0, .int 0, .null], vm := .none },
  { cls := 7, slots := #[.null, .int 0, .int 0, .null, .null], vm := .none },
  { cls := 7, slots := #[.null, .int 2, .int 0, .null, .null], vm := .none },
  { cls := 7, slots := #[.null, .int 1, .int 0, .null, .null], vm := .none },
  { cls := 6, slots := #[.null, .int 1, .int 0, .int 0, .null], vm := .none },
  { cls := 6, slots := #[.null, .int 3, .int 0, .int 0, .null], vm := .none },
  { cls := 6, slots := #[.null, .int 2, .int 0, .int 0, .null], vm := .none },
  { cls := 8, slots := #[.null], vm := .none }]
def classes : Array Class := #[k0, k1, k2, k3, k4, k5, k6, k7, k8, k9, k10, k11, k12, k13, k14]
def interned : List (Array UInt16 × Addr) := []
def slotsUsed : Nat := 46
def theMethod : MethodId := ⟨1, 3⟩
def args0 : Array Value := #[.int 1, .int 1, .int 1]
def aboutOver (below : List Frame) : State where
  vm := { classes := classes, interned := interned.toArray }
  heap := heap
  slotsUsed := slotsUsed
  threads := #[{ frames := .invoking theMethod args0 :: below }]
def below0 : List Frame := [.native { method := ⟨0, 0⟩, args := #[] }]
def about1 : State := aboutOver below0
def p0 : Program := .bare "" "" ""
def e0 : Env := launch0.env 0 0 0
theorem w_frames : about1.frames = Frame.invoking theMethod args0 :: below0 := rfl
set_option maxRecDepth 65536 in
theorem w_args : argsFit about1.vm theMethod args0 = true := by decide +kernel
set_option maxRecDepth 65536 in
theorem w_heap : heapFits about1 = true := by decide +kernel
set_option maxRecDepth 65536 in
theorem w_runnable : about1.curStatus? = some .runnable := by decide +kernel
set_option maxRecDepth 65536 in
theorem w_alone : about1.alone = true := by decide +kernel
set_option maxRecDepth 65536 in
theorem w_named : about1.methodNamed? x = some theMethod := by decide +kernel
set_option maxRecDepth 65536 in
theorem w_hears : about1.hears theMethod below0 = true := by decide +kernel
set_option maxRecDepth 65536 in
theorem w_ripe : about1.ripe theMethod args0 below0 = true := by decide +kernel
theorem w_running : about1.status = .running := rfl
set_option maxRecDepth 65536 in
theorem w_room : about1.hasRoom e0.platform room_1 = true :=
  launch0.hasRoom_least _ room_1 (by decide +kernel) (by decide +kernel) (by decide +kernel) (by decide +kernel) (by decide +kernel) (by decide +kernel)
theorem allAtoms_all (ts : List Jvm.Cond) (a : Array Jvm.Value) (st : Jvm.State) : (allAtoms ts).before a st = ts.all (fun c => c.before a st) := by
  induction ts with
  | nil => rfl
  | cons c t ih =>
    show (Jvm.Cond.and c (allAtoms t)).before a st = _
    rw [Jvm.Cond.before_and, ih, List.all_cons]
def words1 : List Jvm.Cond := Jvm.Cond.code x code maxLocals ret :: tables_1
/-- a 'code' word, met by the world's own term for the bytes: nothing is compared byte by byte -/
theorem code_word {y : MethodName} {bytes : ByteArray} {mx : Nat} {rt : Option FieldType} {a : Array Value} {s : State} {m : MethodId} {meth : Method} {c : Code} (h1 : s.methodNamed? y = some m) (h2 : s.vm.method? m = some meth) (h3 : meth.code = some c) (h4 : c.code = bytes)
    (h5 : (c.maxLocals == mx && c.exceptionTable.isEmpty && decide (c.maxStack ≤ mostOperands) && decide (meth.sig.returnType = rt) && !meth.locks && decide (parseMethodDescriptor y.desc = some meth.sig)) = true) : (Jvm.Cond.code y bytes mx rt).before a s = true := by
  simp only [Bool.and_eq_true, beq_iff_eq, Bool.not_eq_true', decide_eq_true_eq] at h5
  obtain ⟨⟨⟨⟨⟨g1, g2⟩, g3⟩, g4⟩, g5⟩, g6⟩ := h5
  simp [Cond.before, Cond.holds, Cond.value, h1, h2, h3, h4, g1, g2, g3, g4, g5, g6]
def isCode : Jvm.Cond → Bool
  | .code _ _ _ _ => true
  | _ => false
theorem all_split {L : List Jvm.Cond} {P : Jvm.Cond → Bool} (h1 : L.all (fun c => isCode c || P c) = true) (h2 : ∀ c ∈ L.filter isCode, P c = true) : L.all P = true := by
  refine List.all_eq_true.mpr fun c hc => ?_
  have h := List.all_eq_true.mp h1 c hc
  rcases Bool.eq_false_or_eq_true (isCode c) with hi | hi
  · exact h2 c (List.mem_filter.mpr ⟨hc, hi⟩)
  · simpa [hi] using h
set_option maxRecDepth 65536 in
theorem w_c0 : (Jvm.Cond.code x code maxLocals ret).before args0 about1 = true := code_word (m := ⟨1, 3⟩) (meth := k1m3) (c := k1c3) (by decide +kernel) rfl rfl rfl (by decide +kernel)
set_option maxRecDepth 65536 in
theorem w_c1 : (Jvm.Cond.code ({ cls := "com/example/planwright/planwright/model/OperatorTypePinLaw", name := "operator", desc := "(I)Lcom/example/planwright/planwright/model/Expression$Operator;" } : Jvm.MethodName) method_2_code (1 : Nat) (Option.some (Jvm.ClassFile.FieldType.object "com/example/planwright/planwright/model/Expression$Operator"))).before args0 about1 = true := code_word (m := ⟨1, 1⟩) (meth := k1m1) (c := k1c1) (by decide +kernel) rfl rfl rfl (by decide +kernel)
set_option maxRecDepth 65536 in
theorem w_c2 : (Jvm.Cond.code ({ cls := "com/example/planwright/planwright/model/OperatorTypePinLaw", name := "valueType", desc := "(I)Lcom/example/planwright/planwright/model/ValueType;" } : Jvm.MethodName) method_3_code (1 : Nat) (Option.some (Jvm.ClassFile.FieldType.object "com/example/planwright/planwright/model/ValueType"))).before args0 about1 = true := code_word (m := ⟨1, 2⟩) (meth := k1m2) (c := k1c2) (by decide +kernel) rfl rfl rfl (by decide +kernel)
set_option maxRecDepth 65536 in
theorem w_c3 : (Jvm.Cond.code ({ cls := "com/example/planwright/planwright/model/Expression$Operator", name := "type", desc := "(Lcom/example/planwright/planwright/model/ValueType;Lcom/example/planwright/planwright/model/ValueType;)Ljava/util/Optional;" } : Jvm.MethodName) prog_45_method_6_code (5 : Nat) (Option.some (Jvm.ClassFile.FieldType.object "java/util/Optional"))).before args0 about1 = true := code_word (m := ⟨6, 0⟩) (meth := k6m0) (c := k6c0) (by decide +kernel) rfl rfl rfl (by decide +kernel)
set_option maxRecDepth 65536 in
theorem w_c4 : (Jvm.Cond.code ({ cls := "java/lang/Enum", name := "ordinal", desc := "()I" } : Jvm.MethodName) jdk_37_method_2_code (1 : Nat) (Option.some Jvm.ClassFile.FieldType.int)).before args0 about1 = true := code_word (m := ⟨5, 0⟩) (meth := k5m0) (c := k5c0) (by decide +kernel) rfl rfl rfl (by decide +kernel)
set_option maxRecDepth 65536 in
theorem w_c5 : (Jvm.Cond.code ({ cls := "java/util/Optional", name := "ofNullable", desc := "(Ljava/lang/Object;)Ljava/util/Optional;" } : Jvm.MethodName) jdk_32_method_4_code (1 : Nat) (Option.some (Jvm.ClassFile.FieldType.object "java/util/Optional"))).before args0 about1 = true := code_word (m := ⟨8, 2⟩) (meth := k8m2) (c := k8c2) (by decide +kernel) rfl rfl rfl (by decide +kernel)
set_option maxRecDepth 65536 in
theorem w_c6 : (Jvm.Cond.code ({ cls := "java/util/Optional", name := "orElse", desc := "(Ljava/lang/Object;)Ljava/lang/Object;" } : Jvm.MethodName) jdk_32_method_15_code (2 : Nat) (Option.some (Jvm.ClassFile.FieldType.object "java/lang/Object"))).before args0 about1 = true := code_word (m := ⟨8, 3⟩) (meth := k8m3) (c := k8c3) (by decide +kernel) rfl rfl rfl (by decide +kernel)
set_option maxRecDepth 65536 in
theorem w_c7 : (Jvm.Cond.code ({ cls := "java/util/Optional", name := "of", desc := "(Ljava/lang/Object;)Ljava/util/Optional;" } : Jvm.MethodName) jdk_32_method_3_code (1 : Nat) (Option.some (Jvm.ClassFile.FieldType.object "java/util/Optional"))).before args0 about1 = true := code_word (m := ⟨8, 1⟩) (meth := k8m1) (c := k8c1) (by decide +kernel) rfl rfl rfl (by decide +kernel)
set_option maxRecDepth 65536 in
theorem w_c8 : (Jvm.Cond.code ({ cls := "java/util/Objects", name := "requireNonNull", desc := "(Ljava/lang/Object;)Ljava/lang/Object;" } : Jvm.MethodName) jdk_31_method_10_code (1 : Nat) (Option.some (Jvm.ClassFile.FieldType.object "java/lang/Object"))).before args0 about1 = true := code_word (m := ⟨9, 1⟩) (meth := k9m1) (c := k9c1) (by decide +kernel) rfl rfl rfl (by decide +kernel)
set_option maxRecDepth 65536 in
theorem w_c9 : (Jvm.Cond.code ({ cls := "java/util/Optional", name := "<init>", desc := "(Ljava/lang/Object;)V" } : Jvm.MethodName) jdk_32_method_2_code (2 : Nat) (Option.none : Option Jvm.ClassFile.FieldType)).before args0 about1 = true := code_word (m := ⟨8, 0⟩) (meth := k8m0) (c := k8c0) (by decide +kernel) rfl rfl rfl (by decide +kernel)
set_option maxRecDepth 65536 in
theorem w_c10 : (Jvm.Cond.code ({ cls := "java/lang/Object", name := "<init>", desc := "()V" } : Jvm.MethodName) object_method_1_code (1 : Nat) (Option.none : Option Jvm.ClassFile.FieldType)).before args0 about1 = true := code_word (m := ⟨0, 0⟩) (meth := k0m0) (c := k0c0) (by decide +kernel) rfl rfl rfl (by decide +kernel)
def codes1 : List Jvm.Cond := [Jvm.Cond.code x code maxLocals ret, Jvm.Cond.code ({ cls := "com/example/planwright/planwright/model/OperatorTypePinLaw", name := "operator", desc := "(I)Lcom/example/planwright/planwright/model/Expression$Operator;" } : Jvm.MethodName) method_2_code (1 : Nat) (Option.some (Jvm.ClassFile.FieldType.object "com/example/planwright/planwright/model/Expression$Operator")), Jvm.Cond.code ({ cls := "com/example/planwright/planwright/model/OperatorTypePinLaw", name := "valueType", desc := "(I)Lcom/example/planwright/planwright/model/ValueType;" } : Jvm.MethodName) method_3_code (1 : Nat) (Option.some (Jvm.ClassFile.FieldType.object "com/example/planwright/planwright/model/ValueType")), Jvm.Cond.code ({ cls := "com/example/planwright/planwright/model/Expression$Operator", name := "type", desc := "(Lcom/example/planwright/planwright/model/ValueType;Lcom/example/planwright/planwright/model/ValueType;)Ljava/util/Optional;" } : Jvm.MethodName) prog_45_method_6_code (5 : Nat) (Option.some (Jvm.ClassFile.FieldType.object "java/util/Optional")), Jvm.Cond.code ({ cls := "java/lang/Enum", name := "ordinal", desc := "()I" } : Jvm.MethodName) jdk_37_method_2_code (1 : Nat) (Option.some Jvm.ClassFile.FieldType.int), Jvm.Cond.code ({ cls := "java/util/Optional", name := "ofNullable", desc := "(Ljava/lang/Object;)Ljava/util/Optional;" } : Jvm.MethodName) jdk_32_method_4_code (1 : Nat) (Option.some (Jvm.ClassFile.FieldType.object "java/util/Optional")), Jvm.Cond.code ({ cls := "java/util/Optional", name := "orElse", desc := "(Ljava/lang/Object;)Ljava/lang/Object;" } : Jvm.MethodName) jdk_32_method_15_code (2 : Nat) (Option.some (Jvm.ClassFile.FieldType.object "java/lang/Object")), Jvm.Cond.code ({ cls := "java/util/Optional", name := "of", desc := "(Ljava/lang/Object;)Ljava/util/Optional;" } : Jvm.MethodName) jdk_32_method_3_code (1 : Nat) (Option.some (Jvm.ClassFile.FieldType.object "java/util/Optional")), Jvm.Cond.code ({ cls := "java/util/Objects", name := "requireNonNull", desc := "(Ljava/lang/Object;)Ljava/lang/Object;" } : Jvm.MethodName) jdk_31_method_10_code (1 : Nat) (Option.some (Jvm.ClassFile.FieldType.object "java/lang/Object")), Jvm.Cond.code ({ cls := "java/util/Optional", name := "<init>", desc := "(Ljava/lang/Object;)V" } : Jvm.MethodName) jdk_32_method_2_code (2 : Nat) (Option.none : Option Jvm.ClassFile.FieldType), Jvm.Cond.code ({ cls := "java/lang/Object", name := "<init>", desc := "()V" } : Jvm.MethodName) object_method_1_code (1 : Nat) (Option.none : Option Jvm.ClassFile.FieldType)]
set_option maxRecDepth 65536 in
theorem codes_eq : words1.filter isCode = codes1 := rfl
theorem w_codes : ∀ c ∈ words1.filter isCode, c.before args0 about1 = true := by
  rw [codes_eq]
  intro c hc
  simp only [codes1, List.mem_cons, List.not_mem_nil, or_false] at hc
  rcases hc with rfl | rfl | rfl | rfl | rfl | rfl | rfl | rfl | rfl | rfl | rfl
  · exact w_c0
  · exact w_c1
  · exact w_c2
  · exact w_c3
  · exact w_c4
  · exact w_c5
  · exact w_c6
  · exact w_c7
  · exact w_c8
  · exact w_c9
  · exact w_c10
set_option maxRecDepth 65536 in
theorem w_t1 : (words1.take 24).all (fun c => isCode c || c.before args0 about1) = true := by decide +kernel
set_option maxRecDepth 65536 in
theorem w_t2 : ((words1.drop 24).take 24).all (fun c => isCode c || c.before args0 about1) = true := by decide +kernel
set_option maxRecDepth 65536 in
theorem w_t3 : ((words1.drop 24).drop 24).all (fun c => isCode c || c.before args0 about1) = true := by decide +kernel
theorem w_tables : (allAtoms (Jvm.Cond.code x code maxLocals ret :: tables_1)).before args0 about1 = true := by
  rw [allAtoms_all]
  show words1.all (fun c => c.before args0 about1) = true
  refine all_split ?_ w_codes
  rw [← List.take_append_drop 24 words1, List.all_append, w_t1, ← List.take_append_drop 24 (words1.drop 24), List.all_append, w_t2, w_t3]
  rfl
set_option maxRecDepth 65536 in
theorem w_rest : rest_1_c.before args0 about1 = true := by decide +kernel
set_option maxRecDepth 65536 in
theorem w_case : (Jvm.Cond.and given_1 narrow_1).before args0 about1 = true := by decide +kernel
theorem w_applies : (headSpec (Jvm.Cond.code x code maxLocals ret :: tables_1) room_1).applies x e0.platform about1 = true :=
  (Spec.applies_iff w_frames).mpr ⟨w_running, w_runnable, w_alone, w_named, w_hears, w_ripe, w_room, w_tables⟩
theorem atStart : AtStart classFile x code maxLocals ret World_1 tables_1 room_1 Calls_1 rest_1 Pre_1 launch0 p0 e0 about1 theMethod args0 below0 :=
  ⟨lists_1, trivial, launch0.admits_env _ _ _, launch0.least_env, fairChoices_fair.cas, fairChoices_fair.clock, w_frames, w_args, w_heap, w_applies, trivial, w_rest, w_case⟩
end start1
theorem witness_1 : WitnessClaimed_1 := ⟨start1.p0, start1.e0, start1.about1, start1.theMethod, start1.args0, start1.below0, start1.atStart⟩
end Jvm.Pilot.@@N@@
