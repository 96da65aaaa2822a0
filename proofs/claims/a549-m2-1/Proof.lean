import JvmDerived
import JvmDerived.Pilot.@@N@@Statement
import JvmDerived.Pilot.@@N@@Code
set_option linter.unusedVariables false
set_option linter.unusedSimpArgs false
namespace Jvm.Pilot.@@N@@
open Jvm Jvm.ClassFile Sem Op Lib Jvm.Free Jvm.Stand Jvm.LawKit Jvm.RoadKit Bundle Jvm.Pilot.@@N@@.Jvm.D
/-! what is left of a run: it comes to its end, and there Q holds -/
def oG (p : Program) (e : Env) (below : List Frame) (s : State) (Q : Option Value → Heap → List Loc → Prop) (rc rs : Nat) (S : State) : Prop :=
  ∃ s₂ o, Steps p.tables e below S s₂ ∧ s₂.status = .running ∧ Ended s₂ below o ∧ ∃ v L, o = .returned v ∧ Q v s₂.heap L ∧ FrameEnd s o s₂ L rc rs
theorem oS {p : Program} {e : Env} {below : List Frame} {s : State} {Q : Option Value → Heap → List Loc → Prop} {rc rs : Nat} {S S' : State} (k : ∀ t, Steps p.tables e below S' t → Steps p.tables e below S t) (g : oG p e below s Q rc rs S') : oG p e below s Q rc rs S := by
  obtain ⟨s₂, o, h1, h2⟩ := g
  exact ⟨s₂, o, k _ h1, h2⟩
theorem own_ret {p : Program} {l : Launch} {e : Env} {R : Room} {s : State} {m : MethodId} {args : Array Value} {below : List Frame} {meth : Method} {c : Code} {T : State} {locs : List Loc} {cells slots : Nat} {Q : Option Value → Heap → List Loc → Prop} {rc rs : Nat} {S : State} {v : Option Value} (X : Stand p l e R s m args below meth c T locs cells slots) (hv : meth.sig.returnType = none → v = none) (hlocks : meth.locks = false)
    (st : ∀ fs, (∀ (f : JFrame) (acts : List Action), f.method = m → f.locked = none → f.entered = [] → (doReturn e (T.setTop f) acts v).1 = T.setFrames fs) → Steps p.tables e below S (T.setFrames fs)) (q : Q v T.heap locs) (hc : cells ≤ rc) (hs : slots ≤ rs) : oG p e below s Q rc rs S := by
  obtain ⟨fs, hr, hrun, hended, hW, hsame⟩ := X.leave hv hlocks
  exact ⟨_, _, st fs hr, hrun, hended, _, _, rfl, q, ⟨_, rfl⟩, hW, hsame.mono hc hs⟩
theorem oIc {tb : Tables} [Ours tb] {e : Env} {below : List Frame} {T target : State} {m : MethodId} {c : Code} {g : JFrame} {i : Int} {z : Int32} (hz : Int32.ofInt i = z) (h : At T m c below) (hx : tb.exec = Jvm.exec) (hg : g.method = m) (hd : decode c.code g.pc = .ok (.iconst i, 1)) (hr : Steps tb e below (T.setTop { g with pc := g.pc + 1, stack := .int z :: g.stack }) target) : Steps tb e below (T.setTop g) target := XS.iconst h hx hg hd (by rw [hz]; exact hr)
theorem oBp {tb : Tables} [Ours tb] {e : Env} {below : List Frame} {T target : State} {m : MethodId} {c : Code} {g : JFrame} {i : Int} {z : Int32} (hz : (Int8.ofInt i).toInt32 = z) (h : At T m c below) (hx : tb.exec = Jvm.exec) (hg : g.method = m) (hd : decode c.code g.pc = .ok (.bipush i, 2)) (hr : Steps tb e below (T.setTop { g with pc := g.pc + 2, stack := .int z :: g.stack }) target) : Steps tb e below (T.setTop g) target := XS.bipush h hx hg hd (by rw [hz]; exact hr)
theorem oSp {tb : Tables} [Ours tb] {e : Env} {below : List Frame} {T target : State} {m : MethodId} {c : Code} {g : JFrame} {i : Int} {z : Int32} (hz : (Int16.ofInt i).toInt32 = z) (h : At T m c below) (hx : tb.exec = Jvm.exec) (hg : g.method = m) (hd : decode c.code g.pc = .ok (.sipush i, 3)) (hr : Steps tb e below (T.setTop { g with pc := g.pc + 3, stack := .int z :: g.stack }) target) : Steps tb e below (T.setTop g) target := XS.sipush h hx hg hd (by rw [hz]; exact hr)
theorem oLc {tb : Tables} [Ours tb] {e : Env} {below : List Frame} {T target : State} {m : MethodId} {c : Code} {g : JFrame} {i : Fin 2} {z : Int64} (hz : Int64.ofNat i = z) (h : At T m c below) (hx : tb.exec = Jvm.exec) (hg : g.method = m) (hd : decode c.code g.pc = .ok (.lconst i, 1)) (hr : Steps tb e below (T.setTop { g with pc := g.pc + 1, stack := .long z :: g.stack }) target) : Steps tb e below (T.setTop g) target := XS.lconst h hx hg hd (by rw [hz]; exact hr)
theorem oW {a0 : Array Value} {Z : State} (hw : ∀ d ∈ tables_1, d.before a0 Z = true) (i : Nat) {d : Jvm.Cond} (h : tables_1[i]? = some d) : d.before a0 Z = true := hw _ (List.mem_of_getElem? h)
theorem own_eqv {args : Array Value} {s : State} {a b : Term} {v : Value} (h : (Jvm.Cond.eq a b).value args s none s [] = some true) (hb : b.eval args s none [] s = some v) : a.eval args s none [] s = some v := by
  obtain ⟨x, y, ha, hb', -, -⟩ := cmp_v (Or.inl h)
  cases hb.symm.trans hb'
  rw [ha]
  cases x <;> cases v <;> simp [Cond.value, ha, hb] at h ⊢ <;> exact h
theorem own_len {args : Array Value} {s : State} {t : Term} {a : Addr} {cl : Cell} {ty : FieldType} {z : Int32} (h : (Term.length t).eval args s none [] s = some (.int z)) (ht : t.eval args s none [] s = some (.ref a)) (A : Arr s s.heap a cl ty) : cl.slots.size < 2 ^ 31 ∧ cl.slots.size.toInt32 = z := by
  have hA := A.fin (Vm.Alike.refl _)
  obtain ⟨a', cell, h1, h2, h3⟩ := Term.length_spec h
  cases ht.symm.trans h1
  cases hA.symm.trans h2
  refine ⟨?_, (Value.int.inj h3).symm⟩
  simp only [Term.eval, ht, hA, Option.bind_eq_bind, Option.bind_some] at h
  split at h
  · assumption
  · cases h
theorem own_sz {n : Nat} {z : Int32} (h1 : n < 2 ^ 31) (h2 : n.toInt32 = z) : n = z.toNatClampNeg := by
  rw [← h2]; simp only [Int32.toNatClampNeg, len_toInt h1]; rfl
theorem own_box {args : Array Value} {s : State} {t : Term} {a : Addr} {c : Cell} {K : String} {G : Jvm.Cond} (et : ∀ idx, t.eval args s none idx s = some (.ref a)) (A : Arr s s.heap a c (.object K)) (h : (Jvm.Cond.all t (.and (.exactly (.elem t (.index 0)) K) G)).value args s none s [] = some true) :
    ∀ j : Int32, ¬ (j < 0 ∨ c.slots.size ≤ j.toNatClampNeg) → ∃ b : Addr, c.slots[j.toNatClampNeg]? = some (.ref b) ∧ Exa s s.heap b K := fun j hj => by
  have nn : ¬ j < 0 := fun x => hj (Or.inl x)
  obtain ⟨u1, -⟩ := and_e (Cond.all_elim (et []) (A.fin (Vm.Alike.refl _)) h j.toNatClampNeg (Nat.lt_of_not_le fun x => hj (Or.inr x)))
  obtain ⟨b, eb⟩ := exa_v u1
  exact ⟨b, (elem_f (et _) (idx_at nn) (A.fin (Vm.Alike.refl _)) nn).symm.trans eb, exa_at eb u1⟩
theorem own_neI {Z : State} {h : Heap} {a b : Addr} {C n d : String} {x y : Int32} (F : Fld Z h a C n d (.int x)) (G : Fld Z h b C n d (.int y)) (hn : x ≠ y) : ¬ a = b := fun e => by
  subst e
  obtain ⟨c1, cf1, k1, i1, f1, a1, a2, -, -, -, -, a7⟩ := F
  obtain ⟨c2, cf2, k2, i2, f2, b1, b2, -, -, -, -, b7⟩ := G
  cases a1.symm.trans b1
  cases a2.symm.trans b2
  cases a7.symm.trans b7
  exact hn rfl
theorem own_neJ {Z : State} {h : Heap} {a b : Addr} {C n d : String} {x y : Int64} (F : Fld Z h a C n d (.long x)) (G : Fld Z h b C n d (.long y)) (hn : x ≠ y) : ¬ a = b := fun e => by
  subst e
  obtain ⟨c1, cf1, k1, i1, f1, a1, a2, -, -, -, -, a7⟩ := F
  obtain ⟨c2, cf2, k2, i2, f2, b1, b2, -, -, -, -, b7⟩ := G
  cases a1.symm.trans b1
  cases a2.symm.trans b2
  cases a7.symm.trans b7
  exact hn rfl
def oGW (p : Program) (e : Env) (below : List Frame) (s : State) (Q : Option Value → Heap → List Loc → Prop) (rc rs : Nat) (S : State) : Prop :=
  ∃ s₂ o, Steps p.tables e below S s₂ ∧ s₂.status = .running ∧ Ended s₂ below o ∧ ∃ v L, o = .returned v ∧ Q v s₂.heap L ∧ ReturnedEndW s o s₂ L rc rs
theorem oSW {p : Program} {e : Env} {below : List Frame} {s : State} {Q : Option Value → Heap → List Loc → Prop} {rc rs : Nat} {S S' : State} (k : ∀ t, Steps p.tables e below S' t → Steps p.tables e below S t) (g : oGW p e below s Q rc rs S') : oGW p e below s Q rc rs S := by
  obtain ⟨s₂, o, h1, h2⟩ := g
  exact ⟨s₂, o, k _ h1, h2⟩
theorem own_retW0 {p : Program} {l : Launch} {e : Env} {R : Room} {s : State} {m : MethodId} {args : Array Value} {below : List Frame} {meth : Method} {c : Code} {T : State} {locs : List Loc} {cells slots : Nat} {Q : Option Value → Heap → List Loc → Prop} {rc rs : Nat} {S : State} {v : Option Value} (X : Stand p l e R s m args below meth c T locs cells slots) (hv : meth.sig.returnType = none → v = none) (hlocks : meth.locks = false)
    (st : ∀ fs, (∀ (f : JFrame) (acts : List Action), f.method = m → f.locked = none → f.entered = [] → (doReturn e (T.setTop f) acts v).1 = T.setFrames fs) → Steps p.tables e below S (T.setFrames fs)) (q : Q v T.heap locs) (hc : cells ≤ rc) (hs : slots ≤ rs) : oGW p e below s Q rc rs S := by
  obtain ⟨fs, hr, hrun, hended, hW, hsame⟩ := X.leave hv hlocks
  exact ⟨_, _, st fs hr, hrun, hended, _, _, rfl, q, ReturnedEndW.of_narrow ⟨_, rfl⟩ hW (hsame.mono hc hs)⟩
theorem own_retW1 {p : Program} {l : Launch} {e : Env} {R : Room} {s : State} {vm₁ : Vm} {n : Nat} {m : MethodId} {args : Array Value} {below : List Frame} {meth : Method} {c : Code} {T : State} {locs : List Loc} {cells slots : Nat} {Q : Option Value → Heap → List Loc → Prop} {rc rs : Nat} {S : State} {v : Option Value} (hS : s.Since vm₁ n) (hn : n ≤ T.heap.size) (X : Stand p l e R (s.setVm vm₁) m args below meth c T locs cells slots) (hv : meth.sig.returnType = none → v = none) (hlocks : meth.locks = false)
    (st : ∀ fs, (∀ (f : JFrame) (acts : List Action), f.method = m → f.locked = none → f.entered = [] → (doReturn e (T.setTop f) acts v).1 = T.setFrames fs) → Steps p.tables e below S (T.setFrames fs)) (q : Q v T.heap locs) (hc : cells ≤ rc) (hs : slots ≤ rs) : oGW p e below s Q rc rs S := by
  obtain ⟨fs, hr, hrun, hended, hE⟩ := X.leaveW hS hn hv hlocks
  exact ⟨_, _, st fs hr, hrun, hended, _, _, rfl, q, hE.1, hE.2.1, hE.2.2.1, hE.2.2.2.mono hc hs⟩
theorem own_six (p : Int32) : ((p &&& (2147483647 : Int32)) % (6 : Int32)) = (0 : Int32) ∨ ((p &&& (2147483647 : Int32)) % (6 : Int32)) = (1 : Int32) ∨ ((p &&& (2147483647 : Int32)) % (6 : Int32)) = (2 : Int32) ∨ ((p &&& (2147483647 : Int32)) % (6 : Int32)) = (3 : Int32) ∨ ((p &&& (2147483647 : Int32)) % (6 : Int32)) = (4 : Int32) ∨ ((p &&& (2147483647 : Int32)) % (6 : Int32)) = (5 : Int32) := by
  have h0 : (p &&& (2147483647 : Int32)).toInt = p.toInt % 2147483648 := c_mask p 2147483647 31 (by decide) (by decide)
  have h1 := (c_irem (p &&& (2147483647 : Int32)) 6 6 rfl).1 (by omega)
  generalize ((p &&& (2147483647 : Int32)) % (6 : Int32)) = z at *
  have e0 : (0 : Int32).toInt = 0 := rfl
  have e1 : (1 : Int32).toInt = 1 := rfl
  have e2 : (2 : Int32).toInt = 2 := rfl
  have e3 : (3 : Int32).toInt = 3 := rfl
  have e4 : (4 : Int32).toInt = 4 := rfl
  have e5 : (5 : Int32).toInt = 5 := rfl
  simp only [← Int32.toInt_inj, e0, e1, e2, e3, e4, e5]
  omega
def own_World (Z : State) (w : Nat → Addr) : Prop := Sta Z Z.heap "com/example/planwright/planwright/model/Kind" "AMOUNT" "Lcom/example/planwright/planwright/model/Kind;" (.ref (w 0)) ∧ Exa Z Z.heap (w 0) "com/example/planwright/planwright/model/Kind" ∧ Sta Z Z.heap "com/example/planwright/planwright/model/Kind" "PERCENT" "Lcom/example/planwright/planwright/model/Kind;" (.ref (w 1)) ∧ Exa Z Z.heap (w 1) "com/example/planwright/planwright/model/Kind" ∧ Sta Z Z.heap "com/example/planwright/planwright/model/Kind" "RATIO" "Lcom/example/planwright/planwright/model/Kind;" (.ref (w 2)) ∧ Exa Z Z.heap (w 2) "com/example/planwright/planwright/model/Kind" ∧ Sta Z Z.heap "com/example/planwright/planwright/model/Kind" "COUNT" "Lcom/example/planwright/planwright/model/Kind;" (.ref (w 3)) ∧ Exa Z Z.heap (w 3) "com/example/planwright/planwright/model/Kind" ∧ Sta Z Z.heap "com/example/planwright/planwright/model/Kind" "DATE" "Lcom/example/planwright/planwright/model/Kind;" (.ref (w 4)) ∧ Exa Z Z.heap (w 4) "com/example/planwright/planwright/model/Kind" ∧ Sta Z Z.heap "com/example/planwright/planwright/model/Kind" "FLAG" "Lcom/example/planwright/planwright/model/Kind;" (.ref (w 5)) ∧ Exa Z Z.heap (w 5) "com/example/planwright/planwright/model/Kind" ∧ Sta Z Z.heap "com/example/planwright/planwright/model/ValueType" "NUMBER" "Lcom/example/planwright/planwright/model/ValueType;" (.ref (w 6)) ∧ Exa Z Z.heap (w 6) "com/example/planwright/planwright/model/ValueType" ∧ Sta Z Z.heap "com/example/planwright/planwright/model/ValueType" "DATE" "Lcom/example/planwright/planwright/model/ValueType;" (.ref (w 7)) ∧ Exa Z Z.heap (w 7) "com/example/planwright/planwright/model/ValueType" ∧ Sta Z Z.heap "com/example/planwright/planwright/model/ValueType" "FLAG" "Lcom/example/planwright/planwright/model/ValueType;" (.ref (w 8)) ∧ Exa Z Z.heap (w 8) "com/example/planwright/planwright/model/ValueType" ∧ Fld Z Z.heap (w 0) "java/lang/Enum" "ordinal" "I" (.int 0) ∧ Fld Z Z.heap (w 4) "java/lang/Enum" "ordinal" "I" (.int 4) ∧ Fld Z Z.heap (w 0) "com/example/planwright/planwright/model/Kind" "type" "Lcom/example/planwright/planwright/model/ValueType;" (.ref (w 6)) ∧ Fld Z Z.heap (w 6) "java/lang/Enum" "ordinal" "I" (.int 0) ∧ Fld Z Z.heap (w 7) "java/lang/Enum" "ordinal" "I" (.int 1) ∧ Fld Z Z.heap (w 3) "java/lang/Enum" "ordinal" "I" (.int 3) ∧ Fld Z Z.heap (w 3) "com/example/planwright/planwright/model/Kind" "type" "Lcom/example/planwright/planwright/model/ValueType;" (.ref (w 6)) ∧ Fld Z Z.heap (w 2) "java/lang/Enum" "ordinal" "I" (.int 2) ∧ Fld Z Z.heap (w 2) "com/example/planwright/planwright/model/Kind" "type" "Lcom/example/planwright/planwright/model/ValueType;" (.ref (w 6)) ∧ Fld Z Z.heap (w 1) "java/lang/Enum" "ordinal" "I" (.int 1) ∧ Fld Z Z.heap (w 1) "com/example/planwright/planwright/model/Kind" "type" "Lcom/example/planwright/planwright/model/ValueType;" (.ref (w 6)) ∧ Fld Z Z.heap (w 5) "java/lang/Enum" "ordinal" "I" (.int 5) ∧ Fld Z Z.heap (w 5) "com/example/planwright/planwright/model/Kind" "type" "Lcom/example/planwright/planwright/model/ValueType;" (.ref (w 8)) ∧ Fld Z Z.heap (w 8) "java/lang/Enum" "ordinal" "I" (.int 2) ∧ Fld Z Z.heap (w 4) "com/example/planwright/planwright/model/Kind" "type" "Lcom/example/planwright/planwright/model/ValueType;" (.ref (w 7))
theorem own_world {args : Array Value} {s : State} (hw : ∀ d ∈ tables_1, d.before args s = true) (hfit : Fit s) (hs : ∀ d ∈ jdkStatics_1, d.before args s = true) (hn : narrow_1.value args s none s [] = some true) : ∃ w : Nat → Addr, own_World s w := by
  obtain ⟨h0, q1⟩ := and_e hn
  obtain ⟨h1, q3⟩ := and_e q1
  obtain ⟨h2, q5⟩ := and_e q3
  obtain ⟨h3, q7⟩ := and_e q5
  obtain ⟨h4, q9⟩ := and_e q7
  obtain ⟨h5, q11⟩ := and_e q9
  obtain ⟨h6, q13⟩ := and_e q11
  obtain ⟨h7, q15⟩ := and_e q13
  obtain ⟨h8, q17⟩ := and_e q15
  obtain ⟨h9, q19⟩ := and_e q17
  obtain ⟨h10, q21⟩ := and_e q19
  obtain ⟨h11, q23⟩ := and_e q21
  obtain ⟨h12, q25⟩ := and_e q23
  obtain ⟨h13, q27⟩ := and_e q25
  obtain ⟨h14, q29⟩ := and_e q27
  obtain ⟨h15, q31⟩ := and_e q29
  obtain ⟨h16, q33⟩ := and_e q31
  obtain ⟨h17, q35⟩ := and_e q33
  obtain ⟨h18, q37⟩ := and_e q35
  obtain ⟨h19, q39⟩ := and_e q37
  obtain ⟨h20, q41⟩ := and_e q39
  obtain ⟨h21, q43⟩ := and_e q41
  obtain ⟨h22, h23⟩ := and_e q43
  obtain ⟨c0, e0⟩ := exa_v h0
  obtain ⟨c1, e1⟩ := exa_v h1
  obtain ⟨c2, e2⟩ := exa_v h2
  obtain ⟨c3, e3⟩ := exa_v h3
  obtain ⟨c4, e4⟩ := exa_v h4
  obtain ⟨c5, e5⟩ := exa_v h5
  obtain ⟨c6, e6⟩ := exa_v h8
  obtain ⟨c7, e7⟩ := exa_v h10
  obtain ⟨c8, e8⟩ := exa_v h20
  exact ⟨fun n => ([c0, c1, c2, c3, c4, c5, c6, c7, c8] : List Nat).getD n 0, Sta.start e0 (Or.inr ⟨(oW hw 3 rfl), (oW hw 4 rfl)⟩), Exa.start e0 h0, Sta.start e1 (Or.inr ⟨(oW hw 3 rfl), (oW hw 7 rfl)⟩), Exa.start e1 h1, Sta.start e2 (Or.inr ⟨(oW hw 3 rfl), (oW hw 9 rfl)⟩), Exa.start e2 h2, Sta.start e3 (Or.inr ⟨(oW hw 3 rfl), (oW hw 11 rfl)⟩), Exa.start e3 h3, Sta.start e4 (Or.inr ⟨(oW hw 3 rfl), (oW hw 13 rfl)⟩), Exa.start e4 h4, Sta.start e5 (Or.inr ⟨(oW hw 3 rfl), (oW hw 15 rfl)⟩), Exa.start e5 h5, Sta.start e6 (Or.inr ⟨(oW hw 30 rfl), (oW hw 31 rfl)⟩), Exa.start e6 h8, Sta.start e7 (Or.inr ⟨(oW hw 30 rfl), (oW hw 33 rfl)⟩), Exa.start e7 h10, Sta.start e8 (Or.inr ⟨(oW hw 30 rfl), (oW hw 34 rfl)⟩), Exa.start e8 h20, Fld.start ((fld_at e0).symm.trans (own_eqv h6 rfl)), Fld.start ((fld_at e4).symm.trans (own_eqv h7 rfl)), Fld.start ((fld_at e0).symm.trans (own_eqv h9 e6)), Fld.start ((fld_at e6).symm.trans (own_eqv h11 rfl)), Fld.start ((fld_at e7).symm.trans (own_eqv h12 rfl)), Fld.start ((fld_at e3).symm.trans (own_eqv h13 rfl)), Fld.start ((fld_at e3).symm.trans (own_eqv h14 e6)), Fld.start ((fld_at e2).symm.trans (own_eqv h15 rfl)), Fld.start ((fld_at e2).symm.trans (own_eqv h16 e6)), Fld.start ((fld_at e1).symm.trans (own_eqv h17 rfl)), Fld.start ((fld_at e1).symm.trans (own_eqv h18 e6)), Fld.start ((fld_at e5).symm.trans (own_eqv h19 rfl)), Fld.start ((fld_at e5).symm.trans (own_eqv h21 e8)), Fld.start ((fld_at e8).symm.trans (own_eqv h22 rfl)), Fld.start ((fld_at e4).symm.trans (own_eqv h23 e7))⟩
theorem wS0 {Z : State} {w : Nat → Addr} (W : own_World Z w) : Sta Z Z.heap "com/example/planwright/planwright/model/Kind" "AMOUNT" "Lcom/example/planwright/planwright/model/Kind;" (.ref (w 0)) := W.1
theorem wE0 {Z : State} {w : Nat → Addr} (W : own_World Z w) : Exa Z Z.heap (w 0) "com/example/planwright/planwright/model/Kind" := W.2.1
theorem wS1 {Z : State} {w : Nat → Addr} (W : own_World Z w) : Sta Z Z.heap "com/example/planwright/planwright/model/Kind" "PERCENT" "Lcom/example/planwright/planwright/model/Kind;" (.ref (w 1)) := W.2.2.1
theorem wE1 {Z : State} {w : Nat → Addr} (W : own_World Z w) : Exa Z Z.heap (w 1) "com/example/planwright/planwright/model/Kind" := W.2.2.2.1
theorem wS2 {Z : State} {w : Nat → Addr} (W : own_World Z w) : Sta Z Z.heap "com/example/planwright/planwright/model/Kind" "RATIO" "Lcom/example/planwright/planwright/model/Kind;" (.ref (w 2)) := W.2.2.2.2.1
theorem wE2 {Z : State} {w : Nat → Addr} (W : own_World Z w) : Exa Z Z.heap (w 2) "com/example/planwright/planwright/model/Kind" := W.2.2.2.2.2.1
theorem wS3 {Z : State} {w : Nat → Addr} (W : own_World Z w) : Sta Z Z.heap "com/example/planwright/planwright/model/Kind" "COUNT" "Lcom/example/planwright/planwright/model/Kind;" (.ref (w 3)) := W.2.2.2.2.2.2.1
theorem wE3 {Z : State} {w : Nat → Addr} (W : own_World Z w) : Exa Z Z.heap (w 3) "com/example/planwright/planwright/model/Kind" := W.2.2.2.2.2.2.2.1
theorem wS4 {Z : State} {w : Nat → Addr} (W : own_World Z w) : Sta Z Z.heap "com/example/planwright/planwright/model/Kind" "DATE" "Lcom/example/planwright/planwright/model/Kind;" (.ref (w 4)) := W.2.2.2.2.2.2.2.2.1
theorem wE4 {Z : State} {w : Nat → Addr} (W : own_World Z w) : Exa Z Z.heap (w 4) "com/example/planwright/planwright/model/Kind" := W.2.2.2.2.2.2.2.2.2.1
theorem wS5 {Z : State} {w : Nat → Addr} (W : own_World Z w) : Sta Z Z.heap "com/example/planwright/planwright/model/Kind" "FLAG" "Lcom/example/planwright/planwright/model/Kind;" (.ref (w 5)) := W.2.2.2.2.2.2.2.2.2.2.1
theorem wE5 {Z : State} {w : Nat → Addr} (W : own_World Z w) : Exa Z Z.heap (w 5) "com/example/planwright/planwright/model/Kind" := W.2.2.2.2.2.2.2.2.2.2.2.1
theorem wS6 {Z : State} {w : Nat → Addr} (W : own_World Z w) : Sta Z Z.heap "com/example/planwright/planwright/model/ValueType" "NUMBER" "Lcom/example/planwright/planwright/model/ValueType;" (.ref (w 6)) := W.2.2.2.2.2.2.2.2.2.2.2.2.1
theorem wE6 {Z : State} {w : Nat → Addr} (W : own_World Z w) : Exa Z Z.heap (w 6) "com/example/planwright/planwright/model/ValueType" := W.2.2.2.2.2.2.2.2.2.2.2.2.2.1
theorem wS7 {Z : State} {w : Nat → Addr} (W : own_World Z w) : Sta Z Z.heap "com/example/planwright/planwright/model/ValueType" "DATE" "Lcom/example/planwright/planwright/model/ValueType;" (.ref (w 7)) := W.2.2.2.2.2.2.2.2.2.2.2.2.2.2.1
theorem wE7 {Z : State} {w : Nat → Addr} (W : own_World Z w) : Exa Z Z.heap (w 7) "com/example/planwright/planwright/model/ValueType" := W.2.2.2.2.2.2.2.2.2.2.2.2.2.2.2.1
theorem wS8 {Z : State} {w : Nat → Addr} (W : own_World Z w) : Sta Z Z.heap "com/example/planwright/planwright/model/ValueType" "FLAG" "Lcom/example/planwright/planwright/model/ValueType;" (.ref (w 8)) := W.2.2.2.2.2.2.2.2.2.2.2.2.2.2.2.2.1
theorem wE8 {Z : State} {w : Nat → Addr} (W : own_World Z w) : Exa Z Z.heap (w 8) "com/example/planwright/planwright/model/ValueType" := W.2.2.2.2.2.2.2.2.2.2.2.2.2.2.2.2.2.1
theorem wF0_ordinal {Z : State} {w : Nat → Addr} (W : own_World Z w) : Fld Z Z.heap (w 0) "java/lang/Enum" "ordinal" "I" (.int 0) := W.2.2.2.2.2.2.2.2.2.2.2.2.2.2.2.2.2.2.1
theorem wF4_ordinal {Z : State} {w : Nat → Addr} (W : own_World Z w) : Fld Z Z.heap (w 4) "java/lang/Enum" "ordinal" "I" (.int 4) := W.2.2.2.2.2.2.2.2.2.2.2.2.2.2.2.2.2.2.2.1
theorem wF0_type {Z : State} {w : Nat → Addr} (W : own_World Z w) : Fld Z Z.heap (w 0) "com/example/planwright/planwright/model/Kind" "type" "Lcom/example/planwright/planwright/model/ValueType;" (.ref (w 6)) := W.2.2.2.2.2.2.2.2.2.2.2.2.2.2.2.2.2.2.2.2.1
theorem wF6_ordinal {Z : State} {w : Nat → Addr} (W : own_World Z w) : Fld Z Z.heap (w 6) "java/lang/Enum" "ordinal" "I" (.int 0) := W.2.2.2.2.2.2.2.2.2.2.2.2.2.2.2.2.2.2.2.2.2.1
theorem wF7_ordinal {Z : State} {w : Nat → Addr} (W : own_World Z w) : Fld Z Z.heap (w 7) "java/lang/Enum" "ordinal" "I" (.int 1) := W.2.2.2.2.2.2.2.2.2.2.2.2.2.2.2.2.2.2.2.2.2.2.1
theorem wF3_ordinal {Z : State} {w : Nat → Addr} (W : own_World Z w) : Fld Z Z.heap (w 3) "java/lang/Enum" "ordinal" "I" (.int 3) := W.2.2.2.2.2.2.2.2.2.2.2.2.2.2.2.2.2.2.2.2.2.2.2.1
theorem wF3_type {Z : State} {w : Nat → Addr} (W : own_World Z w) : Fld Z Z.heap (w 3) "com/example/planwright/planwright/model/Kind" "type" "Lcom/example/planwright/planwright/model/ValueType;" (.ref (w 6)) := W.2.2.2.2.2.2.2.2.2.2.2.2.2.2.2.2.2.2.2.2.2.2.2.2.1
theorem wF2_ordinal {Z : State} {w : Nat → Addr} (W : own_World Z w) : Fld Z Z.heap (w 2) "java/lang/Enum" "ordinal" "I" (.int 2) := W.2.2.2.2.2.2.2.2.2.2.2.2.2.2.2.2.2.2.2.2.2.2.2.2.2.1
theorem wF2_type {Z : State} {w : Nat → Addr} (W : own_World Z w) : Fld Z Z.heap (w 2) "com/example/planwright/planwright/model/Kind" "type" "Lcom/example/planwright/planwright/model/ValueType;" (.ref (w 6)) := W.2.2.2.2.2.2.2.2.2.2.2.2.2.2.2.2.2.2.2.2.2.2.2.2.2.2.1
theorem wF1_ordinal {Z : State} {w : Nat → Addr} (W : own_World Z w) : Fld Z Z.heap (w 1) "java/lang/Enum" "ordinal" "I" (.int 1) := W.2.2.2.2.2.2.2.2.2.2.2.2.2.2.2.2.2.2.2.2.2.2.2.2.2.2.2.1
theorem wF1_type {Z : State} {w : Nat → Addr} (W : own_World Z w) : Fld Z Z.heap (w 1) "com/example/planwright/planwright/model/Kind" "type" "Lcom/example/planwright/planwright/model/ValueType;" (.ref (w 6)) := W.2.2.2.2.2.2.2.2.2.2.2.2.2.2.2.2.2.2.2.2.2.2.2.2.2.2.2.2.1
theorem wF5_ordinal {Z : State} {w : Nat → Addr} (W : own_World Z w) : Fld Z Z.heap (w 5) "java/lang/Enum" "ordinal" "I" (.int 5) := W.2.2.2.2.2.2.2.2.2.2.2.2.2.2.2.2.2.2.2.2.2.2.2.2.2.2.2.2.2.1
theorem wF5_type {Z : State} {w : Nat → Addr} (W : own_World Z w) : Fld Z Z.heap (w 5) "com/example/planwright/planwright/model/Kind" "type" "Lcom/example/planwright/planwright/model/ValueType;" (.ref (w 8)) := W.2.2.2.2.2.2.2.2.2.2.2.2.2.2.2.2.2.2.2.2.2.2.2.2.2.2.2.2.2.2.1
theorem wF8_ordinal {Z : State} {w : Nat → Addr} (W : own_World Z w) : Fld Z Z.heap (w 8) "java/lang/Enum" "ordinal" "I" (.int 2) := W.2.2.2.2.2.2.2.2.2.2.2.2.2.2.2.2.2.2.2.2.2.2.2.2.2.2.2.2.2.2.2.1
theorem wF4_type {Z : State} {w : Nat → Addr} (W : own_World Z w) : Fld Z Z.heap (w 4) "com/example/planwright/planwright/model/Kind" "type" "Lcom/example/planwright/planwright/model/ValueType;" (.ref (w 7)) := W.2.2.2.2.2.2.2.2.2.2.2.2.2.2.2.2.2.2.2.2.2.2.2.2.2.2.2.2.2.2.2.2
theorem own_wS {a0 : Array Value} {Z : State} (hw : ∀ d ∈ tables_1, d.before a0 Z = true) : ∀ a ∈ Bundle.stringAtoms, a.before a0 Z = true := fun a ha => by
  simp only [Bundle.stringAtoms, List.mem_cons, List.not_mem_nil, or_false] at ha
  rcases ha with rfl | rfl | rfl | rfl | rfl | rfl | rfl
  · exact (oW hw 36 rfl)
  · exact (oW hw 37 rfl)
  · exact (oW hw 38 rfl)
  · exact (oW hw 39 rfl)
  · exact (oW hw 40 rfl)
  · exact (oW hw 41 rfl)
  · exact (oW hw 42 rfl)
theorem d1_0 : decode prog_56_method_8_code 0 = .ok (.aload_n 0, 1) := by decide +kernel
theorem d1_1 : decode prog_56_method_8_code 1 = .ok (.getstatic 16, 3) := by decide +kernel
theorem d1_4 : decode prog_56_method_8_code 4 = .ok (.if_acmp .ne 7, 3) := by decide +kernel
theorem d1_11 : decode prog_56_method_8_code 11 = .ok (.iconst 0, 1) := by decide +kernel
theorem li_0 : Int32.ofInt (0) = (0 : Int32) := by decide
theorem d1_12 : decode prog_56_method_8_code 12 = .ok (.ireturn, 1) := by decide +kernel
abbrev mY0 : MethodName := (⟨"com/example/planwright/planwright/model/Kind", "mayBeNone", "()Z"⟩ : MethodName)
theorem ef_1_r (m : MethodId) (x0 : Addr) : entryFrame m #[(.ref x0)] 1 = mkF m 0 #[.val (.ref x0)] [] := by first | (simp [entryFrame, mkF, argsToLocals, Value.category]; done) | rfl
theorem pn_0 : plainName "com/example/planwright/planwright/model/Kind" = true := by first | (simp [plainName, overriddenIn]; done) | decide +kernel
def Q_mb_AMOUNT (Z : State)  (w : Nat → Addr) (h0 : Heap) (n0 : Nat) (v : Option Value) (h : Heap) (L : List Loc) : Prop := v = some (.int 0) ∧ Fr n0 L ∧ h = h0
set_option maxRecDepth 65536 in
set_option maxHeartbeats 40000000 in
theorem rm_mb_AMOUNT (l : Launch) (Z : State) (a0 : Array Value) (hw : ∀ d ∈ tables_1, d.before a0 Z = true) (ws : List Jvm.Cond)  (w : Nat → Addr) (h0 : Heap) (n0 : Nat) (O0 : Old Z n0 h0) (W : own_World Z w) :
    MetFree l mY0 (head1 (Jvm.Cond.code mY0 prog_56_method_8_code 1 (some .boolean) :: ws) ({ frames := 0, cells := 0, slots := 0, locals := 0 } : Room)) (fun a U => a = #[(.ref (w 0))] ∧ Z.Warmed39 U.vm ∧ U.heap = h0) (fun _ _ _ _ _ => True) (fun _ U o U' => ∃ v L, o = .returned v ∧ Q_mb_AMOUNT Z  w h0 n0 v U'.heap L ∧ FrameEnd U o U' L ({ frames := 0, cells := 0, slots := 0, locals := 0 } : Room).cells ({ frames := 0, cells := 0, slots := 0, locals := 0 } : Room).slots) := by
  refine MetFree.of_bodySF (plainFor_of_name pn_0) hisR ?_
  intro p e s m args below meth c s₁ Bd hml0 hP hK
  obtain ⟨rfl, hZ, hh⟩ := hP
  have hx := Bd.exec
  have hby := Bd.bytes
  have hml : c.maxLocals = 1 := hml0
  have hown : s.vm.findClass "com/example/planwright/planwright/model/Kind" = some m.cls := findClass_of_methodNamed Bd.named
  have hnm := (name_of_methodNamed Bd.named Bd.method).1
  have X0 : Stand p l e ({ frames := 0, cells := 0, slots := 0, locals := 0 } : Room) s m #[(.ref (w 0))] below meth c s₁ [] 0 0 := Stand.of_body Bd
  have e0 : s₁.heap = h0 := by rw [← hh, Bd.state]; rfl
  have N0 := Fr.nil n0
  show oG p e below s (Q_mb_AMOUNT Z  w h0 n0) ({ frames := 0, cells := 0, slots := 0, locals := 0 } : Room).cells ({ frames := 0, cells := 0, slots := 0, locals := 0 } : Room).slots _
  refine oS (fun t k => castTop (ef_1_r m (w 0)) k) ?_
  show oG _ _ _ _ _ _ _ (s₁.setTop (mkF m 0 #[.val (.ref (w 0))] []))
  refine oS (fun t k => XS.aloadN X0.here hx rfl (hb hby d1_0) rfl rfl k) ?_
  obtain ⟨T1, X1, e1, st1⟩ := getS2 X0 hx hZ hown (host := "") (Or.inl (oW hw 22 rfl)) Via.refl e0 ((wS4 W).ext O0.2) (g := (mkF m 1 #[.val (.ref (w 0))] [(.ref (w 0))])) rfl (hb hby d1_1)
  refine oS (fun t k => st1 t k) ?_
  try clear st1
  refine oS (fun t k => Jvm.RoadKit.acmp (g := (mkF m 4 #[.val (.ref (w 0))] [(.ref (w 4)), (.ref (w 0))])) X1 hx rfl rfl rfl (pc0 := 4) (pc' := 11) (same := false) rfl (hb hby d1_4) rfl (decide_eq_false fun q => (own_neI (wF0_ordinal W) (wF4_ordinal W) (by decide)) (Value.ref.inj q)) (by decide) (by decide) k) ?_
  show oG _ _ _ _ _ _ _ (T1.setTop (mkF m 11 #[.val (.ref (w 0))] []))
  refine oS (fun t k => oIc li_0 X1.here hx rfl (hb hby d1_11) k) ?_
  exact own_ret (v := some (.int 0)) X1 (fun h => by rw [Bd.returns] at h; cases h) Bd.notSynchronized (fun fs hr => retN X1 hx (t := .boolean) Bd.returns (by simp) (hb hby d1_12) hr) (by rw [e1]; exact ⟨rfl, N0, rfl⟩) (by decide) (by decide)
theorem d2_0 : decode prog_56_method_5_code 0 = .ok (.aload_n 0, 1) := by decide +kernel
theorem d2_1 : decode prog_56_method_5_code 1 = .ok (.getfield 45, 3) := by decide +kernel
theorem d2_4 : decode prog_56_method_5_code 4 = .ok (.areturn, 1) := by decide +kernel
abbrev mY1 : MethodName := (⟨"com/example/planwright/planwright/model/Kind", "type", "()Lcom/example/planwright/planwright/model/ValueType;"⟩ : MethodName)
theorem ef_2_r (m : MethodId) (x0 : Addr) : entryFrame m #[(.ref x0)] 1 = mkF m 0 #[.val (.ref x0)] [] := by first | (simp [entryFrame, mkF, argsToLocals, Value.category]; done) | rfl
def Q_ty_AMOUNT (Z : State)  (w : Nat → Addr) (h0 : Heap) (n0 : Nat) (v : Option Value) (h : Heap) (L : List Loc) : Prop := v = some (.ref (w 6)) ∧ Fr n0 L ∧ h = h0
set_option maxRecDepth 65536 in
set_option maxHeartbeats 40000000 in
theorem rm_ty_AMOUNT (l : Launch) (Z : State) (a0 : Array Value) (hw : ∀ d ∈ tables_1, d.before a0 Z = true) (ws : List Jvm.Cond)  (w : Nat → Addr) (h0 : Heap) (n0 : Nat) (O0 : Old Z n0 h0) (W : own_World Z w) :
    MetFree l mY1 (head1 (Jvm.Cond.code mY1 prog_56_method_5_code 1 (some (.object "com/example/planwright/planwright/model/ValueType")) :: ws) ({ frames := 0, cells := 0, slots := 0, locals := 0 } : Room)) (fun a U => a = #[(.ref (w 0))] ∧ Z.Warmed39 U.vm ∧ U.heap = h0) (fun _ _ _ _ _ => True) (fun _ U o U' => ∃ v L, o = .returned v ∧ Q_ty_AMOUNT Z  w h0 n0 v U'.heap L ∧ FrameEnd U o U' L ({ frames := 0, cells := 0, slots := 0, locals := 0 } : Room).cells ({ frames := 0, cells := 0, slots := 0, locals := 0 } : Room).slots) := by
  refine MetFree.of_bodySF (plainFor_of_name pn_0) hisR ?_
  intro p e s m args below meth c s₁ Bd hml0 hP hK
  obtain ⟨rfl, hZ, hh⟩ := hP
  have hx := Bd.exec
  have hby := Bd.bytes
  have hml : c.maxLocals = 1 := hml0
  have hown : s.vm.findClass "com/example/planwright/planwright/model/Kind" = some m.cls := findClass_of_methodNamed Bd.named
  have hnm := (name_of_methodNamed Bd.named Bd.method).1
  have X0 : Stand p l e ({ frames := 0, cells := 0, slots := 0, locals := 0 } : Room) s m #[(.ref (w 0))] below meth c s₁ [] 0 0 := Stand.of_body Bd
  have e0 : s₁.heap = h0 := by rw [← hh, Bd.state]; rfl
  have N0 := Fr.nil n0
  show oG p e below s (Q_ty_AMOUNT Z  w h0 n0) ({ frames := 0, cells := 0, slots := 0, locals := 0 } : Room).cells ({ frames := 0, cells := 0, slots := 0, locals := 0 } : Room).slots _
  refine oS (fun t k => castTop (ef_2_r m (w 0)) k) ?_
  show oG _ _ _ _ _ _ _ (s₁.setTop (mkF m 0 #[.val (.ref (w 0))] []))
  refine oS (fun t k => XS.aloadN X0.here hx rfl (hb hby d2_0) rfl rfl k) ?_
  obtain ⟨T1, X1, e1, st1⟩ := getF X0 hx hZ hown (host := "") (Or.inl (oW hw 28 rfl)) Via.refl e0 ((wF0_type W).ext O0.2) (g := (mkF m 1 #[.val (.ref (w 0))] [(.ref (w 0))])) rfl rfl (hb hby d2_1)
  refine oS (fun t k => st1 t k) ?_
  try clear st1
  exact own_ret (v := some (.ref (w 6))) X1 (fun h => by rw [Bd.returns] at h; cases h) Bd.notSynchronized (fun fs hr => retOut X1 hx (t := (.object "com/example/planwright/planwright/model/ValueType")) Bd.returns rfl (Or.inr (Or.inr (Or.inr (Or.inr ⟨rfl, rfl, rfl⟩)))) (hb hby d2_4) hr) (by rw [e1]; exact ⟨rfl, N0, rfl⟩) (by decide) (by decide)
def Q_mb_PERCENT (Z : State)  (w : Nat → Addr) (h0 : Heap) (n0 : Nat) (v : Option Value) (h : Heap) (L : List Loc) : Prop := v = some (.int 0) ∧ Fr n0 L ∧ h = h0
set_option maxRecDepth 65536 in
set_option maxHeartbeats 40000000 in
theorem rm_mb_PERCENT (l : Launch) (Z : State) (a0 : Array Value) (hw : ∀ d ∈ tables_1, d.before a0 Z = true) (ws : List Jvm.Cond)  (w : Nat → Addr) (h0 : Heap) (n0 : Nat) (O0 : Old Z n0 h0) (W : own_World Z w) :
    MetFree l mY0 (head1 (Jvm.Cond.code mY0 prog_56_method_8_code 1 (some .boolean) :: ws) ({ frames := 0, cells := 0, slots := 0, locals := 0 } : Room)) (fun a U => a = #[(.ref (w 1))] ∧ Z.Warmed39 U.vm ∧ U.heap = h0) (fun _ _ _ _ _ => True) (fun _ U o U' => ∃ v L, o = .returned v ∧ Q_mb_PERCENT Z  w h0 n0 v U'.heap L ∧ FrameEnd U o U' L ({ frames := 0, cells := 0, slots := 0, locals := 0 } : Room).cells ({ frames := 0, cells := 0, slots := 0, locals := 0 } : Room).slots) := by
  refine MetFree.of_bodySF (plainFor_of_name pn_0) hisR ?_
  intro p e s m args below meth c s₁ Bd hml0 hP hK
  obtain ⟨rfl, hZ, hh⟩ := hP
  have hx := Bd.exec
  have hby := Bd.bytes
  have hml : c.maxLocals = 1 := hml0
  have hown : s.vm.findClass "com/example/planwright/planwright/model/Kind" = some m.cls := findClass_of_methodNamed Bd.named
  have hnm := (name_of_methodNamed Bd.named Bd.method).1
  have X0 : Stand p l e ({ frames := 0, cells := 0, slots := 0, locals := 0 } : Room) s m #[(.ref (w 1))] below meth c s₁ [] 0 0 := Stand.of_body Bd
  have e0 : s₁.heap = h0 := by rw [← hh, Bd.state]; rfl
  have N0 := Fr.nil n0
  show oG p e below s (Q_mb_PERCENT Z  w h0 n0) ({ frames := 0, cells := 0, slots := 0, locals := 0 } : Room).cells ({ frames := 0, cells := 0, slots := 0, locals := 0 } : Room).slots _
  refine oS (fun t k => castTop (ef_1_r m (w 1)) k) ?_
  show oG _ _ _ _ _ _ _ (s₁.setTop (mkF m 0 #[.val (.ref (w 1))] []))
  refine oS (fun t k => XS.aloadN X0.here hx rfl (hb hby d1_0) rfl rfl k) ?_
  obtain ⟨T1, X1, e1, st1⟩ := getS2 X0 hx hZ hown (host := "") (Or.inl (oW hw 22 rfl)) Via.refl e0 ((wS4 W).ext O0.2) (g := (mkF m 1 #[.val (.ref (w 1))] [(.ref (w 1))])) rfl (hb hby d1_1)
  refine oS (fun t k => st1 t k) ?_
  try clear st1
  refine oS (fun t k => Jvm.RoadKit.acmp (g := (mkF m 4 #[.val (.ref (w 1))] [(.ref (w 4)), (.ref (w 1))])) X1 hx rfl rfl rfl (pc0 := 4) (pc' := 11) (same := false) rfl (hb hby d1_4) rfl (decide_eq_false fun q => (own_neI (wF1_ordinal W) (wF4_ordinal W) (by decide)) (Value.ref.inj q)) (by decide) (by decide) k) ?_
  show oG _ _ _ _ _ _ _ (T1.setTop (mkF m 11 #[.val (.ref (w 1))] []))
  refine oS (fun t k => oIc li_0 X1.here hx rfl (hb hby d1_11) k) ?_
  exact own_ret (v := some (.int 0)) X1 (fun h => by rw [Bd.returns] at h; cases h) Bd.notSynchronized (fun fs hr => retN X1 hx (t := .boolean) Bd.returns (by simp) (hb hby d1_12) hr) (by rw [e1]; exact ⟨rfl, N0, rfl⟩) (by decide) (by decide)
def Q_ty_PERCENT (Z : State)  (w : Nat → Addr) (h0 : Heap) (n0 : Nat) (v : Option Value) (h : Heap) (L : List Loc) : Prop := v = some (.ref (w 6)) ∧ Fr n0 L ∧ h = h0
set_option maxRecDepth 65536 in
set_option maxHeartbeats 40000000 in
theorem rm_ty_PERCENT (l : Launch) (Z : State) (a0 : Array Value) (hw : ∀ d ∈ tables_1, d.before a0 Z = true) (ws : List Jvm.Cond)  (w : Nat → Addr) (h0 : Heap) (n0 : Nat) (O0 : Old Z n0 h0) (W : own_World Z w) :
    MetFree l mY1 (head1 (Jvm.Cond.code mY1 prog_56_method_5_code 1 (some (.object "com/example/planwright/planwright/model/ValueType")) :: ws) ({ frames := 0, cells := 0, slots := 0, locals := 0 } : Room)) (fun a U => a = #[(.ref (w 1))] ∧ Z.Warmed39 U.vm ∧ U.heap = h0) (fun _ _ _ _ _ => True) (fun _ U o U' => ∃ v L, o = .returned v ∧ Q_ty_PERCENT Z  w h0 n0 v U'.heap L ∧ FrameEnd U o U' L ({ frames := 0, cells := 0, slots := 0, locals := 0 } : Room).cells ({ frames := 0, cells := 0, slots := 0, locals := 0 } : Room).slots) := by
  refine MetFree.of_bodySF (plainFor_of_name pn_0) hisR ?_
  intro p e s m args below meth c s₁ Bd hml0 hP hK
  obtain ⟨rfl, hZ, hh⟩ := hP
  have hx := Bd.exec
  have hby := Bd.bytes
  have hml : c.maxLocals = 1 := hml0
  have hown : s.vm.findClass "com/example/planwright/planwright/model/Kind" = some m.cls := findClass_of_methodNamed Bd.named
  have hnm := (name_of_methodNamed Bd.named Bd.method).1
  have X0 : Stand p l e ({ frames := 0, cells := 0, slots := 0, locals := 0 } : Room) s m #[(.ref (w 1))] below meth c s₁ [] 0 0 := Stand.of_body Bd
  have e0 : s₁.heap = h0 := by rw [← hh, Bd.state]; rfl
  have N0 := Fr.nil n0
  show oG p e below s (Q_ty_PERCENT Z  w h0 n0) ({ frames := 0, cells := 0, slots := 0, locals := 0 } : Room).cells ({ frames := 0, cells := 0, slots := 0, locals := 0 } : Room).slots _
  refine oS (fun t k => castTop (ef_2_r m (w 1)) k) ?_
  show oG _ _ _ _ _ _ _ (s₁.setTop (mkF m 0 #[.val (.ref (w 1))] []))
  refine oS (fun t k => XS.aloadN X0.here hx rfl (hb hby d2_0) rfl rfl k) ?_
  obtain ⟨T1, X1, e1, st1⟩ := getF X0 hx hZ hown (host := "") (Or.inl (oW hw 28 rfl)) Via.refl e0 ((wF1_type W).ext O0.2) (g := (mkF m 1 #[.val (.ref (w 1))] [(.ref (w 1))])) rfl rfl (hb hby d2_1)
  refine oS (fun t k => st1 t k) ?_
  try clear st1
  exact own_ret (v := some (.ref (w 6))) X1 (fun h => by rw [Bd.returns] at h; cases h) Bd.notSynchronized (fun fs hr => retOut X1 hx (t := (.object "com/example/planwright/planwright/model/ValueType")) Bd.returns rfl (Or.inr (Or.inr (Or.inr (Or.inr ⟨rfl, rfl, rfl⟩)))) (hb hby d2_4) hr) (by rw [e1]; exact ⟨rfl, N0, rfl⟩) (by decide) (by decide)
def Q_mb_RATIO (Z : State)  (w : Nat → Addr) (h0 : Heap) (n0 : Nat) (v : Option Value) (h : Heap) (L : List Loc) : Prop := v = some (.int 0) ∧ Fr n0 L ∧ h = h0
set_option maxRecDepth 65536 in
set_option maxHeartbeats 40000000 in
theorem rm_mb_RATIO (l : Launch) (Z : State) (a0 : Array Value) (hw : ∀ d ∈ tables_1, d.before a0 Z = true) (ws : List Jvm.Cond)  (w : Nat → Addr) (h0 : Heap) (n0 : Nat) (O0 : Old Z n0 h0) (W : own_World Z w) :
    MetFree l mY0 (head1 (Jvm.Cond.code mY0 prog_56_method_8_code 1 (some .boolean) :: ws) ({ frames := 0, cells := 0, slots := 0, locals := 0 } : Room)) (fun a U => a = #[(.ref (w 2))] ∧ Z.Warmed39 U.vm ∧ U.heap = h0) (fun _ _ _ _ _ => True) (fun _ U o U' => ∃ v L, o = .returned v ∧ Q_mb_RATIO Z  w h0 n0 v U'.heap L ∧ FrameEnd U o U' L ({ frames := 0, cells := 0, slots := 0, locals := 0 } : Room).cells ({ frames := 0, cells := 0, slots := 0, locals := 0 } : Room).slots) := by
  refine MetFree.of_bodySF (plainFor_of_name pn_0) hisR ?_
  intro p e s m args below meth c s₁ Bd hml0 hP hK
  obtain ⟨rfl, hZ, hh⟩ := hP
  have hx := Bd.exec
  have hby := Bd.bytes
  have hml : c.maxLocals = 1 := hml0
  have hown : s.vm.findClass "com/example/planwright/planwright/model/Kind" = some m.cls := findClass_of_methodNamed Bd.named
  have hnm := (name_of_methodNamed Bd.named Bd.method).1
  have X0 : Stand p l e ({ frames := 0, cells := 0, slots := 0, locals := 0 } : Room) s m #[(.ref (w 2))] below meth c s₁ [] 0 0 := Stand.of_body Bd
  have e0 : s₁.heap = h0 := by rw [← hh, Bd.state]; rfl
  have N0 := Fr.nil n0
  show oG p e below s (Q_mb_RATIO Z  w h0 n0) ({ frames := 0, cells := 0, slots := 0, locals := 0 } : Room).cells ({ frames := 0, cells := 0, slots := 0, locals := 0 } : Room).slots _
  refine oS (fun t k => castTop (ef_1_r m (w 2)) k) ?_
  show oG _ _ _ _ _ _ _ (s₁.setTop (mkF m 0 #[.val (.ref (w 2))] []))
  refine oS (fun t k => XS.aloadN X0.here hx rfl (hb hby d1_0) rfl rfl k) ?_
  obtain ⟨T1, X1, e1, st1⟩ := getS2 X0 hx hZ hown (host := "") (Or.inl (oW hw 22 rfl)) Via.refl e0 ((wS4 W).ext O0.2) (g := (mkF m 1 #[.val (.ref (w 2))] [(.ref (w 2))])) rfl (hb hby d1_1)
  refine oS (fun t k => st1 t k) ?_
  try clear st1
  refine oS (fun t k => Jvm.RoadKit.acmp (g := (mkF m 4 #[.val (.ref (w 2))] [(.ref (w 4)), (.ref (w 2))])) X1 hx rfl rfl rfl (pc0 := 4) (pc' := 11) (same := false) rfl (hb hby d1_4) rfl (decide_eq_false fun q => (own_neI (wF2_ordinal W) (wF4_ordinal W) (by decide)) (Value.ref.inj q)) (by decide) (by decide) k) ?_
  show oG _ _ _ _ _ _ _ (T1.setTop (mkF m 11 #[.val (.ref (w 2))] []))
  refine oS (fun t k => oIc li_0 X1.here hx rfl (hb hby d1_11) k) ?_
  exact own_ret (v := some (.int 0)) X1 (fun h => by rw [Bd.returns] at h; cases h) Bd.notSynchronized (fun fs hr => retN X1 hx (t := .boolean) Bd.returns (by simp) (hb hby d1_12) hr) (by rw [e1]; exact ⟨rfl, N0, rfl⟩) (by decide) (by decide)
def Q_ty_RATIO (Z : State)  (w : Nat → Addr) (h0 : Heap) (n0 : Nat) (v : Option Value) (h : Heap) (L : List Loc) : Prop := v = some (.ref (w 6)) ∧ Fr n0 L ∧ h = h0
set_option maxRecDepth 65536 in
set_option maxHeartbeats 40000000 in
theorem rm_ty_RATIO (l : Launch) (Z : State) (a0 : Array Value) (hw : ∀ d ∈ tables_1, d.before a0 Z = true) (ws : List Jvm.Cond)  (w : Nat → Addr) (h0 : Heap) (n0 : Nat) (O0 : Old Z n0 h0) (W : own_World Z w) :
    MetFree l mY1 (head1 (Jvm.Cond.code mY1 prog_56_method_5_code 1 (some (.object "com/example/planwright/planwright/model/ValueType")) :: ws) ({ frames := 0, cells := 0, slots := 0, locals := 0 } : Room)) (fun a U => a = #[(.ref (w 2))] ∧ Z.Warmed39 U.vm ∧ U.heap = h0) (fun _ _ _ _ _ => True) (fun _ U o U' => ∃ v L, o = .returned v ∧ Q_ty_RATIO Z  w h0 n0 v U'.heap L ∧ FrameEnd U o U' L ({ frames := 0, cells := 0, slots := 0, locals := 0 } : Room).cells ({ frames := 0, cells := 0, slots := 0, locals := 0 } : Room).slots) := by
  refine MetFree.of_bodySF (plainFor_of_name pn_0) hisR ?_
  intro p e s m args below meth c s₁ Bd hml0 hP hK
  obtain ⟨rfl, hZ, hh⟩ := hP
  have hx := Bd.exec
  have hby := Bd.bytes
  have hml : c.maxLocals = 1 := hml0
  have hown : s.vm.findClass "com/example/planwright/planwright/model/Kind" = some m.cls := findClass_of_methodNamed Bd.named
  have hnm := (name_of_methodNamed Bd.named Bd.method).1
  have X0 : Stand p l e ({ frames := 0, cells := 0, slots := 0, locals := 0 } : Room) s m #[(.ref (w 2))] below meth c s₁ [] 0 0 := Stand.of_body Bd
  have e0 : s₁.heap = h0 := by rw [← hh, Bd.state]; rfl
  have N0 := Fr.nil n0
  show oG p e below s (Q_ty_RATIO Z  w h0 n0) ({ frames := 0, cells := 0, slots := 0, locals := 0 } : Room).cells ({ frames := 0, cells := 0, slots := 0, locals := 0 } : Room).slots _
  refine oS (fun t k => castTop (ef_2_r m (w 2)) k) ?_
  show oG _ _ _ _ _ _ _ (s₁.setTop (mkF m 0 #[.val (.ref (w 2))] []))
  refine oS (fun t k => XS.aloadN X0.here hx rfl (hb hby d2_0) rfl rfl k) ?_
  obtain ⟨T1, X1, e1, st1⟩ := getF X0 hx hZ hown (host := "") (Or.inl (oW hw 28 rfl)) Via.refl e0 ((wF2_type W).ext O0.2) (g := (mkF m 1 #[.val (.ref (w 2))] [(.ref (w 2))])) rfl rfl (hb hby d2_1)
  refine oS (fun t k => st1 t k) ?_
  try clear st1
  exact own_ret (v := some (.ref (w 6))) X1 (fun h => by rw [Bd.returns] at h; cases h) Bd.notSynchronized (fun fs hr => retOut X1 hx (t := (.object "com/example/planwright/planwright/model/ValueType")) Bd.returns rfl (Or.inr (Or.inr (Or.inr (Or.inr ⟨rfl, rfl, rfl⟩)))) (hb hby d2_4) hr) (by rw [e1]; exact ⟨rfl, N0, rfl⟩) (by decide) (by decide)
def Q_mb_COUNT (Z : State)  (w : Nat → Addr) (h0 : Heap) (n0 : Nat) (v : Option Value) (h : Heap) (L : List Loc) : Prop := v = some (.int 0) ∧ Fr n0 L ∧ h = h0
set_option maxRecDepth 65536 in
set_option maxHeartbeats 40000000 in
theorem rm_mb_COUNT (l : Launch) (Z : State) (a0 : Array Value) (hw : ∀ d ∈ tables_1, d.before a0 Z = true) (ws : List Jvm.Cond)  (w : Nat → Addr) (h0 : Heap) (n0 : Nat) (O0 : Old Z n0 h0) (W : own_World Z w) :
    MetFree l mY0 (head1 (Jvm.Cond.code mY0 prog_56_method_8_code 1 (some .boolean) :: ws) ({ frames := 0, cells := 0, slots := 0, locals := 0 } : Room)) (fun a U => a = #[(.ref (w 3))] ∧ Z.Warmed39 U.vm ∧ U.heap = h0) (fun _ _ _ _ _ => True) (fun _ U o U' => ∃ v L, o = .returned v ∧ Q_mb_COUNT Z  w h0 n0 v U'.heap L ∧ FrameEnd U o U' L ({ frames := 0, cells := 0, slots := 0, locals := 0 } : Room).cells ({ frames := 0, cells := 0, slots := 0, locals := 0 } : Room).slots) := by
  refine MetFree.of_bodySF (plainFor_of_name pn_0) hisR ?_
  intro p e s m args below meth c s₁ Bd hml0 hP hK
  obtain ⟨rfl, hZ, hh⟩ := hP
  have hx := Bd.exec
  have hby := Bd.bytes
  have hml : c.maxLocals = 1 := hml0
  have hown : s.vm.findClass "com/example/planwright/planwright/model/Kind" = some m.cls := findClass_of_methodNamed Bd.named
  have hnm := (name_of_methodNamed Bd.named Bd.method).1
  have X0 : Stand p l e ({ frames := 0, cells := 0, slots := 0, locals := 0 } : Room) s m #[(.ref (w 3))] below meth c s₁ [] 0 0 := Stand.of_body Bd
  have e0 : s₁.heap = h0 := by rw [← hh, Bd.state]; rfl
  have N0 := Fr.nil n0
  show oG p e below s (Q_mb_COUNT Z  w h0 n0) ({ frames := 0, cells := 0, slots := 0, locals := 0 } : Room).cells ({ frames := 0, cells := 0, slots := 0, locals := 0 } : Room).slots _
  refine oS (fun t k => castTop (ef_1_r m (w 3)) k) ?_
  show oG _ _ _ _ _ _ _ (s₁.setTop (mkF m 0 #[.val (.ref (w 3))] []))
  refine oS (fun t k => XS.aloadN X0.here hx rfl (hb hby d1_0) rfl rfl k) ?_
  obtain ⟨T1, X1, e1, st1⟩ := getS2 X0 hx hZ hown (host := "") (Or.inl (oW hw 22 rfl)) Via.refl e0 ((wS4 W).ext O0.2) (g := (mkF m 1 #[.val (.ref (w 3))] [(.ref (w 3))])) rfl (hb hby d1_1)
  refine oS (fun t k => st1 t k) ?_
  try clear st1
  refine oS (fun t k => Jvm.RoadKit.acmp (g := (mkF m 4 #[.val (.ref (w 3))] [(.ref (w 4)), (.ref (w 3))])) X1 hx rfl rfl rfl (pc0 := 4) (pc' := 11) (same := false) rfl (hb hby d1_4) rfl (decide_eq_false fun q => (own_neI (wF3_ordinal W) (wF4_ordinal W) (by decide)) (Value.ref.inj q)) (by decide) (by decide) k) ?_
  show oG _ _ _ _ _ _ _ (T1.setTop (mkF m 11 #[.val (.ref (w 3))] []))
  refine oS (fun t k => oIc li_0 X1.here hx rfl (hb hby d1_11) k) ?_
  exact own_ret (v := some (.int 0)) X1 (fun h => by rw [Bd.returns] at h; cases h) Bd.notSynchronized (fun fs hr => retN X1 hx (t := .boolean) Bd.returns (by simp) (hb hby d1_12) hr) (by rw [e1]; exact ⟨rfl, N0, rfl⟩) (by decide) (by decide)
def Q_ty_COUNT (Z : State)  (w : Nat → Addr) (h0 : Heap) (n0 : Nat) (v : Option Value) (h : Heap) (L : List Loc) : Prop := v = some (.ref (w 6)) ∧ Fr n0 L ∧ h = h0
set_option maxRecDepth 65536 in
set_option maxHeartbeats 40000000 in
theorem rm_ty_COUNT (l : Launch) (Z : State) (a0 : Array Value) (hw : ∀ d ∈ tables_1, d.before a0 Z = true) (ws : List Jvm.Cond)  (w : Nat → Addr) (h0 : Heap) (n0 : Nat) (O0 : Old Z n0 h0) (W : own_World Z w) :
    MetFree l mY1 (head1 (Jvm.Cond.code mY1 prog_56_method_5_code 1 (some (.object "com/example/planwright/planwright/model/ValueType")) :: ws) ({ frames := 0, cells := 0, slots := 0, locals := 0 } : Room)) (fun a U => a = #[(.ref (w 3))] ∧ Z.Warmed39 U.vm ∧ U.heap = h0) (fun _ _ _ _ _ => True) (fun _ U o U' => ∃ v L, o = .returned v ∧ Q_ty_COUNT Z  w h0 n0 v U'.heap L ∧ FrameEnd U o U' L ({ frames := 0, cells := 0, slots := 0, locals := 0 } : Room).cells ({ frames := 0, cells := 0, slots := 0, locals := 0 } : Room).slots) := by
  refine MetFree.of_bodySF (plainFor_of_name pn_0) hisR ?_
  intro p e s m args below meth c s₁ Bd hml0 hP hK
  obtain ⟨rfl, hZ, hh⟩ := hP
  have hx := Bd.exec
  have hby := Bd.bytes
  have hml : c.maxLocals = 1 := hml0
  have hown : s.vm.findClass "com/example/planwright/planwright/model/Kind" = some m.cls := findClass_of_methodNamed Bd.named
  have hnm := (name_of_methodNamed Bd.named Bd.method).1
  have X0 : Stand p l e ({ frames := 0, cells := 0, slots := 0, locals := 0 } : Room) s m #[(.ref (w 3))] below meth c s₁ [] 0 0 := Stand.of_body Bd
  have e0 : s₁.heap = h0 := by rw [← hh, Bd.state]; rfl
  have N0 := Fr.nil n0
  show oG p e below s (Q_ty_COUNT Z  w h0 n0) ({ frames := 0, cells := 0, slots := 0, locals := 0 } : Room).cells ({ frames := 0, cells := 0, slots := 0, locals := 0 } : Room).slots _
  refine oS (fun t k => castTop (ef_2_r m (w 3)) k) ?_
  show oG _ _ _ _ _ _ _ (s₁.setTop (mkF m 0 #[.val (.ref (w 3))] []))
  refine oS (fun t k => XS.aloadN X0.here hx rfl (hb hby d2_0) rfl rfl k) ?_
  obtain ⟨T1, X1, e1, st1⟩ := getF X0 hx hZ hown (host := "") (Or.inl (oW hw 28 rfl)) Via.refl e0 ((wF3_type W).ext O0.2) (g := (mkF m 1 #[.val (.ref (w 3))] [(.ref (w 3))])) rfl rfl (hb hby d2_1)
  refine oS (fun t k => st1 t k) ?_
  try clear st1
  exact own_ret (v := some (.ref (w 6))) X1 (fun h => by rw [Bd.returns] at h; cases h) Bd.notSynchronized (fun fs hr => retOut X1 hx (t := (.object "com/example/planwright/planwright/model/ValueType")) Bd.returns rfl (Or.inr (Or.inr (Or.inr (Or.inr ⟨rfl, rfl, rfl⟩)))) (hb hby d2_4) hr) (by rw [e1]; exact ⟨rfl, N0, rfl⟩) (by decide) (by decide)
theorem d1_7 : decode prog_56_method_8_code 7 = .ok (.iconst 1, 1) := by decide +kernel
theorem li_1 : Int32.ofInt (1) = (1 : Int32) := by decide
theorem d1_8 : decode prog_56_method_8_code 8 = .ok (.goto 4, 3) := by decide +kernel
def Q_mb_Kind_DATE (Z : State)  (w : Nat → Addr) (h0 : Heap) (n0 : Nat) (v : Option Value) (h : Heap) (L : List Loc) : Prop := v = some (.int 1) ∧ Fr n0 L ∧ h = h0
set_option maxRecDepth 65536 in
set_option maxHeartbeats 40000000 in
theorem rm_mb_Kind_DATE (l : Launch) (Z : State) (a0 : Array Value) (hw : ∀ d ∈ tables_1, d.before a0 Z = true) (ws : List Jvm.Cond)  (w : Nat → Addr) (h0 : Heap) (n0 : Nat) (O0 : Old Z n0 h0) (W : own_World Z w) :
    MetFree l mY0 (head1 (Jvm.Cond.code mY0 prog_56_method_8_code 1 (some .boolean) :: ws) ({ frames := 0, cells := 0, slots := 0, locals := 0 } : Room)) (fun a U => a = #[(.ref (w 4))] ∧ Z.Warmed39 U.vm ∧ U.heap = h0) (fun _ _ _ _ _ => True) (fun _ U o U' => ∃ v L, o = .returned v ∧ Q_mb_Kind_DATE Z  w h0 n0 v U'.heap L ∧ FrameEnd U o U' L ({ frames := 0, cells := 0, slots := 0, locals := 0 } : Room).cells ({ frames := 0, cells := 0, slots := 0, locals := 0 } : Room).slots) := by
  refine MetFree.of_bodySF (plainFor_of_name pn_0) hisR ?_
  intro p e s m args below meth c s₁ Bd hml0 hP hK
  obtain ⟨rfl, hZ, hh⟩ := hP
  have hx := Bd.exec
  have hby := Bd.bytes
  have hml : c.maxLocals = 1 := hml0
  have hown : s.vm.findClass "com/example/planwright/planwright/model/Kind" = some m.cls := findClass_of_methodNamed Bd.named
  have hnm := (name_of_methodNamed Bd.named Bd.method).1
  have X0 : Stand p l e ({ frames := 0, cells := 0, slots := 0, locals := 0 } : Room) s m #[(.ref (w 4))] below meth c s₁ [] 0 0 := Stand.of_body Bd
  have e0 : s₁.heap = h0 := by rw [← hh, Bd.state]; rfl
  have N0 := Fr.nil n0
  show oG p e below s (Q_mb_Kind_DATE Z  w h0 n0) ({ frames := 0, cells := 0, slots := 0, locals := 0 } : Room).cells ({ frames := 0, cells := 0, slots := 0, locals := 0 } : Room).slots _
  refine oS (fun t k => castTop (ef_1_r m (w 4)) k) ?_
  show oG _ _ _ _ _ _ _ (s₁.setTop (mkF m 0 #[.val (.ref (w 4))] []))
  refine oS (fun t k => XS.aloadN X0.here hx rfl (hb hby d1_0) rfl rfl k) ?_
  obtain ⟨T1, X1, e1, st1⟩ := getS2 X0 hx hZ hown (host := "") (Or.inl (oW hw 22 rfl)) Via.refl e0 ((wS4 W).ext O0.2) (g := (mkF m 1 #[.val (.ref (w 4))] [(.ref (w 4))])) rfl (hb hby d1_1)
  refine oS (fun t k => st1 t k) ?_
  try clear st1
  refine oS (fun t k => Jvm.RoadKit.acmp (g := (mkF m 4 #[.val (.ref (w 4))] [(.ref (w 4)), (.ref (w 4))])) X1 hx rfl rfl rfl (pc0 := 4) (pc' := 7) (same := true) rfl (hb hby d1_4) rfl (decide_eq_true rfl) (by decide) (by decide) k) ?_
  show oG _ _ _ _ _ _ _ (T1.setTop (mkF m 7 #[.val (.ref (w 4))] []))
  refine oS (fun t k => oIc li_1 X1.here hx rfl (hb hby d1_7) k) ?_
  refine oS (fun t k => XS.goto X1.here hx rfl (pc0 := 8) (pc' := 12) rfl (hb hby d1_8) (by decide) (by decide) k) ?_
  exact own_ret (v := some (.int 1)) X1 (fun h => by rw [Bd.returns] at h; cases h) Bd.notSynchronized (fun fs hr => retN X1 hx (t := .boolean) Bd.returns (by simp) (hb hby d1_12) hr) (by rw [e1]; exact ⟨rfl, N0, rfl⟩) (by decide) (by decide)
def Q_ty_Kind_DATE (Z : State)  (w : Nat → Addr) (h0 : Heap) (n0 : Nat) (v : Option Value) (h : Heap) (L : List Loc) : Prop := v = some (.ref (w 7)) ∧ Fr n0 L ∧ h = h0
set_option maxRecDepth 65536 in
set_option maxHeartbeats 40000000 in
theorem rm_ty_Kind_DATE (l : Launch) (Z : State) (a0 : Array Value) (hw : ∀ d ∈ tables_1, d.before a0 Z = true) (ws : List Jvm.Cond)  (w : Nat → Addr) (h0 : Heap) (n0 : Nat) (O0 : Old Z n0 h0) (W : own_World Z w) :
    MetFree l mY1 (head1 (Jvm.Cond.code mY1 prog_56_method_5_code 1 (some (.object "com/example/planwright/planwright/model/ValueType")) :: ws) ({ frames := 0, cells := 0, slots := 0, locals := 0 } : Room)) (fun a U => a = #[(.ref (w 4))] ∧ Z.Warmed39 U.vm ∧ U.heap = h0) (fun _ _ _ _ _ => True) (fun _ U o U' => ∃ v L, o = .returned v ∧ Q_ty_Kind_DATE Z  w h0 n0 v U'.heap L ∧ FrameEnd U o U' L ({ frames := 0, cells := 0, slots := 0, locals := 0 } : Room).cells ({ frames := 0, cells := 0, slots := 0, locals := 0 } : Room).slots) := by
  refine MetFree.of_bodySF (plainFor_of_name pn_0) hisR ?_
  intro p e s m args below meth c s₁ Bd hml0 hP hK
  obtain ⟨rfl, hZ, hh⟩ := hP
  have hx := Bd.exec
  have hby := Bd.bytes
  have hml : c.maxLocals = 1 := hml0
  have hown : s.vm.findClass "com/example/planwright/planwright/model/Kind" = some m.cls := findClass_of_methodNamed Bd.named
  have hnm := (name_of_methodNamed Bd.named Bd.method).1
  have X0 : Stand p l e ({ frames := 0, cells := 0, slots := 0, locals := 0 } : Room) s m #[(.ref (w 4))] below meth c s₁ [] 0 0 := Stand.of_body Bd
  have e0 : s₁.heap = h0 := by rw [← hh, Bd.state]; rfl
  have N0 := Fr.nil n0
  show oG p e below s (Q_ty_Kind_DATE Z  w h0 n0) ({ frames := 0, cells := 0, slots := 0, locals := 0 } : Room).cells ({ frames := 0, cells := 0, slots := 0, locals := 0 } : Room).slots _
  refine oS (fun t k => castTop (ef_2_r m (w 4)) k) ?_
  show oG _ _ _ _ _ _ _ (s₁.setTop (mkF m 0 #[.val (.ref (w 4))] []))
  refine oS (fun t k => XS.aloadN X0.here hx rfl (hb hby d2_0) rfl rfl k) ?_
  obtain ⟨T1, X1, e1, st1⟩ := getF X0 hx hZ hown (host := "") (Or.inl (oW hw 28 rfl)) Via.refl e0 ((wF4_type W).ext O0.2) (g := (mkF m 1 #[.val (.ref (w 4))] [(.ref (w 4))])) rfl rfl (hb hby d2_1)
  refine oS (fun t k => st1 t k) ?_
  try clear st1
  exact own_ret (v := some (.ref (w 7))) X1 (fun h => by rw [Bd.returns] at h; cases h) Bd.notSynchronized (fun fs hr => retOut X1 hx (t := (.object "com/example/planwright/planwright/model/ValueType")) Bd.returns rfl (Or.inr (Or.inr (Or.inr (Or.inr ⟨rfl, rfl, rfl⟩)))) (hb hby d2_4) hr) (by rw [e1]; exact ⟨rfl, N0, rfl⟩) (by decide) (by decide)
def Q_mb_Kind_FLAG (Z : State)  (w : Nat → Addr) (h0 : Heap) (n0 : Nat) (v : Option Value) (h : Heap) (L : List Loc) : Prop := v = some (.int 0) ∧ Fr n0 L ∧ h = h0
set_option maxRecDepth 65536 in
set_option maxHeartbeats 40000000 in
theorem rm_mb_Kind_FLAG (l : Launch) (Z : State) (a0 : Array Value) (hw : ∀ d ∈ tables_1, d.before a0 Z = true) (ws : List Jvm.Cond)  (w : Nat → Addr) (h0 : Heap) (n0 : Nat) (O0 : Old Z n0 h0) (W : own_World Z w) :
    MetFree l mY0 (head1 (Jvm.Cond.code mY0 prog_56_method_8_code 1 (some .boolean) :: ws) ({ frames := 0, cells := 0, slots := 0, locals := 0 } : Room)) (fun a U => a = #[(.ref (w 5))] ∧ Z.Warmed39 U.vm ∧ U.heap = h0) (fun _ _ _ _ _ => True) (fun _ U o U' => ∃ v L, o = .returned v ∧ Q_mb_Kind_FLAG Z  w h0 n0 v U'.heap L ∧ FrameEnd U o U' L ({ frames := 0, cells := 0, slots := 0, locals := 0 } : Room).cells ({ frames := 0, cells := 0, slots := 0, locals := 0 } : Room).slots) := by
  refine MetFree.of_bodySF (plainFor_of_name pn_0) hisR ?_
  intro p e s m args below meth c s₁ Bd hml0 hP hK
  obtain ⟨rfl, hZ, hh⟩ := hP
  have hx := Bd.exec
  have hby := Bd.bytes
  have hml : c.maxLocals = 1 := hml0
  have hown : s.vm.findClass "com/example/planwright/planwright/model/Kind" = some m.cls := findClass_of_methodNamed Bd.named
  have hnm := (name_of_methodNamed Bd.named Bd.method).1
  have X0 : Stand p l e ({ frames := 0, cells := 0, slots := 0, locals := 0 } : Room) s m #[(.ref (w 5))] below meth c s₁ [] 0 0 := Stand.of_body Bd
  have e0 : s₁.heap = h0 := by rw [← hh, Bd.state]; rfl
  have N0 := Fr.nil n0
  show oG p e below s (Q_mb_Kind_FLAG Z  w h0 n0) ({ frames := 0, cells := 0, slots := 0, locals := 0 } : Room).cells ({ frames := 0, cells := 0, slots := 0, locals := 0 } : Room).slots _
  refine oS (fun t k => castTop (ef_1_r m (w 5)) k) ?_
  show oG _ _ _ _ _ _ _ (s₁.setTop (mkF m 0 #[.val (.ref (w 5))] []))
  refine oS (fun t k => XS.aloadN X0.here hx rfl (hb hby d1_0) rfl rfl k) ?_
  obtain ⟨T1, X1, e1, st1⟩ := getS2 X0 hx hZ hown (host := "") (Or.inl (oW hw 22 rfl)) Via.refl e0 ((wS4 W).ext O0.2) (g := (mkF m 1 #[.val (.ref (w 5))] [(.ref (w 5))])) rfl (hb hby d1_1)
  refine oS (fun t k => st1 t k) ?_
  try clear st1
  refine oS (fun t k => Jvm.RoadKit.acmp (g := (mkF m 4 #[.val (.ref (w 5))] [(.ref (w 4)), (.ref (w 5))])) X1 hx rfl rfl rfl (pc0 := 4) (pc' := 11) (same := false) rfl (hb hby d1_4) rfl (decide_eq_false fun q => (own_neI (wF5_ordinal W) (wF4_ordinal W) (by decide)) (Value.ref.inj q)) (by decide) (by decide) k) ?_
  show oG _ _ _ _ _ _ _ (T1.setTop (mkF m 11 #[.val (.ref (w 5))] []))
  refine oS (fun t k => oIc li_0 X1.here hx rfl (hb hby d1_11) k) ?_
  exact own_ret (v := some (.int 0)) X1 (fun h => by rw [Bd.returns] at h; cases h) Bd.notSynchronized (fun fs hr => retN X1 hx (t := .boolean) Bd.returns (by simp) (hb hby d1_12) hr) (by rw [e1]; exact ⟨rfl, N0, rfl⟩) (by decide) (by decide)
def Q_ty_Kind_FLAG (Z : State)  (w : Nat → Addr) (h0 : Heap) (n0 : Nat) (v : Option Value) (h : Heap) (L : List Loc) : Prop := v = some (.ref (w 8)) ∧ Fr n0 L ∧ h = h0
set_option maxRecDepth 65536 in
set_option maxHeartbeats 40000000 in
theorem rm_ty_Kind_FLAG (l : Launch) (Z : State) (a0 : Array Value) (hw : ∀ d ∈ tables_1, d.before a0 Z = true) (ws : List Jvm.Cond)  (w : Nat → Addr) (h0 : Heap) (n0 : Nat) (O0 : Old Z n0 h0) (W : own_World Z w) :
    MetFree l mY1 (head1 (Jvm.Cond.code mY1 prog_56_method_5_code 1 (some (.object "com/example/planwright/planwright/model/ValueType")) :: ws) ({ frames := 0, cells := 0, slots := 0, locals := 0 } : Room)) (fun a U => a = #[(.ref (w 5))] ∧ Z.Warmed39 U.vm ∧ U.heap = h0) (fun _ _ _ _ _ => True) (fun _ U o U' => ∃ v L, o = .returned v ∧ Q_ty_Kind_FLAG Z  w h0 n0 v U'.heap L ∧ FrameEnd U o U' L ({ frames := 0, cells := 0, slots := 0, locals := 0 } : Room).cells ({ frames := 0, cells := 0, slots := 0, locals := 0 } : Room).slots) := by
  refine MetFree.of_bodySF (plainFor_of_name pn_0) hisR ?_
  intro p e s m args below meth c s₁ Bd hml0 hP hK
  obtain ⟨rfl, hZ, hh⟩ := hP
  have hx := Bd.exec
  have hby := Bd.bytes
  have hml : c.maxLocals = 1 := hml0
  have hown : s.vm.findClass "com/example/planwright/planwright/model/Kind" = some m.cls := findClass_of_methodNamed Bd.named
  have hnm := (name_of_methodNamed Bd.named Bd.method).1
  have X0 : Stand p l e ({ frames := 0, cells := 0, slots := 0, locals := 0 } : Room) s m #[(.ref (w 5))] below meth c s₁ [] 0 0 := Stand.of_body Bd
  have e0 : s₁.heap = h0 := by rw [← hh, Bd.state]; rfl
  have N0 := Fr.nil n0
  show oG p e below s (Q_ty_Kind_FLAG Z  w h0 n0) ({ frames := 0, cells := 0, slots := 0, locals := 0 } : Room).cells ({ frames := 0, cells := 0, slots := 0, locals := 0 } : Room).slots _
  refine oS (fun t k => castTop (ef_2_r m (w 5)) k) ?_
  show oG _ _ _ _ _ _ _ (s₁.setTop (mkF m 0 #[.val (.ref (w 5))] []))
  refine oS (fun t k => XS.aloadN X0.here hx rfl (hb hby d2_0) rfl rfl k) ?_
  obtain ⟨T1, X1, e1, st1⟩ := getF X0 hx hZ hown (host := "") (Or.inl (oW hw 28 rfl)) Via.refl e0 ((wF5_type W).ext O0.2) (g := (mkF m 1 #[.val (.ref (w 5))] [(.ref (w 5))])) rfl rfl (hb hby d2_1)
  refine oS (fun t k => st1 t k) ?_
  try clear st1
  exact own_ret (v := some (.ref (w 8))) X1 (fun h => by rw [Bd.returns] at h; cases h) Bd.notSynchronized (fun fs hr => retOut X1 hx (t := (.object "com/example/planwright/planwright/model/ValueType")) Bd.returns rfl (Or.inr (Or.inr (Or.inr (Or.inr ⟨rfl, rfl, rfl⟩)))) (hb hby d2_4) hr) (by rw [e1]; exact ⟨rfl, N0, rfl⟩) (by decide) (by decide)
theorem d10_0 : decode jdk_37_method_2_code 0 = .ok (.aload_n 0, 1) := by decide +kernel
theorem d10_1 : decode jdk_37_method_2_code 1 = .ok (.getfield 7, 3) := by decide +kernel
theorem d10_4 : decode jdk_37_method_2_code 4 = .ok (.ireturn, 1) := by decide +kernel
abbrev mY2 : MethodName := (⟨"java/lang/Enum", "ordinal", "()I"⟩ : MethodName)
theorem ef_10_r (m : MethodId) (x0 : Addr) : entryFrame m #[(.ref x0)] 1 = mkF m 0 #[.val (.ref x0)] [] := by first | (simp [entryFrame, mkF, argsToLocals, Value.category]; done) | rfl
theorem pn_1 : plainName "java/lang/Enum" = true := by first | (simp [plainName, overriddenIn]; done) | decide +kernel
def Q_ord (Z : State)  (w : Nat → Addr) (h0 : Heap) (n0 : Nat) (v : Option Value) (h : Heap) (L : List Loc) : Prop := v = some (.int 4) ∧ Fr n0 L ∧ h = h0
set_option maxRecDepth 65536 in
set_option maxHeartbeats 40000000 in
theorem rm_ord (l : Launch) (Z : State) (a0 : Array Value) (hw : ∀ d ∈ tables_1, d.before a0 Z = true) (ws : List Jvm.Cond)  (w : Nat → Addr) (h0 : Heap) (n0 : Nat) (O0 : Old Z n0 h0) (W : own_World Z w) :
    MetFree l mY2 (head1 (Jvm.Cond.code mY2 jdk_37_method_2_code 1 (some .int) :: ws) ({ frames := 0, cells := 0, slots := 0, locals := 0 } : Room)) (fun a U => a = #[(.ref (w 4))] ∧ Z.Warmed39 U.vm ∧ U.heap = h0) (fun _ _ _ _ _ => True) (fun _ U o U' => ∃ v L, o = .returned v ∧ Q_ord Z  w h0 n0 v U'.heap L ∧ FrameEnd U o U' L ({ frames := 0, cells := 0, slots := 0, locals := 0 } : Room).cells ({ frames := 0, cells := 0, slots := 0, locals := 0 } : Room).slots) := by
  refine MetFree.of_bodySF (plainFor_of_name pn_1) hisR ?_
  intro p e s m args below meth c s₁ Bd hml0 hP hK
  obtain ⟨rfl, hZ, hh⟩ := hP
  have hx := Bd.exec
  have hby := Bd.bytes
  have hml : c.maxLocals = 1 := hml0
  have hown : s.vm.findClass "java/lang/Enum" = some m.cls := findClass_of_methodNamed Bd.named
  have hnm := (name_of_methodNamed Bd.named Bd.method).1
  have X0 : Stand p l e ({ frames := 0, cells := 0, slots := 0, locals := 0 } : Room) s m #[(.ref (w 4))] below meth c s₁ [] 0 0 := Stand.of_body Bd
  have e0 : s₁.heap = h0 := by rw [← hh, Bd.state]; rfl
  have N0 := Fr.nil n0
  show oG p e below s (Q_ord Z  w h0 n0) ({ frames := 0, cells := 0, slots := 0, locals := 0 } : Room).cells ({ frames := 0, cells := 0, slots := 0, locals := 0 } : Room).slots _
  refine oS (fun t k => castTop (ef_10_r m (w 4)) k) ?_
  show oG _ _ _ _ _ _ _ (s₁.setTop (mkF m 0 #[.val (.ref (w 4))] []))
  refine oS (fun t k => XS.aloadN X0.here hx rfl (hb hby d10_0) rfl rfl k) ?_
  obtain ⟨T1, X1, e1, st1⟩ := getF X0 hx hZ hown (host := "") (Or.inl (oW hw 87 rfl)) Via.refl e0 ((wF4_ordinal W).ext O0.2) (g := (mkF m 1 #[.val (.ref (w 4))] [(.ref (w 4))])) rfl rfl (hb hby d10_1)
  refine oS (fun t k => st1 t k) ?_
  try clear st1
  exact own_ret (v := some (.int 4)) X1 (fun h => by rw [Bd.returns] at h; cases h) Bd.notSynchronized (fun fs hr => retOut X1 hx (t := .int) Bd.returns rfl (Or.inl ⟨rfl, Or.inl rfl, _, rfl⟩) (hb hby d10_4) hr) (by rw [e1]; exact ⟨rfl, N0, rfl⟩) (by decide) (by decide)
theorem d5_0 : decode jdk_42_method_152_code 0 = .ok (.getstatic 38, 3) := by decide +kernel
theorem d5_3 : decode jdk_42_method_152_code 3 = .ok (.ifCond .eq 10, 3) := by decide +kernel
theorem d5_6 : decode jdk_42_method_152_code 6 = .ok (.aload_n 0, 1) := by decide +kernel
theorem d5_7 : decode jdk_42_method_152_code 7 = .ok (.getfield 15, 3) := by decide +kernel
theorem d5_10 : decode jdk_42_method_152_code 10 = .ok (.goto 4, 3) := by decide +kernel
theorem d5_14 : decode jdk_42_method_152_code 14 = .ok (.ireturn, 1) := by decide +kernel
abbrev mY3 : MethodName := (⟨"java/lang/String", "coder", "()B"⟩ : MethodName)
theorem ef_5_r (m : MethodId) (x0 : Addr) : entryFrame m #[(.ref x0)] 1 = mkF m 0 #[.val (.ref x0)] [] := by first | (simp [entryFrame, mkF, argsToLocals, Value.category]; done) | rfl
theorem pn_2 : plainName "java/lang/String" = true := by first | (simp [plainName, overriddenIn]; done) | decide +kernel
def Q_coder (Z : State) (a1 : Addr) (cs : Int32) (h0 : Heap) (n0 : Nat) (v : Option Value) (h : Heap) (L : List Loc) : Prop := v = some (.int 0) ∧ Fr n0 L ∧ h = h0
set_option maxRecDepth 65536 in
set_option maxHeartbeats 40000000 in
theorem rm_coder (l : Launch) (Z : State) (a0 : Array Value) (hw : ∀ d ∈ tables_1, d.before a0 Z = true) (ws : List Jvm.Cond) (a1 : Addr) (cs : Int32) (h0 : Heap) (n0 : Nat) (O0 : Old Z n0 h0) (F_c : Fld Z h0 a1 "java/lang/String" "coder" "B" (.int 0)) (S_cs : Sta Z Z.heap "java/lang/String" "COMPACT_STRINGS" "Z" (.int cs)) (hcs : ¬ (cs = (0 : Int32))) :
    MetFree l mY3 (head1 (Jvm.Cond.code mY3 jdk_42_method_152_code 1 (some .byte) :: ws) ({ frames := 0, cells := 0, slots := 0, locals := 0 } : Room)) (fun a U => a = #[(.ref a1)] ∧ Z.Warmed39 U.vm ∧ U.heap = h0) (fun _ _ _ _ _ => True) (fun _ U o U' => ∃ v L, o = .returned v ∧ Q_coder Z a1 cs h0 n0 v U'.heap L ∧ FrameEnd U o U' L ({ frames := 0, cells := 0, slots := 0, locals := 0 } : Room).cells ({ frames := 0, cells := 0, slots := 0, locals := 0 } : Room).slots) := by
  refine MetFree.of_bodySF (plainFor_of_name pn_2) hisR ?_
  intro p e s m args below meth c s₁ Bd hml0 hP hK
  obtain ⟨rfl, hZ, hh⟩ := hP
  have hx := Bd.exec
  have hby := Bd.bytes
  have hml : c.maxLocals = 1 := hml0
  have hown : s.vm.findClass "java/lang/String" = some m.cls := findClass_of_methodNamed Bd.named
  have hnm := (name_of_methodNamed Bd.named Bd.method).1
  have X0 : Stand p l e ({ frames := 0, cells := 0, slots := 0, locals := 0 } : Room) s m #[(.ref a1)] below meth c s₁ [] 0 0 := Stand.of_body Bd
  have e0 : s₁.heap = h0 := by rw [← hh, Bd.state]; rfl
  have N0 := Fr.nil n0
  show oG p e below s (Q_coder Z a1 cs h0 n0) ({ frames := 0, cells := 0, slots := 0, locals := 0 } : Room).cells ({ frames := 0, cells := 0, slots := 0, locals := 0 } : Room).slots _
  refine oS (fun t k => castTop (ef_5_r m a1) k) ?_
  show oG _ _ _ _ _ _ _ (s₁.setTop (mkF m 0 #[.val (.ref a1)] []))
  obtain ⟨T1, X1, e1, st1⟩ := getS2 X0 hx hZ hown (host := "") (Or.inl (oW hw 59 rfl)) Via.refl e0 (S_cs.ext O0.2) (g := (mkF m 0 #[.val (.ref a1)] [])) rfl (hb hby d5_0)
  refine oS (fun t k => st1 t k) ?_
  try clear st1
  refine oS (fun t k => XS.ifNo X1.here hx rfl (hb hby d5_3) rfl ((if0 _ _).trans (feq hcs).1) k) ?_
  refine oS (fun t k => XS.aloadN X1.here hx rfl (hb hby d5_6) rfl rfl k) ?_
  show oG _ _ _ _ _ _ _ (T1.setTop (mkF m 7 #[.val (.ref a1)] [(.ref a1)]))
  obtain ⟨T2, X2, e2, st2⟩ := getF X1 hx hZ hown (host := "") (Or.inl (oW hw 60 rfl)) Via.refl e1 F_c (g := (mkF m 7 #[.val (.ref a1)] [(.ref a1)])) rfl rfl (hb hby d5_7)
  refine oS (fun t k => st2 t k) ?_
  try clear st2 X1 e1
  try clear T1
  refine oS (fun t k => XS.goto X2.here hx rfl (pc0 := 10) (pc' := 14) rfl (hb hby d5_10) (by decide) (by decide) k) ?_
  exact own_ret (v := some (.int 0)) X2 (fun h => by rw [Bd.returns] at h; cases h) Bd.notSynchronized (fun fs hr => retN X2 hx (t := .byte) Bd.returns (by simp) (hb hby d5_14) hr) (by rw [e2]; exact ⟨rfl, N0, rfl⟩) (by decide) (by decide)
theorem d9_0 : decode jdk_42_method_154_code 0 = .ok (.getstatic 38, 3) := by decide +kernel
theorem d9_3 : decode jdk_42_method_154_code 3 = .ok (.ifCond .eq 14, 3) := by decide +kernel
theorem d9_6 : decode jdk_42_method_154_code 6 = .ok (.aload_n 0, 1) := by decide +kernel
theorem d9_7 : decode jdk_42_method_154_code 7 = .ok (.getfield 15, 3) := by decide +kernel
theorem d9_10 : decode jdk_42_method_154_code 10 = .ok (.ifCond .ne 7, 3) := by decide +kernel
theorem d9_13 : decode jdk_42_method_154_code 13 = .ok (.iconst 1, 1) := by decide +kernel
theorem d9_14 : decode jdk_42_method_154_code 14 = .ok (.goto 4, 3) := by decide +kernel
theorem d9_18 : decode jdk_42_method_154_code 18 = .ok (.ireturn, 1) := by decide +kernel
abbrev mY4 : MethodName := (⟨"java/lang/String", "isLatin1", "()Z"⟩ : MethodName)
theorem ef_9_r (m : MethodId) (x0 : Addr) : entryFrame m #[(.ref x0)] 1 = mkF m 0 #[.val (.ref x0)] [] := by first | (simp [entryFrame, mkF, argsToLocals, Value.category]; done) | rfl
def Q_lat (Z : State) (a1 : Addr) (cs : Int32) (h0 : Heap) (n0 : Nat) (v : Option Value) (h : Heap) (L : List Loc) : Prop := v = some (.int 1) ∧ Fr n0 L ∧ h = h0
set_option maxRecDepth 65536 in
set_option maxHeartbeats 40000000 in
theorem rm_lat (l : Launch) (Z : State) (a0 : Array Value) (hw : ∀ d ∈ tables_1, d.before a0 Z = true) (ws : List Jvm.Cond) (a1 : Addr) (cs : Int32) (h0 : Heap) (n0 : Nat) (O0 : Old Z n0 h0) (F_c : Fld Z h0 a1 "java/lang/String" "coder" "B" (.int 0)) (S_cs : Sta Z Z.heap "java/lang/String" "COMPACT_STRINGS" "Z" (.int cs)) (hcs : ¬ (cs = (0 : Int32))) :
    MetFree l mY4 (head1 (Jvm.Cond.code mY4 jdk_42_method_154_code 1 (some .boolean) :: ws) ({ frames := 0, cells := 0, slots := 0, locals := 0 } : Room)) (fun a U => a = #[(.ref a1)] ∧ Z.Warmed39 U.vm ∧ U.heap = h0) (fun _ _ _ _ _ => True) (fun _ U o U' => ∃ v L, o = .returned v ∧ Q_lat Z a1 cs h0 n0 v U'.heap L ∧ FrameEnd U o U' L ({ frames := 0, cells := 0, slots := 0, locals := 0 } : Room).cells ({ frames := 0, cells := 0, slots := 0, locals := 0 } : Room).slots) := by
  refine MetFree.of_bodySF (plainFor_of_name pn_2) hisR ?_
  intro p e s m args below meth c s₁ Bd hml0 hP hK
  obtain ⟨rfl, hZ, hh⟩ := hP
  have hx := Bd.exec
  have hby := Bd.bytes
  have hml : c.maxLocals = 1 := hml0
  have hown : s.vm.findClass "java/lang/String" = some m.cls := findClass_of_methodNamed Bd.named
  have hnm := (name_of_methodNamed Bd.named Bd.method).1
  have X0 : Stand p l e ({ frames := 0, cells := 0, slots := 0, locals := 0 } : Room) s m #[(.ref a1)] below meth c s₁ [] 0 0 := Stand.of_body Bd
  have e0 : s₁.heap = h0 := by rw [← hh, Bd.state]; rfl
  have N0 := Fr.nil n0
  show oG p e below s (Q_lat Z a1 cs h0 n0) ({ frames := 0, cells := 0, slots := 0, locals := 0 } : Room).cells ({ frames := 0, cells := 0, slots := 0, locals := 0 } : Room).slots _
  refine oS (fun t k => castTop (ef_9_r m a1) k) ?_
  show oG _ _ _ _ _ _ _ (s₁.setTop (mkF m 0 #[.val (.ref a1)] []))
  obtain ⟨T1, X1, e1, st1⟩ := getS2 X0 hx hZ hown (host := "") (Or.inl (oW hw 59 rfl)) Via.refl e0 (S_cs.ext O0.2) (g := (mkF m 0 #[.val (.ref a1)] [])) rfl (hb hby d9_0)
  refine oS (fun t k => st1 t k) ?_
  try clear st1
  refine oS (fun t k => XS.ifNo X1.here hx rfl (hb hby d9_3) rfl ((if0 _ _).trans (feq hcs).1) k) ?_
  refine oS (fun t k => XS.aloadN X1.here hx rfl (hb hby d9_6) rfl rfl k) ?_
  show oG _ _ _ _ _ _ _ (T1.setTop (mkF m 7 #[.val (.ref a1)] [(.ref a1)]))
  obtain ⟨T2, X2, e2, st2⟩ := getF X1 hx hZ hown (host := "") (Or.inl (oW hw 60 rfl)) Via.refl e1 F_c (g := (mkF m 7 #[.val (.ref a1)] [(.ref a1)])) rfl rfl (hb hby d9_7)
  refine oS (fun t k => st2 t k) ?_
  try clear st2 X1 e1
  try clear T1
  refine oS (fun t k => XS.ifNo X2.here hx rfl (hb hby d9_10) rfl ((if0 _ _).trans (teq (by decide)).2) k) ?_
  refine oS (fun t k => oIc li_1 X2.here hx rfl (hb hby d9_13) k) ?_
  show oG _ _ _ _ _ _ _ (T2.setTop (mkF m 14 #[.val (.ref a1)] [(.int 1)]))
  refine oS (fun t k => XS.goto X2.here hx rfl (pc0 := 14) (pc' := 18) rfl (hb hby d9_14) (by decide) (by decide) k) ?_
  exact own_ret (v := some (.int 1)) X2 (fun h => by rw [Bd.returns] at h; cases h) Bd.notSynchronized (fun fs hr => retN X2 hx (t := .boolean) Bd.returns (by simp) (hb hby d9_18) hr) (by rw [e2]; exact ⟨rfl, N0, rfl⟩) (by decide) (by decide)
theorem d4_0 : decode jdk_42_method_54_code 0 = .ok (.aload_n 0, 1) := by decide +kernel
theorem d4_1 : decode jdk_42_method_54_code 1 = .ok (.getfield 9, 3) := by decide +kernel
theorem d4_4 : decode jdk_42_method_54_code 4 = .ok (.arraylength, 1) := by decide +kernel
theorem d4_5 : decode jdk_42_method_54_code 5 = .ok (.aload_n 0, 1) := by decide +kernel
theorem d4_6 : decode jdk_42_method_54_code 6 = .ok (.invokevirtual 335, 3) := by decide +kernel
theorem pd_0 : parseMethodDescriptor "()B" = some ⟨[], some .byte⟩ := by decide +kernel
theorem d4_9 : decode jdk_42_method_54_code 9 = .ok (.ishr, 1) := by decide +kernel
theorem d4_10 : decode jdk_42_method_54_code 10 = .ok (.ireturn, 1) := by decide +kernel
abbrev mY5 : MethodName := (⟨"java/lang/String", "length", "()I"⟩ : MethodName)
theorem ef_4_r (m : MethodId) (x0 : Addr) : entryFrame m #[(.ref x0)] 1 = mkF m 0 #[.val (.ref x0)] [] := by first | (simp [entryFrame, mkF, argsToLocals, Value.category]; done) | rfl
def Q_len (Z : State) (a1 : Addr) (a2 : Addr) (k2 : ClassId) (cs : Int32) (h0 : Heap) (n0 : Nat) (v : Option Value) (h : Heap) (L : List Loc) : Prop := v = some (.int 0) ∧ Fr n0 L ∧ h = h0
set_option maxRecDepth 65536 in
set_option maxHeartbeats 40000000 in
theorem rm_len (l : Launch) (Z : State) (a0 : Array Value) (hw : ∀ d ∈ tables_1, d.before a0 Z = true) (ws : List Jvm.Cond) (a1 : Addr) (a2 : Addr) (k2 : ClassId) (cs : Int32) (h0 : Heap) (n0 : Nat) (O0 : Old Z n0 h0) (E_a1 : Exa Z h0 a1 "java/lang/String") (F_c : Fld Z h0 a1 "java/lang/String" "coder" "B" (.int 0)) (F_v : Fld Z h0 a1 "java/lang/String" "value" "[B" (.ref a2)) (V_a2 : Arv Z h0 a2 k2 .byte (0 : Int32) [] (.int 0)) (S_cs : Sta Z Z.heap "java/lang/String" "COMPACT_STRINGS" "Z" (.int cs)) (hcs : ¬ (cs = (0 : Int32))) :
    MetFree l mY5 (head1 (Jvm.Cond.code mY5 jdk_42_method_54_code 1 (some .int) :: ws) ({ frames := 1, cells := 0, slots := 0, locals := 13 } : Room)) (fun a U => a = #[(.ref a1)] ∧ Z.Warmed39 U.vm ∧ U.heap = h0) (fun _ _ _ _ _ => True) (fun _ U o U' => ∃ v L, o = .returned v ∧ Q_len Z a1 a2 k2 cs h0 n0 v U'.heap L ∧ FrameEnd U o U' L ({ frames := 1, cells := 0, slots := 0, locals := 13 } : Room).cells ({ frames := 1, cells := 0, slots := 0, locals := 13 } : Room).slots) := by
  refine MetFree.of_bodySF (plainFor_of_name pn_2) hisR ?_
  intro p e s m args below meth c s₁ Bd hml0 hP hK
  obtain ⟨rfl, hZ, hh⟩ := hP
  have hx := Bd.exec
  have hby := Bd.bytes
  have hml : c.maxLocals = 1 := hml0
  have hown : s.vm.findClass "java/lang/String" = some m.cls := findClass_of_methodNamed Bd.named
  have hnm := (name_of_methodNamed Bd.named Bd.method).1
  have X0 : Stand p l e ({ frames := 1, cells := 0, slots := 0, locals := 13 } : Room) s m #[(.ref a1)] below meth c s₁ [] 0 0 := Stand.of_body Bd
  have e0 : s₁.heap = h0 := by rw [← hh, Bd.state]; rfl
  have N0 := Fr.nil n0
  show oG p e below s (Q_len Z a1 a2 k2 cs h0 n0) ({ frames := 1, cells := 0, slots := 0, locals := 13 } : Room).cells ({ frames := 1, cells := 0, slots := 0, locals := 13 } : Room).slots _
  refine oS (fun t k => castTop (ef_4_r m a1) k) ?_
  show oG _ _ _ _ _ _ _ (s₁.setTop (mkF m 0 #[.val (.ref a1)] []))
  refine oS (fun t k => XS.aloadN X0.here hx rfl (hb hby d4_0) rfl rfl k) ?_
  obtain ⟨T1, X1, e1, st1⟩ := getF X0 hx hZ hown (host := "") (Or.inl (oW hw 53 rfl)) Via.refl e0 F_v (g := (mkF m 1 #[.val (.ref a1)] [(.ref a1)])) rfl rfl (hb hby d4_1)
  refine oS (fun t k => st1 t k) ?_
  try clear st1
  obtain ⟨cl2, Ar2, -, Sz2, Ng2, -, -⟩ := id V_a2
  refine oS (S' := (T1.setTop (mkF m 5 #[.val (.ref a1)] [(.int 0)]))) (fun t k => X1.arraylength hx (by rw [e1]; exact Ar2.1) (State.isArrayOf_alike hZ.alike Ar2.2.1) (g := (mkF m 4 #[.val (.ref a1)] [(.ref a2)])) rfl rfl (hb hby d4_4) t (by rw [len_of Sz2 Ng2]; exact k)) ?_
  refine oS (fun t k => XS.aloadN X1.here hx rfl (hb hby d4_5) rfl rfl k) ?_
  obtain ⟨cq3, kq3, q3a, q3b, q3c⟩ := isOf hZ e1 E_a1
  obtain ⟨_, _, ⟨T3, L3, k3, n3⟩, -, X3, ⟨Lc3, hQ3, l3, y3, z3⟩, st3⟩ := X1.virtualBack hx (y := mY3) (z := mY3) hown (mvT hZ (oW hw 54 rfl)) (mvT hZ (oW hw 55 rfl)) (notFace_of_selects (args := #[]) (mvT hZ (oW hw 57 rfl))) (mvT hZ (oW hw 57 rfl)) (mvT hZ (oW hw 56 rfl)) (by decide) (backOf (W := 1) (rm_coder l Z a0 hw [] a1 cs  h0 n0 O0  F_c S_cs hcs) hZ (oW hw 58 rfl) (oW hw 36 rfl) (by decide) (by decide)) q3a q3c (g := (mkF m 6 #[.val (.ref a1)] [(.ref a1), (.int 0)])) rfl (by rw [hml]; rfl) (Steps.refl _) (argsL := []) (rest := [(.int 0)]) (lenOf pd_0 rfl) rfl (by show 2 * 0 + _ ≤ _; exact Nat.le_of_eq rfl) (hb hby d4_6) (fun _ _ => ⟨rfl, e1, (by decide : 0 + 0 ≤ _), (by decide : 0 + 0 ≤ _)⟩)
  dsimp only [Pt.U, Pt.locs, Pt.cells, Pt.slots] at X3 l3 y3 z3 st3 hQ3
  subst l3 y3 z3
  obtain ⟨rfl, Nq3, e3⟩ := hQ3
  have N3 := Fr.app N0 Nq3
  refine oS (fun t k => st3.trans k) ?_
  show oG _ _ _ _ _ _ _ (T3.setTop (mkF m 9 #[.val (.ref a1)] [(.int 0), (.int 0)]))
  try clear st3 X1 e1
  try clear T1
  refine oS (S' := (T3.setTop (mkF m 10 #[.val (.ref a1)] [(.int 0)]))) (fun t k => XS.ishr X3.here hx rfl (hb hby d4_9) rfl (by rw [show ((0 : Int32) >>> ((0 : Int32) &&& 31)) = (0 : Int32) from by decide]; exact k)) ?_
  exact own_ret (v := some (.int 0)) X3 (fun h => by rw [Bd.returns] at h; cases h) Bd.notSynchronized (fun fs hr => retOut X3 hx (t := .int) Bd.returns rfl (Or.inl ⟨rfl, Or.inl rfl, _, rfl⟩) (hb hby d4_10) hr) (by rw [e3]; exact ⟨rfl, N3, rfl⟩) (by decide) (by decide)
theorem d11_0 : decode jdk_42_method_55_code 0 = .ok (.aload_n 0, 1) := by decide +kernel
theorem d11_1 : decode jdk_42_method_55_code 1 = .ok (.getfield 9, 3) := by decide +kernel
theorem d11_4 : decode jdk_42_method_55_code 4 = .ok (.arraylength, 1) := by decide +kernel
theorem d11_5 : decode jdk_42_method_55_code 5 = .ok (.ifCond .ne 7, 3) := by decide +kernel
theorem d11_8 : decode jdk_42_method_55_code 8 = .ok (.iconst 1, 1) := by decide +kernel
theorem d11_9 : decode jdk_42_method_55_code 9 = .ok (.goto 4, 3) := by decide +kernel
theorem d11_13 : decode jdk_42_method_55_code 13 = .ok (.ireturn, 1) := by decide +kernel
abbrev mY6 : MethodName := (⟨"java/lang/String", "isEmpty", "()Z"⟩ : MethodName)
theorem ef_11_r (m : MethodId) (x0 : Addr) : entryFrame m #[(.ref x0)] 1 = mkF m 0 #[.val (.ref x0)] [] := by first | (simp [entryFrame, mkF, argsToLocals, Value.category]; done) | rfl
def Q_emp (Z : State) (a1 : Addr) (a2 : Addr) (k2 : ClassId) (h0 : Heap) (n0 : Nat) (v : Option Value) (h : Heap) (L : List Loc) : Prop := v = some (.int 1) ∧ Fr n0 L ∧ h = h0
set_option maxRecDepth 65536 in
set_option maxHeartbeats 40000000 in
theorem rm_emp (l : Launch) (Z : State) (a0 : Array Value) (hw : ∀ d ∈ tables_1, d.before a0 Z = true) (ws : List Jvm.Cond) (a1 : Addr) (a2 : Addr) (k2 : ClassId) (h0 : Heap) (n0 : Nat) (O0 : Old Z n0 h0) (F_v : Fld Z h0 a1 "java/lang/String" "value" "[B" (.ref a2)) (V_a2 : Arv Z h0 a2 k2 .byte (0 : Int32) [] (.int 0)) :
    MetFree l mY6 (head1 (Jvm.Cond.code mY6 jdk_42_method_55_code 1 (some .boolean) :: ws) ({ frames := 0, cells := 0, slots := 0, locals := 0 } : Room)) (fun a U => a = #[(.ref a1)] ∧ Z.Warmed39 U.vm ∧ U.heap = h0) (fun _ _ _ _ _ => True) (fun _ U o U' => ∃ v L, o = .returned v ∧ Q_emp Z a1 a2 k2 h0 n0 v U'.heap L ∧ FrameEnd U o U' L ({ frames := 0, cells := 0, slots := 0, locals := 0 } : Room).cells ({ frames := 0, cells := 0, slots := 0, locals := 0 } : Room).slots) := by
  refine MetFree.of_bodySF (plainFor_of_name pn_2) hisR ?_
  intro p e s m args below meth c s₁ Bd hml0 hP hK
  obtain ⟨rfl, hZ, hh⟩ := hP
  have hx := Bd.exec
  have hby := Bd.bytes
  have hml : c.maxLocals = 1 := hml0
  have hown : s.vm.findClass "java/lang/String" = some m.cls := findClass_of_methodNamed Bd.named
  have hnm := (name_of_methodNamed Bd.named Bd.method).1
  have X0 : Stand p l e ({ frames := 0, cells := 0, slots := 0, locals := 0 } : Room) s m #[(.ref a1)] below meth c s₁ [] 0 0 := Stand.of_body Bd
  have e0 : s₁.heap = h0 := by rw [← hh, Bd.state]; rfl
  have N0 := Fr.nil n0
  show oG p e below s (Q_emp Z a1 a2 k2 h0 n0) ({ frames := 0, cells := 0, slots := 0, locals := 0 } : Room).cells ({ frames := 0, cells := 0, slots := 0, locals := 0 } : Room).slots _
  refine oS (fun t k => castTop (ef_11_r m a1) k) ?_
  show oG _ _ _ _ _ _ _ (s₁.setTop (mkF m 0 #[.val (.ref a1)] []))
  refine oS (fun t k => XS.aloadN X0.here hx rfl (hb hby d11_0) rfl rfl k) ?_
  obtain ⟨T1, X1, e1, st1⟩ := getF X0 hx hZ hown (host := "") (Or.inl (oW hw 53 rfl)) Via.refl e0 F_v (g := (mkF m 1 #[.val (.ref a1)] [(.ref a1)])) rfl rfl (hb hby d11_1)
  refine oS (fun t k => st1 t k) ?_
  try clear st1
  obtain ⟨cl2, Ar2, -, Sz2, Ng2, -, -⟩ := id V_a2
  refine oS (S' := (T1.setTop (mkF m 5 #[.val (.ref a1)] [(.int 0)]))) (fun t k => X1.arraylength hx (by rw [e1]; exact Ar2.1) (State.isArrayOf_alike hZ.alike Ar2.2.1) (g := (mkF m 4 #[.val (.ref a1)] [(.ref a2)])) rfl rfl (hb hby d11_4) t (by rw [len_of Sz2 Ng2]; exact k)) ?_
  refine oS (fun t k => XS.ifNo X1.here hx rfl (hb hby d11_5) rfl ((if0 _ _).trans (teq (by decide)).2) k) ?_
  refine oS (fun t k => oIc li_1 X1.here hx rfl (hb hby d11_8) k) ?_
  refine oS (fun t k => XS.goto X1.here hx rfl (pc0 := 9) (pc' := 13) rfl (hb hby d11_9) (by decide) (by decide) k) ?_
  show oG _ _ _ _ _ _ _ (T1.setTop (mkF m 13 #[.val (.ref a1)] [(.int 1)]))
  exact own_ret (v := some (.int 1)) X1 (fun h => by rw [Bd.returns] at h; cases h) Bd.notSynchronized (fun fs hr => retN X1 hx (t := .boolean) Bd.returns (by simp) (hb hby d11_13) hr) (by rw [e1]; exact ⟨rfl, N0, rfl⟩) (by decide) (by decide)
theorem d8_0 : decode jdk_41_method_12_code 0 = .ok (.iload_n 0, 1) := by decide +kernel
theorem d8_1 : decode jdk_41_method_12_code 1 = .ok (.ifCond .lt 13, 3) := by decide +kernel
theorem d8_4 : decode jdk_41_method_12_code 4 = .ok (.iload_n 0, 1) := by decide +kernel
theorem d8_5 : decode jdk_41_method_12_code 5 = .ok (.iload_n 1, 1) := by decide +kernel
theorem d8_6 : decode jdk_41_method_12_code 6 = .ok (.if_icmp .gt 8, 3) := by decide +kernel
theorem d8_9 : decode jdk_41_method_12_code 9 = .ok (.iload_n 1, 1) := by decide +kernel
theorem d8_10 : decode jdk_41_method_12_code 10 = .ok (.iload_n 2, 1) := by decide +kernel
theorem d8_11 : decode jdk_41_method_12_code 11 = .ok (.if_icmp .le 11, 3) := by decide +kernel
theorem d8_22 : decode jdk_41_method_12_code 22 = .ok (.iload_n 0, 1) := by decide +kernel
theorem d8_23 : decode jdk_41_method_12_code 23 = .ok (.ireturn, 1) := by decide +kernel
abbrev mY7 : MethodName := (⟨"jdk/internal/util/Preconditions", "checkFromToIndex", "(IIILjava/util/function/BiFunction;)I"⟩ : MethodName)
theorem ef_8_iiin_0_0_0 (m : MethodId)  : entryFrame m #[(.int 0), (.int 0), (.int 0), .null] 4 = mkF m 0 #[.val (.int 0), .val (.int 0), .val (.int 0), .val .null] [] := by first | (simp [entryFrame, mkF, argsToLocals, Value.category]; done) | rfl
theorem pn_3 : plainName "jdk/internal/util/Preconditions" = true := by first | (simp [plainName, overriddenIn]; done) | decide +kernel
def Q_pre (Z : State)  (h0 : Heap) (n0 : Nat) (v : Option Value) (h : Heap) (L : List Loc) : Prop := v = some (.int 0) ∧ Fr n0 L ∧ h = h0
set_option maxRecDepth 65536 in
set_option maxHeartbeats 40000000 in
theorem rm_pre (l : Launch) (Z : State) (a0 : Array Value) (hw : ∀ d ∈ tables_1, d.before a0 Z = true) (ws : List Jvm.Cond)  (h0 : Heap) (n0 : Nat) (O0 : Old Z n0 h0) :
    MetFree l mY7 (head1 (Jvm.Cond.code mY7 jdk_41_method_12_code 4 (some .int) :: ws) ({ frames := 0, cells := 0, slots := 0, locals := 0 } : Room)) (fun a U => a = #[(.int 0), (.int 0), (.int 0), .null] ∧ Z.Warmed39 U.vm ∧ U.heap = h0) (fun _ _ _ _ _ => True) (fun _ U o U' => ∃ v L, o = .returned v ∧ Q_pre Z  h0 n0 v U'.heap L ∧ FrameEnd U o U' L ({ frames := 0, cells := 0, slots := 0, locals := 0 } : Room).cells ({ frames := 0, cells := 0, slots := 0, locals := 0 } : Room).slots) := by
  refine MetFree.of_bodySF (plainFor_of_name pn_3) hisR ?_
  intro p e s m args below meth c s₁ Bd hml0 hP hK
  obtain ⟨rfl, hZ, hh⟩ := hP
  have hx := Bd.exec
  have hby := Bd.bytes
  have hml : c.maxLocals = 4 := hml0
  have hown : s.vm.findClass "jdk/internal/util/Preconditions" = some m.cls := findClass_of_methodNamed Bd.named
  have hnm := (name_of_methodNamed Bd.named Bd.method).1
  have X0 : Stand p l e ({ frames := 0, cells := 0, slots := 0, locals := 0 } : Room) s m #[(.int 0), (.int 0), (.int 0), .null] below meth c s₁ [] 0 0 := Stand.of_body Bd
  have e0 : s₁.heap = h0 := by rw [← hh, Bd.state]; rfl
  have N0 := Fr.nil n0
  show oG p e below s (Q_pre Z  h0 n0) ({ frames := 0, cells := 0, slots := 0, locals := 0 } : Room).cells ({ frames := 0, cells := 0, slots := 0, locals := 0 } : Room).slots _
  refine oS (fun t k => castTop (ef_8_iiin_0_0_0 m ) k) ?_
  show oG _ _ _ _ _ _ _ (s₁.setTop (mkF m 0 #[.val (.int 0), .val (.int 0), .val (.int 0), .val .null] []))
  refine oS (fun t k => XS.iloadN X0.here hx rfl (hb hby d8_0) rfl k) ?_
  refine oS (fun t k => XS.ifNo X0.here hx rfl (hb hby d8_1) rfl ((if0 _ _).trans (flt (by decide)).1) k) ?_
  refine oS (fun t k => XS.iloadN X0.here hx rfl (hb hby d8_4) rfl k) ?_
  show oG _ _ _ _ _ _ _ (s₁.setTop (mkF m 5 #[.val (.int 0), .val (.int 0), .val (.int 0), .val .null] [(.int 0)]))
  refine oS (fun t k => XS.iloadN X0.here hx rfl (hb hby d8_5) rfl k) ?_
  refine oS (fun t k => XS.icmpNo X0.here hx rfl (hb hby d8_6) rfl (flt (by decide)).2.2.1 k) ?_
  refine oS (fun t k => XS.iloadN X0.here hx rfl (hb hby d8_9) rfl k) ?_
  show oG _ _ _ _ _ _ _ (s₁.setTop (mkF m 10 #[.val (.int 0), .val (.int 0), .val (.int 0), .val .null] [(.int 0)]))
  refine oS (fun t k => XS.iloadN X0.here hx rfl (hb hby d8_10) rfl k) ?_
  refine oS (fun t k => XS.icmpYes X0.here hx rfl (pc0 := 11) (pc' := 22) rfl (hb hby d8_11) rfl (flt (by decide)).2.2.2 (by decide) (by decide) k) ?_
  refine oS (fun t k => XS.iloadN X0.here hx rfl (hb hby d8_22) rfl k) ?_
  show oG _ _ _ _ _ _ _ (s₁.setTop (mkF m 23 #[.val (.int 0), .val (.int 0), .val (.int 0), .val .null] [(.int 0)]))
  exact own_ret (v := some (.int 0)) X0 (fun h => by rw [Bd.returns] at h; cases h) Bd.notSynchronized (fun fs hr => retOut X0 hx (t := .int) Bd.returns rfl (Or.inl ⟨rfl, Or.inl rfl, _, rfl⟩) (hb hby d8_23) hr) (by rw [e0]; exact ⟨rfl, N0, rfl⟩) (by decide) (by decide)
theorem d7_0 : decode jdk_31_method_18_code 0 = .ok (.iload_n 0, 1) := by decide +kernel
theorem d7_1 : decode jdk_31_method_18_code 1 = .ok (.iload_n 1, 1) := by decide +kernel
theorem d7_2 : decode jdk_31_method_18_code 2 = .ok (.iload_n 2, 1) := by decide +kernel
theorem d7_3 : decode jdk_31_method_18_code 3 = .ok (.aconst_null, 1) := by decide +kernel
theorem d7_4 : decode jdk_31_method_18_code 4 = .ok (.invokestatic 111, 3) := by decide +kernel
theorem pd_1 : parseMethodDescriptor "(IIILjava/util/function/BiFunction;)I" = some ⟨[.int, .int, .int, (.object "java/util/function/BiFunction")], some .int⟩ := by decide +kernel
theorem d7_7 : decode jdk_31_method_18_code 7 = .ok (.ireturn, 1) := by decide +kernel
abbrev mY8 : MethodName := (⟨"java/util/Objects", "checkFromToIndex", "(III)I"⟩ : MethodName)
theorem ef_7_iii_0_0_0 (m : MethodId)  : entryFrame m #[(.int 0), (.int 0), (.int 0)] 3 = mkF m 0 #[.val (.int 0), .val (.int 0), .val (.int 0)] [] := by first | (simp [entryFrame, mkF, argsToLocals, Value.category]; done) | rfl
theorem pn_4 : plainName "java/util/Objects" = true := by first | (simp [plainName, overriddenIn]; done) | decide +kernel
def Q_chk (Z : State)  (h0 : Heap) (n0 : Nat) (v : Option Value) (h : Heap) (L : List Loc) : Prop := v = some (.int 0) ∧ Fr n0 L ∧ h = h0
set_option maxRecDepth 65536 in
set_option maxHeartbeats 40000000 in
theorem rm_chk (l : Launch) (Z : State) (a0 : Array Value) (hw : ∀ d ∈ tables_1, d.before a0 Z = true) (ws : List Jvm.Cond)  (h0 : Heap) (n0 : Nat) (O0 : Old Z n0 h0) :
    MetFree l mY8 (head1 (Jvm.Cond.code mY8 jdk_31_method_18_code 3 (some .int) :: ws) ({ frames := 1, cells := 0, slots := 0, locals := 15 } : Room)) (fun a U => a = #[(.int 0), (.int 0), (.int 0)] ∧ Z.Warmed39 U.vm ∧ U.heap = h0) (fun _ _ _ _ _ => True) (fun _ U o U' => ∃ v L, o = .returned v ∧ Q_chk Z  h0 n0 v U'.heap L ∧ FrameEnd U o U' L ({ frames := 1, cells := 0, slots := 0, locals := 15 } : Room).cells ({ frames := 1, cells := 0, slots := 0, locals := 15 } : Room).slots) := by
  refine MetFree.of_bodySF (plainFor_of_name pn_4) hisR ?_
  intro p e s m args below meth c s₁ Bd hml0 hP hK
  obtain ⟨rfl, hZ, hh⟩ := hP
  have hx := Bd.exec
  have hby := Bd.bytes
  have hml : c.maxLocals = 3 := hml0
  have hown : s.vm.findClass "java/util/Objects" = some m.cls := findClass_of_methodNamed Bd.named
  have hnm := (name_of_methodNamed Bd.named Bd.method).1
  have X0 : Stand p l e ({ frames := 1, cells := 0, slots := 0, locals := 15 } : Room) s m #[(.int 0), (.int 0), (.int 0)] below meth c s₁ [] 0 0 := Stand.of_body Bd
  have e0 : s₁.heap = h0 := by rw [← hh, Bd.state]; rfl
  have N0 := Fr.nil n0
  show oG p e below s (Q_chk Z  h0 n0) ({ frames := 1, cells := 0, slots := 0, locals := 15 } : Room).cells ({ frames := 1, cells := 0, slots := 0, locals := 15 } : Room).slots _
  refine oS (fun t k => castTop (ef_7_iii_0_0_0 m ) k) ?_
  show oG _ _ _ _ _ _ _ (s₁.setTop (mkF m 0 #[.val (.int 0), .val (.int 0), .val (.int 0)] []))
  refine oS (fun t k => XS.iloadN X0.here hx rfl (hb hby d7_0) rfl k) ?_
  refine oS (fun t k => XS.iloadN X0.here hx rfl (hb hby d7_1) rfl k) ?_
  refine oS (fun t k => XS.iloadN X0.here hx rfl (hb hby d7_2) rfl k) ?_
  show oG _ _ _ _ _ _ _ (s₁.setTop (mkF m 3 #[.val (.int 0), .val (.int 0), .val (.int 0)] [(.int 0), (.int 0), (.int 0)]))
  refine oS (fun t k => XS.aconstNull X0.here hx rfl (hb hby d7_3) k) ?_
  obtain ⟨_, _, ⟨T1, L1, k1, n1⟩, -, X1, ⟨Lc1, hQ1, l1, y1, z1⟩, st1⟩ := Jvm.LawKit.callS X0 hx (y := mY7) hown (mvT hZ (oW hw 71 rfl)) (mvT hZ (oW hw 72 rfl)) (mvT hZ (oW hw 73 rfl)) (mvT hZ (oW hw 74 rfl)) (by decide) (backOf (W := 0) (rm_pre l Z a0 hw []   h0 n0 O0  ) hZ (oW hw 74 rfl) (oW hw 73 rfl) (by decide) (by decide)) (g := (mkF m 4 #[.val (.int 0), .val (.int 0), .val (.int 0)] [.null, (.int 0), (.int 0), (.int 0)])) rfl (by rw [hml]; rfl) (argsL := [(.int 0), (.int 0), (.int 0), .null]) (rest := []) (lenOf pd_1 rfl) rfl (by show 2 * 0 + _ ≤ _; exact Nat.le_of_eq rfl) (hb hby d7_4) (fun _ _ => ⟨rfl, e0, (by decide : 0 + 0 ≤ _), (by decide : 0 + 0 ≤ _)⟩)
  dsimp only [Pt.U, Pt.locs, Pt.cells, Pt.slots] at X1 l1 y1 z1 st1 hQ1
  subst l1 y1 z1
  obtain ⟨rfl, Nq1, e1⟩ := hQ1
  have N1 := Fr.app N0 Nq1
  refine oS (fun t k => st1 t k) ?_
  show oG _ _ _ _ _ _ _ (T1.setTop (mkF m 7 #[.val (.int 0), .val (.int 0), .val (.int 0)] [(.int 0)]))
  try clear st1
  exact own_ret (v := some (.int 0)) X1 (fun h => by rw [Bd.returns] at h; cases h) Bd.notSynchronized (fun fs hr => retOut X1 hx (t := .int) Bd.returns rfl (Or.inl ⟨rfl, Or.inl rfl, _, rfl⟩) (hb hby d7_7) hr) (by rw [e1]; exact ⟨rfl, N1, rfl⟩) (by decide) (by decide)
theorem d6_0 : decode jdk_42_method_59_code 0 = .ok (.iload_n 1, 1) := by decide +kernel
theorem d6_1 : decode jdk_42_method_59_code 1 = .ok (.iload_n 2, 1) := by decide +kernel
theorem d6_2 : decode jdk_42_method_59_code 2 = .ok (.aload_n 0, 1) := by decide +kernel
theorem d6_3 : decode jdk_42_method_59_code 3 = .ok (.invokevirtual 505, 3) := by decide +kernel
theorem pd_2 : parseMethodDescriptor "()I" = some ⟨[], some .int⟩ := by decide +kernel
theorem d6_6 : decode jdk_42_method_59_code 6 = .ok (.invokestatic 511, 3) := by decide +kernel
theorem pd_3 : parseMethodDescriptor "(III)I" = some ⟨[.int, .int, .int], some .int⟩ := by decide +kernel
theorem d6_9 : decode jdk_42_method_59_code 9 = .ok (.pop, 1) := by decide +kernel
theorem d6_10 : decode jdk_42_method_59_code 10 = .ok (.aload_n 0, 1) := by decide +kernel
theorem d6_11 : decode jdk_42_method_59_code 11 = .ok (.invokevirtual 492, 3) := by decide +kernel
theorem pd_4 : parseMethodDescriptor "()Z" = some ⟨[], some .boolean⟩ := by decide +kernel
theorem d6_14 : decode jdk_42_method_59_code 14 = .ok (.ifCond .eq 7, 3) := by decide +kernel
theorem d6_17 : decode jdk_42_method_59_code 17 = .ok (.iload_n 2, 1) := by decide +kernel
theorem d6_18 : decode jdk_42_method_59_code 18 = .ok (.iload_n 1, 1) := by decide +kernel
theorem d6_19 : decode jdk_42_method_59_code 19 = .ok (.isub, 1) := by decide +kernel
theorem d6_20 : decode jdk_42_method_59_code 20 = .ok (.ireturn, 1) := by decide +kernel
abbrev mY9 : MethodName := (⟨"java/lang/String", "codePointCount", "(II)I"⟩ : MethodName)
theorem ef_6_rii_0_0 (m : MethodId) (x0 : Addr) : entryFrame m #[(.ref x0), (.int 0), (.int 0)] 3 = mkF m 0 #[.val (.ref x0), .val (.int 0), .val (.int 0)] [] := by first | (simp [entryFrame, mkF, argsToLocals, Value.category]; done) | rfl
def Q_cpc (Z : State) (a1 : Addr) (a2 : Addr) (k2 : ClassId) (cs : Int32) (h0 : Heap) (n0 : Nat) (v : Option Value) (h : Heap) (L : List Loc) : Prop := v = some (.int 0) ∧ Fr n0 L ∧ h = h0
set_option maxRecDepth 65536 in
set_option maxHeartbeats 40000000 in
theorem rm_cpc (l : Launch) (Z : State) (a0 : Array Value) (hw : ∀ d ∈ tables_1, d.before a0 Z = true) (ws : List Jvm.Cond) (a1 : Addr) (a2 : Addr) (k2 : ClassId) (cs : Int32) (h0 : Heap) (n0 : Nat) (O0 : Old Z n0 h0) (E_a1 : Exa Z h0 a1 "java/lang/String") (F_c : Fld Z h0 a1 "java/lang/String" "coder" "B" (.int 0)) (F_v : Fld Z h0 a1 "java/lang/String" "value" "[B" (.ref a2)) (V_a2 : Arv Z h0 a2 k2 .byte (0 : Int32) [] (.int 0)) (S_cs : Sta Z Z.heap "java/lang/String" "COMPACT_STRINGS" "Z" (.int cs)) (hcs : ¬ (cs = (0 : Int32))) :
    MetFree l mY9 (head1 (Jvm.Cond.code mY9 jdk_42_method_59_code 3 (some .int) :: ws) ({ frames := 2, cells := 0, slots := 0, locals := 29 } : Room)) (fun a U => a = #[(.ref a1), (.int 0), (.int 0)] ∧ Z.Warmed39 U.vm ∧ U.heap = h0) (fun _ _ _ _ _ => True) (fun _ U o U' => ∃ v L, o = .returned v ∧ Q_cpc Z a1 a2 k2 cs h0 n0 v U'.heap L ∧ FrameEnd U o U' L ({ frames := 2, cells := 0, slots := 0, locals := 29 } : Room).cells ({ frames := 2, cells := 0, slots := 0, locals := 29 } : Room).slots) := by
  refine MetFree.of_bodySF (plainFor_of_name pn_2) hisR ?_
  intro p e s m args below meth c s₁ Bd hml0 hP hK
  obtain ⟨rfl, hZ, hh⟩ := hP
  have hx := Bd.exec
  have hby := Bd.bytes
  have hml : c.maxLocals = 3 := hml0
  have hown : s.vm.findClass "java/lang/String" = some m.cls := findClass_of_methodNamed Bd.named
  have hnm := (name_of_methodNamed Bd.named Bd.method).1
  have X0 : Stand p l e ({ frames := 2, cells := 0, slots := 0, locals := 29 } : Room) s m #[(.ref a1), (.int 0), (.int 0)] below meth c s₁ [] 0 0 := Stand.of_body Bd
  have e0 : s₁.heap = h0 := by rw [← hh, Bd.state]; rfl
  have N0 := Fr.nil n0
  show oG p e below s (Q_cpc Z a1 a2 k2 cs h0 n0) ({ frames := 2, cells := 0, slots := 0, locals := 29 } : Room).cells ({ frames := 2, cells := 0, slots := 0, locals := 29 } : Room).slots _
  refine oS (fun t k => castTop (ef_6_rii_0_0 m a1) k) ?_
  show oG _ _ _ _ _ _ _ (s₁.setTop (mkF m 0 #[.val (.ref a1), .val (.int 0), .val (.int 0)] []))
  refine oS (fun t k => XS.iloadN X0.here hx rfl (hb hby d6_0) rfl k) ?_
  refine oS (fun t k => XS.iloadN X0.here hx rfl (hb hby d6_1) rfl k) ?_
  refine oS (fun t k => XS.aloadN X0.here hx rfl (hb hby d6_2) rfl rfl k) ?_
  show oG _ _ _ _ _ _ _ (s₁.setTop (mkF m 3 #[.val (.ref a1), .val (.int 0), .val (.int 0)] [(.ref a1), (.int 0), (.int 0)]))
  obtain ⟨cq1, kq1, q1a, q1b, q1c⟩ := isOf hZ e0 E_a1
  obtain ⟨_, _, ⟨T1, L1, k1, n1⟩, -, X1, ⟨Lc1, hQ1, l1, y1, z1⟩, st1⟩ := X0.virtualBack hx (y := mY5) (z := mY5) hown (mvT hZ (oW hw 66 rfl)) (mvT hZ (oW hw 49 rfl)) (notFace_of_selects (args := #[]) (mvT hZ (oW hw 51 rfl))) (mvT hZ (oW hw 51 rfl)) (mvT hZ (oW hw 50 rfl)) (by decide) (backOf (W := 2) (rm_len l Z a0 hw [] a1 a2 k2 cs  h0 n0 O0  E_a1 F_c F_v V_a2 S_cs hcs) hZ (oW hw 52 rfl) (oW hw 36 rfl) (by decide) (by decide)) q1a q1c (g := (mkF m 3 #[.val (.ref a1), .val (.int 0), .val (.int 0)] [(.ref a1), (.int 0), (.int 0)])) rfl (by rw [hml]; rfl) (Steps.refl _) (argsL := []) (rest := [(.int 0), (.int 0)]) (lenOf pd_2 rfl) rfl (by show 2 * 0 + _ ≤ _; exact Nat.le_of_eq rfl) (hb hby d6_3) (fun _ _ => ⟨rfl, e0, (by decide : 0 + 0 ≤ _), (by decide : 0 + 0 ≤ _)⟩)
  dsimp only [Pt.U, Pt.locs, Pt.cells, Pt.slots] at X1 l1 y1 z1 st1 hQ1
  subst l1 y1 z1
  obtain ⟨rfl, Nq1, e1⟩ := hQ1
  have N1 := Fr.app N0 Nq1
  refine oS (fun t k => st1.trans k) ?_
  show oG _ _ _ _ _ _ _ (T1.setTop (mkF m 6 #[.val (.ref a1), .val (.int 0), .val (.int 0)] [(.int 0), (.int 0), (.int 0)]))
  try clear st1
  obtain ⟨_, _, ⟨T2, L2, k2, n2⟩, -, X2, ⟨Lc2, hQ2, l2, y2, z2⟩, st2⟩ := Jvm.LawKit.callS X1 hx (y := mY8) hown (mvT hZ (oW hw 67 rfl)) (mvT hZ (oW hw 68 rfl)) (mvT hZ (oW hw 69 rfl)) (mvT hZ (oW hw 70 rfl)) (by decide) (backOf (W := 0) (rm_chk l Z a0 hw []   h0 n0 O0  ) hZ (oW hw 70 rfl) (oW hw 69 rfl) (by decide) (by decide)) (g := (mkF m 6 #[.val (.ref a1), .val (.int 0), .val (.int 0)] [(.int 0), (.int 0), (.int 0)])) rfl (by rw [hml]; rfl) (argsL := [(.int 0), (.int 0), (.int 0)]) (rest := []) (lenOf pd_3 rfl) rfl (by show 2 * 0 + _ ≤ _; exact Nat.le_of_eq rfl) (hb hby d6_6) (fun _ _ => ⟨rfl, e1, (by decide : 0 + 0 ≤ _), (by decide : 0 + 0 ≤ _)⟩)
  dsimp only [Pt.U, Pt.locs, Pt.cells, Pt.slots] at X2 l2 y2 z2 st2 hQ2
  subst l2 y2 z2
  obtain ⟨rfl, Nq2, e2⟩ := hQ2
  have N2 := Fr.app N1 Nq2
  refine oS (fun t k => st2 t k) ?_
  show oG _ _ _ _ _ _ _ (T2.setTop (mkF m 9 #[.val (.ref a1), .val (.int 0), .val (.int 0)] [(.int 0)]))
  try clear st2 X1 e1
  refine oS (fun t k => XS.pop X2.here hx rfl (hb hby d6_9) rfl rfl k) ?_
  refine oS (fun t k => XS.aloadN X2.here hx rfl (hb hby d6_10) rfl rfl k) ?_
  obtain ⟨cq3, kq3, q3a, q3b, q3c⟩ := isOf hZ e2 E_a1
  obtain ⟨_, _, ⟨T3, L3, k3, n3⟩, -, X3, ⟨Lc3, hQ3, l3, y3, z3⟩, st3⟩ := X2.virtualBack hx (y := mY4) (z := mY4) hown (mvT hZ (oW hw 75 rfl)) (mvT hZ (oW hw 76 rfl)) (notFace_of_selects (args := #[]) (mvT hZ (oW hw 78 rfl))) (mvT hZ (oW hw 78 rfl)) (mvT hZ (oW hw 77 rfl)) (by decide) (backOf (W := 0) (rm_lat l Z a0 hw [] a1 cs  h0 n0 O0  F_c S_cs hcs) hZ (oW hw 79 rfl) (oW hw 36 rfl) (by decide) (by decide)) q3a q3c (g := (mkF m 11 #[.val (.ref a1), .val (.int 0), .val (.int 0)] [(.ref a1)])) rfl (by rw [hml]; rfl) (Steps.refl _) (argsL := []) (rest := []) (lenOf pd_4 rfl) rfl (by show 2 * 0 + _ ≤ _; exact Nat.le_of_eq rfl) (hb hby d6_11) (fun _ _ => ⟨rfl, e2, (by decide : 0 + 0 ≤ _), (by decide : 0 + 0 ≤ _)⟩)
  dsimp only [Pt.U, Pt.locs, Pt.cells, Pt.slots] at X3 l3 y3 z3 st3 hQ3
  subst l3 y3 z3
  obtain ⟨rfl, Nq3, e3⟩ := hQ3
  have N3 := Fr.app N2 Nq3
  refine oS (fun t k => st3.trans k) ?_
  show oG _ _ _ _ _ _ _ (T3.setTop (mkF m 14 #[.val (.ref a1), .val (.int 0), .val (.int 0)] [(.int 1)]))
  try clear st3 X2 e2
  refine oS (fun t k => XS.ifNo X3.here hx rfl (hb hby d6_14) rfl ((if0 _ _).trans (feq (by decide)).1) k) ?_
  refine oS (fun t k => XS.iloadN X3.here hx rfl (hb hby d6_17) rfl k) ?_
  refine oS (fun t k => XS.iloadN X3.here hx rfl (hb hby d6_18) rfl k) ?_
  show oG _ _ _ _ _ _ _ (T3.setTop (mkF m 19 #[.val (.ref a1), .val (.int 0), .val (.int 0)] [(.int 0), (.int 0)]))
  refine oS (S' := (T3.setTop (mkF m 20 #[.val (.ref a1), .val (.int 0), .val (.int 0)] [(.int 0)]))) (fun t k => XS.isub X3.here hx rfl (hb hby d6_19) rfl (by rw [show (0 : Int32) - (0 : Int32) = (0 : Int32) from by decide]; exact k)) ?_
  exact own_ret (v := some (.int 0)) X3 (fun h => by rw [Bd.returns] at h; cases h) Bd.notSynchronized (fun fs hr => retOut X3 hx (t := .int) Bd.returns rfl (Or.inl ⟨rfl, Or.inl rfl, _, rfl⟩) (hb hby d6_20) hr) (by rw [e3]; exact ⟨rfl, N3, rfl⟩) (by decide) (by decide)
theorem d3_0 : decode prog_56_method_9_code 0 = .ok (.aload_n 1, 1) := by decide +kernel
theorem d3_1 : decode prog_56_method_9_code 1 = .ok (.iconst 0, 1) := by decide +kernel
theorem d3_2 : decode prog_56_method_9_code 2 = .ok (.aload_n 1, 1) := by decide +kernel
theorem d3_3 : decode prog_56_method_9_code 3 = .ok (.invokevirtual 102, 3) := by decide +kernel
theorem d3_6 : decode prog_56_method_9_code 6 = .ok (.invokevirtual 106, 3) := by decide +kernel
theorem pd_5 : parseMethodDescriptor "(II)I" = some ⟨[.int, .int], some .int⟩ := by decide +kernel
theorem d3_9 : decode prog_56_method_9_code 9 = .ok (.istore_n 2, 1) := by decide +kernel
theorem d3_10 : decode prog_56_method_9_code 10 = .ok (.iload_n 2, 1) := by decide +kernel
theorem d3_11 : decode prog_56_method_9_code 11 = .ok (.bipush 100, 2) := by decide +kernel
theorem lb_100 : (Int8.ofInt (100)).toInt32 = (100 : Int32) := by decide
theorem d3_13 : decode prog_56_method_9_code 13 = .ok (.if_icmp .le 17, 3) := by decide +kernel
theorem d3_30 : decode prog_56_method_9_code 30 = .ok (.aload_n 0, 1) := by decide +kernel
theorem d3_31 : decode prog_56_method_9_code 31 = .ok (.invokevirtual 119, 3) := by decide +kernel
abbrev mY10 : MethodName := (⟨"com/example/planwright/planwright/model/Kind", "ordinal", "()I"⟩ : MethodName)
theorem d3_34 : decode prog_56_method_9_code 34 = .ok (.tableswitch 38 0 5 #[48, 48, 48, 63, 71, 89], 38) := by decide +kernel
theorem d3_105 : decode prog_56_method_9_code 105 = .ok (.aload_n 1, 1) := by decide +kernel
theorem d3_106 : decode prog_56_method_9_code 106 = .ok (.invokevirtual 137, 3) := by decide +kernel
theorem d3_109 : decode prog_56_method_9_code 109 = .ok (.ifCond .eq 7, 3) := by decide +kernel
theorem d3_112 : decode prog_56_method_9_code 112 = .ok (.aconst_null, 1) := by decide +kernel
theorem d3_113 : decode prog_56_method_9_code 113 = .ok (.goto 129, 3) := by decide +kernel
theorem d3_242 : decode prog_56_method_9_code 242 = .ok (.areturn, 1) := by decide +kernel
abbrev mY11 : MethodName := (⟨"com/example/planwright/planwright/model/Kind", "read", "(Ljava/lang/String;)Ljava/math/BigDecimal;"⟩ : MethodName)
theorem ef_3_rr (m : MethodId) (x0 : Addr) (x1 : Addr) : entryFrame m #[(.ref x0), (.ref x1)] 5 = mkF m 0 #[.val (.ref x0), .val (.ref x1), .unset, .unset, .unset] [] := by first | (simp [entryFrame, mkF, argsToLocals, Value.category]; done) | rfl
def Q_read (Z : State) (a1 : Addr) (a2 : Addr) (k2 : ClassId) (cs : Int32) (w : Nat → Addr) (h0 : Heap) (n0 : Nat) (v : Option Value) (h : Heap) (L : List Loc) : Prop := v = some .null ∧ Fr n0 L ∧ h = h0
set_option maxRecDepth 65536 in
set_option maxHeartbeats 40000000 in
theorem rm_read (l : Launch) (Z : State) (a0 : Array Value) (hw : ∀ d ∈ tables_1, d.before a0 Z = true) (ws : List Jvm.Cond) (a1 : Addr) (a2 : Addr) (k2 : ClassId) (cs : Int32) (w : Nat → Addr) (h0 : Heap) (n0 : Nat) (O0 : Old Z n0 h0) (W : own_World Z w) (E_a1 : Exa Z h0 a1 "java/lang/String") (F_c : Fld Z h0 a1 "java/lang/String" "coder" "B" (.int 0)) (F_v : Fld Z h0 a1 "java/lang/String" "value" "[B" (.ref a2)) (V_a2 : Arv Z h0 a2 k2 .byte (0 : Int32) [] (.int 0)) (S_cs : Sta Z Z.heap "java/lang/String" "COMPACT_STRINGS" "Z" (.int cs)) (hcs : ¬ (cs = (0 : Int32))) :
    MetFree l mY11 (head1 (Jvm.Cond.code mY11 prog_56_method_9_code 5 (some (.object "java/math/BigDecimal")) :: ws) ({ frames := 3, cells := 0, slots := 0, locals := 43 } : Room)) (fun a U => a = #[(.ref (w 4)), (.ref a1)] ∧ Z.Warmed39 U.vm ∧ U.heap = h0) (fun _ _ _ _ _ => True) (fun _ U o U' => ∃ v L, o = .returned v ∧ Q_read Z a1 a2 k2 cs w h0 n0 v U'.heap L ∧ FrameEnd U o U' L ({ frames := 3, cells := 0, slots := 0, locals := 43 } : Room).cells ({ frames := 3, cells := 0, slots := 0, locals := 43 } : Room).slots) := by
  refine MetFree.of_bodySF (plainFor_of_name pn_0) hisR ?_
  intro p e s m args below meth c s₁ Bd hml0 hP hK
  obtain ⟨rfl, hZ, hh⟩ := hP
  have hx := Bd.exec
  have hby := Bd.bytes
  have hml : c.maxLocals = 5 := hml0
  have hown : s.vm.findClass "com/example/planwright/planwright/model/Kind" = some m.cls := findClass_of_methodNamed Bd.named
  have hnm := (name_of_methodNamed Bd.named Bd.method).1
  have X0 : Stand p l e ({ frames := 3, cells := 0, slots := 0, locals := 43 } : Room) s m #[(.ref (w 4)), (.ref a1)] below meth c s₁ [] 0 0 := Stand.of_body Bd
  have e0 : s₁.heap = h0 := by rw [← hh, Bd.state]; rfl
  have N0 := Fr.nil n0
  show oG p e below s (Q_read Z a1 a2 k2 cs w h0 n0) ({ frames := 3, cells := 0, slots := 0, locals := 43 } : Room).cells ({ frames := 3, cells := 0, slots := 0, locals := 43 } : Room).slots _
  refine oS (fun t k => castTop (ef_3_rr m (w 4) a1) k) ?_
  show oG _ _ _ _ _ _ _ (s₁.setTop (mkF m 0 #[.val (.ref (w 4)), .val (.ref a1), .unset, .unset, .unset] []))
  refine oS (fun t k => XS.aloadN X0.here hx rfl (hb hby d3_0) rfl rfl k) ?_
  refine oS (fun t k => oIc li_0 X0.here hx rfl (hb hby d3_1) k) ?_
  refine oS (fun t k => XS.aloadN X0.here hx rfl (hb hby d3_2) rfl rfl k) ?_
  show oG _ _ _ _ _ _ _ (s₁.setTop (mkF m 3 #[.val (.ref (w 4)), .val (.ref a1), .unset, .unset, .unset] [(.ref a1), (.int 0), (.ref a1)]))
  obtain ⟨cq1, kq1, q1a, q1b, q1c⟩ := isOf hZ e0 E_a1
  obtain ⟨_, _, ⟨T1, L1, k1, n1⟩, -, X1, ⟨Lc1, hQ1, l1, y1, z1⟩, st1⟩ := X0.virtualBack hx (y := mY5) (z := mY5) hown (mvT hZ (oW hw 48 rfl)) (mvT hZ (oW hw 49 rfl)) (notFace_of_selects (args := #[]) (mvT hZ (oW hw 51 rfl))) (mvT hZ (oW hw 51 rfl)) (mvT hZ (oW hw 50 rfl)) (by decide) (backOf (W := 2) (rm_len l Z a0 hw [] a1 a2 k2 cs  h0 n0 O0  E_a1 F_c F_v V_a2 S_cs hcs) hZ (oW hw 52 rfl) (oW hw 36 rfl) (by decide) (by decide)) q1a q1c (g := (mkF m 3 #[.val (.ref (w 4)), .val (.ref a1), .unset, .unset, .unset] [(.ref a1), (.int 0), (.ref a1)])) rfl (by rw [hml]; rfl) (Steps.refl _) (argsL := []) (rest := [(.int 0), (.ref a1)]) (lenOf pd_2 rfl) rfl (by show 2 * 0 + _ ≤ _; exact Nat.le_of_eq rfl) (hb hby d3_3) (fun _ _ => ⟨rfl, e0, (by decide : 0 + 0 ≤ _), (by decide : 0 + 0 ≤ _)⟩)
  dsimp only [Pt.U, Pt.locs, Pt.cells, Pt.slots] at X1 l1 y1 z1 st1 hQ1
  subst l1 y1 z1
  obtain ⟨rfl, Nq1, e1⟩ := hQ1
  have N1 := Fr.app N0 Nq1
  refine oS (fun t k => st1.trans k) ?_
  show oG _ _ _ _ _ _ _ (T1.setTop (mkF m 6 #[.val (.ref (w 4)), .val (.ref a1), .unset, .unset, .unset] [(.int 0), (.int 0), (.ref a1)]))
  try clear st1
  obtain ⟨cq2, kq2, q2a, q2b, q2c⟩ := isOf hZ e1 E_a1
  obtain ⟨_, _, ⟨T2, L2, k2, n2⟩, -, X2, ⟨Lc2, hQ2, l2, y2, z2⟩, st2⟩ := X1.virtualBack hx (y := mY9) (z := mY9) hown (mvT hZ (oW hw 61 rfl)) (mvT hZ (oW hw 62 rfl)) (notFace_of_selects (args := #[]) (mvT hZ (oW hw 64 rfl))) (mvT hZ (oW hw 64 rfl)) (mvT hZ (oW hw 63 rfl)) (by decide) (backOf (W := 0) (rm_cpc l Z a0 hw [] a1 a2 k2 cs  h0 n0 O0  E_a1 F_c F_v V_a2 S_cs hcs) hZ (oW hw 65 rfl) (oW hw 36 rfl) (by decide) (by decide)) q2a q2c (g := (mkF m 6 #[.val (.ref (w 4)), .val (.ref a1), .unset, .unset, .unset] [(.int 0), (.int 0), (.ref a1)])) rfl (by rw [hml]; rfl) (Steps.refl _) (argsL := [(.int 0), (.int 0)]) (rest := []) (lenOf pd_5 rfl) rfl (by show 2 * 0 + _ ≤ _; exact Nat.le_of_eq rfl) (hb hby d3_6) (fun _ _ => ⟨rfl, e1, (by decide : 0 + 0 ≤ _), (by decide : 0 + 0 ≤ _)⟩)
  dsimp only [Pt.U, Pt.locs, Pt.cells, Pt.slots] at X2 l2 y2 z2 st2 hQ2
  subst l2 y2 z2
  obtain ⟨rfl, Nq2, e2⟩ := hQ2
  have N2 := Fr.app N1 Nq2
  refine oS (fun t k => st2.trans k) ?_
  show oG _ _ _ _ _ _ _ (T2.setTop (mkF m 9 #[.val (.ref (w 4)), .val (.ref a1), .unset, .unset, .unset] [(.int 0)]))
  try clear st2 X1 e1
  refine oS (fun t k => XS.istoreN X2.here hx rfl (hb hby d3_9) rfl (l' := #[.val (.ref (w 4)), .val (.ref a1), .val (.int 0), .unset, .unset]) rfl k) ?_
  refine oS (fun t k => XS.iloadN X2.here hx rfl (hb hby d3_10) rfl k) ?_
  refine oS (fun t k => oBp lb_100 X2.here hx rfl (hb hby d3_11) k) ?_
  show oG _ _ _ _ _ _ _ (T2.setTop (mkF m 13 #[.val (.ref (w 4)), .val (.ref a1), .val (.int 0), .unset, .unset] [(.int 100), (.int 0)]))
  refine oS (fun t k => XS.icmpYes X2.here hx rfl (pc0 := 13) (pc' := 30) rfl (hb hby d3_13) rfl (flt (by decide)).2.2.2 (by decide) (by decide) k) ?_
  refine oS (fun t k => XS.aloadN X2.here hx rfl (hb hby d3_30) rfl rfl k) ?_
  obtain ⟨cq3, kq3, q3a, q3b, q3c⟩ := isOf hZ e2 ((wE4 W).ext O0.2)
  obtain ⟨_, _, ⟨T3, L3, k3, n3⟩, -, X3, ⟨Lc3, hQ3, l3, y3, z3⟩, st3⟩ := X2.virtualBackUp hx (x := mY10) (y := mY2) hown (mvT hZ (oW hw 80 rfl)) (mvT hZ (oW hw 81 rfl)) (mvT hZ (oW hw 82 rfl)) (by decide) (mvT hZ (oW hw 84 rfl)) (mvT hZ (oW hw 83 rfl)) (backOf (W := 0) (rm_ord l Z a0 hw []  w h0 n0 O0 W ) hZ (oW hw 86 rfl) (oW hw 85 rfl) (by decide) (by decide)) q3a q3c (g := (mkF m 31 #[.val (.ref (w 4)), .val (.ref a1), .val (.int 0), .unset, .unset] [(.ref (w 4))])) rfl (by rw [hml]; rfl) (Steps.refl _) (argsL := []) (rest := []) (lenOf pd_2 rfl) rfl (by show 2 * 0 + _ ≤ _; exact Nat.le_of_eq rfl) (hb hby d3_31) (fun _ _ => ⟨rfl, e2, (by decide : 0 + 0 ≤ _), (by decide : 0 + 0 ≤ _)⟩)
  dsimp only [Pt.U, Pt.locs, Pt.cells, Pt.slots] at X3 l3 y3 z3 st3 hQ3
  subst l3 y3 z3
  obtain ⟨rfl, Nq3, e3⟩ := hQ3
  have N3 := Fr.app N2 Nq3
  refine oS (fun t k => st3.trans k) ?_
  show oG _ _ _ _ _ _ _ (T3.setTop (mkF m 34 #[.val (.ref (w 4)), .val (.ref a1), .val (.int 0), .unset, .unset] [(.int 4)]))
  try clear st3 X2 e2
  refine oS (fun t k => XS.tswIn X3.here hx rfl (pc0 := 34) (pc' := 105) rfl (hb hby d3_34) (i := (4 : Int32)) rfl (by decide) (o := 71) rfl (by decide) (by decide) k) ?_
  refine oS (fun t k => XS.aloadN X3.here hx rfl (hb hby d3_105) rfl rfl k) ?_
  obtain ⟨cq4, kq4, q4a, q4b, q4c⟩ := isOf hZ e3 E_a1
  obtain ⟨_, _, ⟨T4, L4, k4, n4⟩, -, X4, ⟨Lc4, hQ4, l4, y4, z4⟩, st4⟩ := X3.virtualBack hx (y := mY6) (z := mY6) hown (mvT hZ (oW hw 89 rfl)) (mvT hZ (oW hw 90 rfl)) (notFace_of_selects (args := #[]) (mvT hZ (oW hw 92 rfl))) (mvT hZ (oW hw 92 rfl)) (mvT hZ (oW hw 91 rfl)) (by decide) (backOf (W := 0) (rm_emp l Z a0 hw [] a1 a2 k2  h0 n0 O0  F_v V_a2) hZ (oW hw 93 rfl) (oW hw 36 rfl) (by decide) (by decide)) q4a q4c (g := (mkF m 106 #[.val (.ref (w 4)), .val (.ref a1), .val (.int 0), .unset, .unset] [(.ref a1)])) rfl (by rw [hml]; rfl) (Steps.refl _) (argsL := []) (rest := []) (lenOf pd_4 rfl) rfl (by show 2 * 0 + _ ≤ _; exact Nat.le_of_eq rfl) (hb hby d3_106) (fun _ _ => ⟨rfl, e3, (by decide : 0 + 0 ≤ _), (by decide : 0 + 0 ≤ _)⟩)
  dsimp only [Pt.U, Pt.locs, Pt.cells, Pt.slots] at X4 l4 y4 z4 st4 hQ4
  subst l4 y4 z4
  obtain ⟨rfl, Nq4, e4⟩ := hQ4
  have N4 := Fr.app N3 Nq4
  refine oS (fun t k => st4.trans k) ?_
  show oG _ _ _ _ _ _ _ (T4.setTop (mkF m 109 #[.val (.ref (w 4)), .val (.ref a1), .val (.int 0), .unset, .unset] [(.int 1)]))
  try clear st4 X3 e3
  refine oS (fun t k => XS.ifNo X4.here hx rfl (hb hby d3_109) rfl ((if0 _ _).trans (feq (by decide)).1) k) ?_
  refine oS (fun t k => XS.aconstNull X4.here hx rfl (hb hby d3_112) k) ?_
  refine oS (fun t k => XS.goto X4.here hx rfl (pc0 := 113) (pc' := 242) rfl (hb hby d3_113) (by decide) (by decide) k) ?_
  show oG _ _ _ _ _ _ _ (T4.setTop (mkF m 242 #[.val (.ref (w 4)), .val (.ref a1), .val (.int 0), .unset, .unset] [.null]))
  exact own_ret (v := some .null) X4 (fun h => by rw [Bd.returns] at h; cases h) Bd.notSynchronized (fun fs hr => retOut X4 hx (t := (.object "java/math/BigDecimal")) Bd.returns rfl (Or.inr (Or.inr (Or.inr (Or.inr ⟨rfl, rfl, rfl⟩)))) (hb hby d3_242) hr) (by rw [e4]; exact ⟨rfl, N4, rfl⟩) (by decide) (by decide)
theorem lb_6 : (Int8.ofInt (6)).toInt32 = (6 : Int32) := by decide
theorem li_2 : Int32.ofInt (2) = (2 : Int32) := by decide
theorem li_3 : Int32.ofInt (3) = (3 : Int32) := by decide
theorem li_4 : Int32.ofInt (4) = (4 : Int32) := by decide
theorem li_5 : Int32.ofInt (5) = (5 : Int32) := by decide
theorem pd_6 : parseMethodDescriptor "()Lcom/example/planwright/planwright/model/ValueType;" = some ⟨[], some (.object "com/example/planwright/planwright/model/ValueType")⟩ := by decide +kernel
theorem pd_7 : parseMethodDescriptor "(Ljava/lang/String;)Ljava/math/BigDecimal;" = some ⟨[(.object "java/lang/String")], some (.object "java/math/BigDecimal")⟩ := by decide +kernel
theorem ef_0_i (m : MethodId) (x0 : Int32) : entryFrame m #[(.int x0)] maxLocals = mkF m 0 #[.val (.int x0), .unset, .unset, .unset, .unset, .unset] [] := by first | (simp [entryFrame, mkF, argsToLocals, Value.category, maxLocals]; done) | rfl
theorem pn_5 : plainName "com/example/planwright/planwright/model/KindMayBeNonePinLaw" = true := by first | (simp [plainName, overriddenIn]; done) | decide +kernel
def Q_law (Z : State) (p1 : Int32) (cs : Int32) (w : Nat → Addr) (h0 : Heap) (n0 : Nat) (v : Option Value) (h : Heap) (L : List Loc) : Prop := v = some (.int 1) ∧ Fr n0 L
set_option maxRecDepth 65536 in
set_option maxHeartbeats 40000000 in
theorem rm_law (l : Launch) (Z : State) (a0 : Array Value) (hw : ∀ d ∈ tables_1, d.before a0 Z = true) (ws : List Jvm.Cond) (p1 : Int32) (cs : Int32) (w : Nat → Addr) (h0 : Heap) (n0 : Nat) (O0 : Old Z n0 h0) (W : own_World Z w) (hheld : Jvm.Lit.constHeld Z "com/example/planwright/planwright/model/KindMayBeNonePinLaw" 42) (hcw : Jvm.Lit.compactW.before a0 Z = true) (S_cs : Sta Z Z.heap "java/lang/String" "COMPACT_STRINGS" "Z" (.int cs)) (hcs : ¬ (cs = (0 : Int32))) :
    MetFree l x (head1 (Jvm.Cond.code x code maxLocals ret :: ws) room_1) (fun a U => a = #[(.int p1)] ∧ Z.Warmed39 U.vm ∧ U.heap = h0 ∧ U = Z) (fun _ _ _ _ _ => True) (fun _ U o U' => ∃ v L, o = .returned v ∧ Q_law Z p1 cs w h0 n0 v U'.heap L ∧ ReturnedEndW U o U' L room_1.cells room_1.slots) := by
  refine MetFree.of_bodySF (plainFor_of_name pn_5) hisR ?_
  intro p e s m args below meth c s₁ Bd hml0 hP hK
  obtain ⟨rfl, hZ, hh, hUZ⟩ := hP
  have hx := Bd.exec
  have hby := Bd.bytes
  have hml : c.maxLocals = 6 := hml0
  have hown : s.vm.findClass "com/example/planwright/planwright/model/KindMayBeNonePinLaw" = some m.cls := findClass_of_methodNamed Bd.named
  have hnm := (name_of_methodNamed Bd.named Bd.method).1
  have X0 : Stand p l e room_1 s m #[(.int p1)] below meth c s₁ [] 0 0 := Stand.of_body Bd
  have e0 : s₁.heap = h0 := by rw [← hh, Bd.state]; rfl
  have N0 := Fr.nil n0
  show oGW p e below s (Q_law Z p1 cs w h0 n0) room_1.cells room_1.slots _
  refine oSW (fun t k => castTop (ef_0_i m p1) k) ?_
  show oGW _ _ _ _ _ _ _ (s₁.setTop (mkF m 0 #[.val (.int p1), .unset, .unset, .unset, .unset, .unset] []))
  refine oSW (fun t k => oBp lb_6 X0.here hx rfl (hb hby at_0) k) ?_
  obtain ⟨T1, h1, k1, X1, e1, E1, A1, O1v, st1⟩ := newR X0 hx hZ hown (oW hw 0 rfl) (oW hw 1 rfl) e0 (g := (mkF m 2 #[.val (.int p1), .unset, .unset, .unset, .unset, .unset] [(.int 6)])) rfl (hb hby at_2) rfl (by decide) (cap := 6) (by decide) (by decide) (by decide) (by decide)
  obtain ⟨b1, g1⟩ : ∃ z, z = h0.size := ⟨_, rfl⟩
  rw [← g1] at A1 st1
  have V1 : Arv Z h1 b1 k1 (.object "com/example/planwright/planwright/model/Kind") (6 : Int32) [.null, .null, .null, .null, .null, .null] .null := (Arv.new A1 (by decide)).pad (pad_rep [] .null 6)
  have gx1 : n0 ≤ b1 := Nat.le_trans (O0.1 ▸ O0.2.1) (Nat.le_of_eq g1.symm)
  have O1 := O0.ext E1
  refine oSW (fun t k => st1 t k) ?_
  try clear st1
  refine oSW (fun t k => XS.dup X1.here hx rfl (hb hby at_5) rfl rfl k) ?_
  show oGW _ _ _ _ _ _ _ (T1.setTop (mkF m 6 #[.val (.int p1), .unset, .unset, .unset, .unset, .unset] [(.ref b1), (.ref b1)]))
  refine oSW (fun t k => oIc li_0 X1.here hx rfl (hb hby at_6) k) ?_
  obtain ⟨T2, X2, e2, st2⟩ := getS2 X1 hx hZ hown (host := "") (Or.inl (oW hw 2 rfl)) Via.refl e1 ((wS0 W).ext O1.2) (g := (mkF m 7 #[.val (.int p1), .unset, .unset, .unset, .unset, .unset] [(.int 0), (.ref b1), (.ref b1)])) rfl (hb hby at_7)
  refine oSW (fun t k => st2 t k) ?_
  try clear st2 X1 e1
  try clear T1
  obtain ⟨cl3, Ar3, qk3, Sz3, Ng3, Ha3, Gf3⟩ := id V1
  have hin3 : ¬ ((0 : Int32) < 0 ∨ cl3.slots.size ≤ ((0 : Int32)).toNatClampNeg) := inb_of Sz3 ⟨by decide, by decide⟩
  obtain ⟨T4, h4, X4, e4, W4, st4⟩ := stR X2 hx hZ e2 Ar3 (j := (0 : Int32)) hin3 rfl (Sto.ofV Ar3 qk3 O1v (Ins.self ((wE0 W).ext O1.2))) (g := (mkF m 10 #[.val (.int p1), .unset, .unset, .unset, .unset, .unset] [(.ref (w 0)), (.int 0), (.ref b1), (.ref b1)])) rfl rfl (hb hby at_10)
  have O4 := O1.wr W4 gx1
  have N4 := Fr.snoc X4 N0 gx1
  have V4 : Arv Z h4 b1 k1 (.object "com/example/planwright/planwright/model/Kind") (6 : Int32) [(.ref (w 0)), .null, .null, .null, .null, .null] .null := Arv.set Ar3 qk3 Sz3 Ng3 Ha3 Gf3 rfl W4 0 rfl (Nat.le_of_ble_eq_true rfl)
  clear hin3 Gf3 Ha3 Ng3 Sz3 qk3 Ar3 cl3
  refine oSW (fun t k => st4 t k) ?_
  show oGW _ _ _ _ _ _ _ (T4.setTop (mkF m 11 #[.val (.int p1), .unset, .unset, .unset, .unset, .unset] [(.ref b1)]))
  try clear st4 X2 e2
  try clear T2
  refine oSW (fun t k => XS.dup X4.here hx rfl (hb hby at_11) rfl rfl k) ?_
  refine oSW (fun t k => oIc li_1 X4.here hx rfl (hb hby at_12) k) ?_
  obtain ⟨T5, X5, e5, st5⟩ := getS2 X4 hx hZ hown (host := "") (Or.inl (oW hw 6 rfl)) Via.refl e4 ((wS1 W).ext O4.2) (g := (mkF m 13 #[.val (.int p1), .unset, .unset, .unset, .unset, .unset] [(.int 1), (.ref b1), (.ref b1)])) rfl (hb hby at_13)
  refine oSW (fun t k => st5 t k) ?_
  show oGW _ _ _ _ _ _ _ (T5.setTop (mkF m 16 #[.val (.int p1), .unset, .unset, .unset, .unset, .unset] [(.ref (w 1)), (.int 1), (.ref b1), (.ref b1)]))
  try clear st5 X4 e4
  try clear T4
  obtain ⟨cl6, Ar6, qk6, Sz6, Ng6, Ha6, Gf6⟩ := id V4
  have hin6 : ¬ ((1 : Int32) < 0 ∨ cl6.slots.size ≤ ((1 : Int32)).toNatClampNeg) := inb_of Sz6 ⟨by decide, by decide⟩
  obtain ⟨T7, h7, X7, e7, W7, st7⟩ := stR X5 hx hZ e5 Ar6 (j := (1 : Int32)) hin6 rfl (Sto.ofV Ar6 qk6 O1v (Ins.self ((wE1 W).ext O4.2))) (g := (mkF m 16 #[.val (.int p1), .unset, .unset, .unset, .unset, .unset] [(.ref (w 1)), (.int 1), (.ref b1), (.ref b1)])) rfl rfl (hb hby at_16)
  have O7 := O4.wr W7 gx1
  have N7 := Fr.snoc X7 N4 gx1
  have V7 : Arv Z h7 b1 k1 (.object "com/example/planwright/planwright/model/Kind") (6 : Int32) [(.ref (w 0)), (.ref (w 1)), .null, .null, .null, .null] .null := Arv.set Ar6 qk6 Sz6 Ng6 Ha6 Gf6 rfl W7 1 rfl (Nat.le_of_ble_eq_true rfl)
  clear hin6 Gf6 Ha6 Ng6 Sz6 qk6 Ar6 cl6
  refine oSW (fun t k => st7 t k) ?_
  try clear st7 X5 e5
  try clear T5
  refine oSW (fun t k => XS.dup X7.here hx rfl (hb hby at_17) rfl rfl k) ?_
  refine oSW (fun t k => oIc li_2 X7.here hx rfl (hb hby at_18) k) ?_
  show oGW _ _ _ _ _ _ _ (T7.setTop (mkF m 19 #[.val (.int p1), .unset, .unset, .unset, .unset, .unset] [(.int 2), (.ref b1), (.ref b1)]))
  obtain ⟨T8, X8, e8, st8⟩ := getS2 X7 hx hZ hown (host := "") (Or.inl (oW hw 8 rfl)) Via.refl e7 ((wS2 W).ext O7.2) (g := (mkF m 19 #[.val (.int p1), .unset, .unset, .unset, .unset, .unset] [(.int 2), (.ref b1), (.ref b1)])) rfl (hb hby at_19)
  refine oSW (fun t k => st8 t k) ?_
  try clear st8 X7 e7
  try clear T7
  obtain ⟨cl9, Ar9, qk9, Sz9, Ng9, Ha9, Gf9⟩ := id V7
  have hin9 : ¬ ((2 : Int32) < 0 ∨ cl9.slots.size ≤ ((2 : Int32)).toNatClampNeg) := inb_of Sz9 ⟨by decide, by decide⟩
  obtain ⟨T10, h10, X10, e10, W10, st10⟩ := stR X8 hx hZ e8 Ar9 (j := (2 : Int32)) hin9 rfl (Sto.ofV Ar9 qk9 O1v (Ins.self ((wE2 W).ext O7.2))) (g := (mkF m 22 #[.val (.int p1), .unset, .unset, .unset, .unset, .unset] [(.ref (w 2)), (.int 2), (.ref b1), (.ref b1)])) rfl rfl (hb hby at_22)
  have O10 := O7.wr W10 gx1
  have N10 := Fr.snoc X10 N7 gx1
  have V10 : Arv Z h10 b1 k1 (.object "com/example/planwright/planwright/model/Kind") (6 : Int32) [(.ref (w 0)), (.ref (w 1)), (.ref (w 2)), .null, .null, .null] .null := Arv.set Ar9 qk9 Sz9 Ng9 Ha9 Gf9 rfl W10 2 rfl (Nat.le_of_ble_eq_true rfl)
  clear hin9 Gf9 Ha9 Ng9 Sz9 qk9 Ar9 cl9
  refine oSW (fun t k => st10 t k) ?_
  try clear st10 X8 e8
  try clear T8
  refine oSW (fun t k => XS.dup X10.here hx rfl (hb hby at_23) rfl rfl k) ?_
  show oGW _ _ _ _ _ _ _ (T10.setTop (mkF m 24 #[.val (.int p1), .unset, .unset, .unset, .unset, .unset] [(.ref b1), (.ref b1)]))
  refine oSW (fun t k => oIc li_3 X10.here hx rfl (hb hby at_24) k) ?_
  obtain ⟨T11, X11, e11, st11⟩ := getS2 X10 hx hZ hown (host := "") (Or.inl (oW hw 10 rfl)) Via.refl e10 ((wS3 W).ext O10.2) (g := (mkF m 25 #[.val (.int p1), .unset, .unset, .unset, .unset, .unset] [(.int 3), (.ref b1), (.ref b1)])) rfl (hb hby at_25)
  refine oSW (fun t k => st11 t k) ?_
  try clear st11 X10 e10
  try clear T10
  obtain ⟨cl12, Ar12, qk12, Sz12, Ng12, Ha12, Gf12⟩ := id V10
  have hin12 : ¬ ((3 : Int32) < 0 ∨ cl12.slots.size ≤ ((3 : Int32)).toNatClampNeg) := inb_of Sz12 ⟨by decide, by decide⟩
  obtain ⟨T13, h13, X13, e13, W13, st13⟩ := stR X11 hx hZ e11 Ar12 (j := (3 : Int32)) hin12 rfl (Sto.ofV Ar12 qk12 O1v (Ins.self ((wE3 W).ext O10.2))) (g := (mkF m 28 #[.val (.int p1), .unset, .unset, .unset, .unset, .unset] [(.ref (w 3)), (.int 3), (.ref b1), (.ref b1)])) rfl rfl (hb hby at_28)
  have O13 := O10.wr W13 gx1
  have N13 := Fr.snoc X13 N10 gx1
  have V13 : Arv Z h13 b1 k1 (.object "com/example/planwright/planwright/model/Kind") (6 : Int32) [(.ref (w 0)), (.ref (w 1)), (.ref (w 2)), (.ref (w 3)), .null, .null] .null := Arv.set Ar12 qk12 Sz12 Ng12 Ha12 Gf12 rfl W13 3 rfl (Nat.le_of_ble_eq_true rfl)
  clear hin12 Gf12 Ha12 Ng12 Sz12 qk12 Ar12 cl12
  refine oSW (fun t k => st13 t k) ?_
  show oGW _ _ _ _ _ _ _ (T13.setTop (mkF m 29 #[.val (.int p1), .unset, .unset, .unset, .unset, .unset] [(.ref b1)]))
  try clear st13 X11 e11
  try clear T11
  refine oSW (fun t k => XS.dup X13.here hx rfl (hb hby at_29) rfl rfl k) ?_
  refine oSW (fun t k => oIc li_4 X13.here hx rfl (hb hby at_30) k) ?_
  obtain ⟨T14, X14, e14, st14⟩ := getS2 X13 hx hZ hown (host := "") (Or.inl (oW hw 12 rfl)) Via.refl e13 ((wS4 W).ext O13.2) (g := (mkF m 31 #[.val (.int p1), .unset, .unset, .unset, .unset, .unset] [(.int 4), (.ref b1), (.ref b1)])) rfl (hb hby at_31)
  refine oSW (fun t k => st14 t k) ?_
  show oGW _ _ _ _ _ _ _ (T14.setTop (mkF m 34 #[.val (.int p1), .unset, .unset, .unset, .unset, .unset] [(.ref (w 4)), (.int 4), (.ref b1), (.ref b1)]))
  try clear st14 X13 e13
  try clear T13
  obtain ⟨cl15, Ar15, qk15, Sz15, Ng15, Ha15, Gf15⟩ := id V13
  have hin15 : ¬ ((4 : Int32) < 0 ∨ cl15.slots.size ≤ ((4 : Int32)).toNatClampNeg) := inb_of Sz15 ⟨by decide, by decide⟩
  obtain ⟨T16, h16, X16, e16, W16, st16⟩ := stR X14 hx hZ e14 Ar15 (j := (4 : Int32)) hin15 rfl (Sto.ofV Ar15 qk15 O1v (Ins.self ((wE4 W).ext O13.2))) (g := (mkF m 34 #[.val (.int p1), .unset, .unset, .unset, .unset, .unset] [(.ref (w 4)), (.int 4), (.ref b1), (.ref b1)])) rfl rfl (hb hby at_34)
  have O16 := O13.wr W16 gx1
  have N16 := Fr.snoc X16 N13 gx1
  have V16 : Arv Z h16 b1 k1 (.object "com/example/planwright/planwright/model/Kind") (6 : Int32) [(.ref (w 0)), (.ref (w 1)), (.ref (w 2)), (.ref (w 3)), (.ref (w 4)), .null] .null := Arv.set Ar15 qk15 Sz15 Ng15 Ha15 Gf15 rfl W16 4 rfl (Nat.le_of_ble_eq_true rfl)
  clear hin15 Gf15 Ha15 Ng15 Sz15 qk15 Ar15 cl15
  refine oSW (fun t k => st16 t k) ?_
  try clear st16 X14 e14
  try clear T14
  refine oSW (fun t k => XS.dup X16.here hx rfl (hb hby at_35) rfl rfl k) ?_
  refine oSW (fun t k => oIc li_5 X16.here hx rfl (hb hby at_36) k) ?_
  show oGW _ _ _ _ _ _ _ (T16.setTop (mkF m 37 #[.val (.int p1), .unset, .unset, .unset, .unset, .unset] [(.int 5), (.ref b1), (.ref b1)]))
  obtain ⟨T17, X17, e17, st17⟩ := getS2 X16 hx hZ hown (host := "") (Or.inl (oW hw 14 rfl)) Via.refl e16 ((wS5 W).ext O16.2) (g := (mkF m 37 #[.val (.int p1), .unset, .unset, .unset, .unset, .unset] [(.int 5), (.ref b1), (.ref b1)])) rfl (hb hby at_37)
  refine oSW (fun t k => st17 t k) ?_
  try clear st17 X16 e16
  try clear T16
  obtain ⟨cl18, Ar18, qk18, Sz18, Ng18, Ha18, Gf18⟩ := id V16
  have hin18 : ¬ ((5 : Int32) < 0 ∨ cl18.slots.size ≤ ((5 : Int32)).toNatClampNeg) := inb_of Sz18 ⟨by decide, by decide⟩
  obtain ⟨T19, h19, X19, e19, W19, st19⟩ := stR X17 hx hZ e17 Ar18 (j := (5 : Int32)) hin18 rfl (Sto.ofV Ar18 qk18 O1v (Ins.self ((wE5 W).ext O16.2))) (g := (mkF m 40 #[.val (.int p1), .unset, .unset, .unset, .unset, .unset] [(.ref (w 5)), (.int 5), (.ref b1), (.ref b1)])) rfl rfl (hb hby at_40)
  have O19 := O16.wr W19 gx1
  have N19 := Fr.snoc X19 N16 gx1
  have V19 : Arv Z h19 b1 k1 (.object "com/example/planwright/planwright/model/Kind") (6 : Int32) [(.ref (w 0)), (.ref (w 1)), (.ref (w 2)), (.ref (w 3)), (.ref (w 4)), (.ref (w 5))] .null := Arv.set Ar18 qk18 Sz18 Ng18 Ha18 Gf18 rfl W19 5 rfl (Nat.le_of_ble_eq_true rfl)
  clear hin18 Gf18 Ha18 Ng18 Sz18 qk18 Ar18 cl18
  refine oSW (fun t k => st19 t k) ?_
  try clear st19 X17 e17
  try clear T17
  refine oSW (fun t k => XS.astoreN X19.here hx rfl (hb hby at_41) rfl rfl (l' := #[.val (.int p1), .val (.ref b1), .unset, .unset, .unset, .unset]) rfl k) ?_
  show oGW _ _ _ _ _ _ _ (T19.setTop (mkF m 42 #[.val (.int p1), .val (.ref b1), .unset, .unset, .unset, .unset] []))
  refine oSW (fun t k => XS.iloadN X19.here hx rfl (hb hby at_42) rfl k) ?_
  refine oSW (fun t k => X19.ldcInt hx hown (mvT hZ (oW hw 16 rfl)) (g := (mkF m 43 #[.val (.int p1), .val (.ref b1), .unset, .unset, .unset, .unset] [(.int p1)])) rfl (hb hby at_43) t k) ?_
  refine oSW (fun t k => XS.iand X19.here hx rfl (hb hby at_45) rfl k) ?_
  show oGW _ _ _ _ _ _ _ (T19.setTop (mkF m 46 #[.val (.int p1), .val (.ref b1), .unset, .unset, .unset, .unset] [(.int (p1 &&& (2147483647 : Int32)))]))
  refine oSW (fun t k => oBp lb_6 X19.here hx rfl (hb hby at_46) k) ?_
  refine oSW (fun t k => iremM X19 hx rfl (hb hby at_48) rfl (by decide) k) ?_
  refine oSW (fun t k => XS.istoreN X19.here hx rfl (hb hby at_49) rfl (l' := #[.val (.int p1), .val (.ref b1), .val (.int ((p1 &&& (2147483647 : Int32)) % (6 : Int32))), .unset, .unset, .unset]) rfl k) ?_
  show oGW _ _ _ _ _ _ _ (T19.setTop (mkF m 50 #[.val (.int p1), .val (.ref b1), .val (.int ((p1 &&& (2147483647 : Int32)) % (6 : Int32))), .unset, .unset, .unset] []))
  refine oSW (fun t k => XS.aloadN X19.here hx rfl (hb hby at_50) rfl rfl k) ?_
  refine oSW (fun t k => XS.iloadN X19.here hx rfl (hb hby at_51) rfl k) ?_
  show oGW _ _ _ _ _ _ _ (T19.setTop (mkF m 52 #[.val (.int p1), .val (.ref b1), .val (.int ((p1 &&& (2147483647 : Int32)) % (6 : Int32))), .unset, .unset, .unset] [(.int ((p1 &&& (2147483647 : Int32)) % (6 : Int32))), (.ref b1)]))
  rcases own_six p1 with hs20 | hs20 | hs20 | hs20 | hs20 | hs20
  · rw [hs20]
    show oGW _ _ _ _ _ _ _ (T19.setTop (mkF m 52 #[.val (.int p1), .val (.ref b1), .val (.int 0), .unset, .unset, .unset] [(.int 0), (.ref b1)]))
    obtain ⟨cl21, Ar21, qk21, Sz21, Ng21, Ha21, Gf21⟩ := id V19
    have hin21 : ¬ ((0 : Int32) < 0 ∨ cl21.slots.size ≤ ((0 : Int32)).toNatClampNeg) := (inb_of Sz21 ⟨by decide, by decide⟩)
    have hat21 : cl21.slots[((0 : Int32)).toNatClampNeg]? = some (.ref (w 0)) := Ha21.at hin21 rfl
    refine oSW (fun t k => X19.aaload hx (j := (0 : Int32)) (v := (.ref (w 0))) (by rw [e19]; exact Ar21.1) (State.isArrayOf_alike hZ.alike Ar21.2.1) rfl Ar21.2.2 hin21 hat21 (g := (mkF m 52 #[.val (.int p1), .val (.ref b1), .val (.int 0), .unset, .unset, .unset] [(.int 0), (.ref b1)])) rfl rfl (hb hby at_52) t k) ?_
    show oGW _ _ _ _ _ _ _ (T19.setTop (mkF m 53 #[.val (.int p1), .val (.ref b1), .val (.int 0), .unset, .unset, .unset] [(.ref (w 0))]))
    refine oSW (fun t k => XS.astoreN X19.here hx rfl (hb hby at_53) rfl rfl (l' := #[.val (.int p1), .val (.ref b1), .val (.int 0), .val (.ref (w 0)), .unset, .unset]) rfl k) ?_
    refine oSW (fun t k => XS.iloadN X19.here hx rfl (hb hby at_54) rfl k) ?_
    refine oSW (fun t k => oIc li_4 X19.here hx rfl (hb hby at_55) k) ?_
    show oGW _ _ _ _ _ _ _ (T19.setTop (mkF m 56 #[.val (.int p1), .val (.ref b1), .val (.int 0), .val (.ref (w 0)), .unset, .unset] [(.int 4), (.int 0)]))
    refine oSW (fun t k => XS.icmpYes X19.here hx rfl (pc0 := 56) (pc' := 63) rfl (hb hby at_56) rfl (feq (by decide)).2 (by decide) (by decide) k) ?_
    refine oSW (fun t k => oIc li_0 X19.here hx rfl (hb hby at_63) k) ?_
    refine oSW (fun t k => XS.istore X19.here hx rfl (hb hby at_64) rfl (l' := #[.val (.int p1), .val (.ref b1), .val (.int 0), .val (.ref (w 0)), .val (.int 0), .unset]) rfl k) ?_
    show oGW _ _ _ _ _ _ _ (T19.setTop (mkF m 66 #[.val (.int p1), .val (.ref b1), .val (.int 0), .val (.ref (w 0)), .val (.int 0), .unset] []))
    refine oSW (fun t k => XS.aloadN X19.here hx rfl (hb hby at_66) rfl rfl k) ?_
    obtain ⟨cq22, kq22, q22a, q22b, q22c⟩ := isOf hZ e19 ((wE0 W).ext O19.2)
    obtain ⟨_, _, ⟨T22, L22, k22, n22⟩, -, X22, ⟨Lc22, hQ22, l22, y22, z22⟩, st22⟩ := X19.virtualBack hx (y := mY0) (z := mY0) hown (mvT hZ (oW hw 17 rfl)) (mvT hZ (oW hw 18 rfl)) (notFace_of_selects (args := #[]) (mvT hZ (oW hw 20 rfl))) (mvT hZ (oW hw 20 rfl)) (mvT hZ (oW hw 19 rfl)) (by decide) (backOf (W := 0) (rm_mb_AMOUNT l Z a0 hw []  w h19 n0 O19 W ) hZ (oW hw 21 rfl) (oW hw 3 rfl) (by decide) (by decide)) q22a q22c (g := (mkF m 67 #[.val (.int p1), .val (.ref b1), .val (.int 0), .val (.ref (w 0)), .val (.int 0), .unset] [(.ref (w 0))])) rfl (by rw [hml]; rfl) (Steps.refl _) (argsL := []) (rest := []) (lenOf pd_4 rfl) rfl (by show 2 * 0 + _ ≤ _; exact Nat.le_of_eq rfl) (hb hby at_67) (fun _ _ => ⟨rfl, e19, (by decide : 1 + 0 ≤ _), (by decide : 6 + 0 ≤ _)⟩)
    dsimp only [Pt.U, Pt.locs, Pt.cells, Pt.slots] at X22 l22 y22 z22 st22 hQ22
    subst l22 y22 z22
    obtain ⟨rfl, Nq22, e22⟩ := hQ22
    have N22 := Fr.app N19 Nq22
    refine oSW (fun t k => st22.trans k) ?_
    show oGW _ _ _ _ _ _ _ (T22.setTop (mkF m 70 #[.val (.int p1), .val (.ref b1), .val (.int 0), .val (.ref (w 0)), .val (.int 0), .unset] [(.int 0)]))
    try clear st22 X19 e19
    try clear T19
    refine oSW (fun t k => XS.istore X22.here hx rfl (hb hby at_70) rfl (l' := #[.val (.int p1), .val (.ref b1), .val (.int 0), .val (.ref (w 0)), .val (.int 0), .val (.int 0)]) rfl k) ?_
    refine oSW (fun t k => XS.iload X22.here hx rfl (hb hby at_72) rfl k) ?_
    refine oSW (fun t k => XS.iload X22.here hx rfl (hb hby at_74) rfl k) ?_
    show oGW _ _ _ _ _ _ _ (T22.setTop (mkF m 76 #[.val (.int p1), .val (.ref b1), .val (.int 0), .val (.ref (w 0)), .val (.int 0), .val (.int 0)] [(.int 0), (.int 0)]))
    refine oSW (fun t k => XS.icmpYes X22.here hx rfl (pc0 := 76) (pc' := 81) rfl (hb hby at_76) rfl (teq (by decide)).1 (by decide) (by decide) k) ?_
    refine oSW (fun t k => XS.iload X22.here hx rfl (hb hby at_81) rfl k) ?_
    refine oSW (fun t k => XS.aloadN X22.here hx rfl (hb hby at_83) rfl rfl k) ?_
    show oGW _ _ _ _ _ _ _ (T22.setTop (mkF m 84 #[.val (.int p1), .val (.ref b1), .val (.int 0), .val (.ref (w 0)), .val (.int 0), .val (.int 0)] [(.ref (w 0)), (.int 0)]))
    obtain ⟨cq23, kq23, q23a, q23b, q23c⟩ := isOf hZ e22 ((wE0 W).ext O19.2)
    obtain ⟨_, _, ⟨T23, L23, k23, n23⟩, -, X23, ⟨Lc23, hQ23, l23, y23, z23⟩, st23⟩ := X22.virtualBack hx (y := mY1) (z := mY1) hown (mvT hZ (oW hw 23 rfl)) (mvT hZ (oW hw 24 rfl)) (notFace_of_selects (args := #[]) (mvT hZ (oW hw 26 rfl))) (mvT hZ (oW hw 26 rfl)) (mvT hZ (oW hw 25 rfl)) (by decide) (backOf (W := 1) (rm_ty_AMOUNT l Z a0 hw []  w h19 n0 O19 W ) hZ (oW hw 27 rfl) (oW hw 3 rfl) (by decide) (by decide)) q23a q23c (g := (mkF m 84 #[.val (.int p1), .val (.ref b1), .val (.int 0), .val (.ref (w 0)), .val (.int 0), .val (.int 0)] [(.ref (w 0)), (.int 0)])) rfl (by rw [hml]; rfl) (Steps.refl _) (argsL := []) (rest := [(.int 0)]) (lenOf pd_6 rfl) rfl (by show 2 * 0 + _ ≤ _; exact Nat.le_of_eq rfl) (hb hby at_84) (fun _ _ => ⟨rfl, e22, (by decide : 1 + 0 ≤ _), (by decide : 6 + 0 ≤ _)⟩)
    dsimp only [Pt.U, Pt.locs, Pt.cells, Pt.slots] at X23 l23 y23 z23 st23 hQ23
    subst l23 y23 z23
    obtain ⟨rfl, Nq23, e23⟩ := hQ23
    have N23 := Fr.app N22 Nq23
    refine oSW (fun t k => st23.trans k) ?_
    show oGW _ _ _ _ _ _ _ (T23.setTop (mkF m 87 #[.val (.int p1), .val (.ref b1), .val (.int 0), .val (.ref (w 0)), .val (.int 0), .val (.int 0)] [(.ref (w 6)), (.int 0)]))
    try clear st23 X22 e22
    obtain ⟨T24, X24, e24, st24⟩ := getS2 X23 hx hZ hown (host := "") (Or.inl (oW hw 32 rfl)) Via.refl e23 ((wS7 W).ext O19.2) (g := (mkF m 87 #[.val (.int p1), .val (.ref b1), .val (.int 0), .val (.ref (w 0)), .val (.int 0), .val (.int 0)] [(.ref (w 6)), (.int 0)])) rfl (hb hby at_87)
    refine oSW (fun t k => st24 t k) ?_
    try clear st24 X23 e23
    refine oSW (fun t k => Jvm.RoadKit.acmp (g := (mkF m 90 #[.val (.int p1), .val (.ref b1), .val (.int 0), .val (.ref (w 0)), .val (.int 0), .val (.int 0)] [(.ref (w 7)), (.ref (w 6)), (.int 0)])) X24 hx rfl rfl rfl (pc0 := 90) (pc' := 97) (same := false) rfl (hb hby at_90) rfl (decide_eq_false fun q => (own_neI (wF6_ordinal W) (wF7_ordinal W) (by decide)) (Value.ref.inj q)) (by decide) (by decide) k) ?_
    refine oSW (fun t k => oIc li_0 X24.here hx rfl (hb hby at_97) k) ?_
    show oGW _ _ _ _ _ _ _ (T24.setTop (mkF m 98 #[.val (.int p1), .val (.ref b1), .val (.int 0), .val (.ref (w 0)), .val (.int 0), .val (.int 0)] [(.int 0), (.int 0)]))
    refine oSW (fun t k => XS.icmpYes X24.here hx rfl (pc0 := 98) (pc' := 103) rfl (hb hby at_98) rfl (teq (by decide)).1 (by decide) (by decide) k) ?_
    refine oSW (fun t k => XS.iload X24.here hx rfl (hb hby at_103) rfl k) ?_
    refine oSW (fun t k => XS.ifYes X24.here hx rfl (pc0 := 105) (pc' := 123) rfl (hb hby at_105) rfl ((if0 _ _).trans (teq (by decide)).1) (by decide) (by decide) k) ?_
    show oGW _ _ _ _ _ _ _ (T24.setTop (mkF m 123 #[.val (.int p1), .val (.ref b1), .val (.int 0), .val (.ref (w 0)), .val (.int 0), .val (.int 0)] []))
    refine oSW (fun t k => oIc li_1 X24.here hx rfl (hb hby at_123) k) ?_
    exact own_retW0 (v := some (.int 1)) X24 (fun h => by rw [Bd.returns] at h; cases h) Bd.notSynchronized (fun fs hr => retN X24 hx (t := .boolean) Bd.returns (by simp) (hb hby at_124) hr) (by rw [e24]; exact ⟨rfl, N23⟩) (by decide) (by decide)
  · rw [hs20]
    show oGW _ _ _ _ _ _ _ (T19.setTop (mkF m 52 #[.val (.int p1), .val (.ref b1), .val (.int 1), .unset, .unset, .unset] [(.int 1), (.ref b1)]))
    obtain ⟨cl25, Ar25, qk25, Sz25, Ng25, Ha25, Gf25⟩ := id V19
    have hin25 : ¬ ((1 : Int32) < 0 ∨ cl25.slots.size ≤ ((1 : Int32)).toNatClampNeg) := (inb_of Sz25 ⟨by decide, by decide⟩)
    have hat25 : cl25.slots[((1 : Int32)).toNatClampNeg]? = some (.ref (w 1)) := Ha25.at hin25 rfl
    refine oSW (fun t k => X19.aaload hx (j := (1 : Int32)) (v := (.ref (w 1))) (by rw [e19]; exact Ar25.1) (State.isArrayOf_alike hZ.alike Ar25.2.1) rfl Ar25.2.2 hin25 hat25 (g := (mkF m 52 #[.val (.int p1), .val (.ref b1), .val (.int 1), .unset, .unset, .unset] [(.int 1), (.ref b1)])) rfl rfl (hb hby at_52) t k) ?_
    show oGW _ _ _ _ _ _ _ (T19.setTop (mkF m 53 #[.val (.int p1), .val (.ref b1), .val (.int 1), .unset, .unset, .unset] [(.ref (w 1))]))
    refine oSW (fun t k => XS.astoreN X19.here hx rfl (hb hby at_53) rfl rfl (l' := #[.val (.int p1), .val (.ref b1), .val (.int 1), .val (.ref (w 1)), .unset, .unset]) rfl k) ?_
    refine oSW (fun t k => XS.iloadN X19.here hx rfl (hb hby at_54) rfl k) ?_
    refine oSW (fun t k => oIc li_4 X19.here hx rfl (hb hby at_55) k) ?_
    show oGW _ _ _ _ _ _ _ (T19.setTop (mkF m 56 #[.val (.int p1), .val (.ref b1), .val (.int 1), .val (.ref (w 1)), .unset, .unset] [(.int 4), (.int 1)]))
    refine oSW (fun t k => XS.icmpYes X19.here hx rfl (pc0 := 56) (pc' := 63) rfl (hb hby at_56) rfl (feq (by decide)).2 (by decide) (by decide) k) ?_
    refine oSW (fun t k => oIc li_0 X19.here hx rfl (hb hby at_63) k) ?_
    refine oSW (fun t k => XS.istore X19.here hx rfl (hb hby at_64) rfl (l' := #[.val (.int p1), .val (.ref b1), .val (.int 1), .val (.ref (w 1)), .val (.int 0), .unset]) rfl k) ?_
    show oGW _ _ _ _ _ _ _ (T19.setTop (mkF m 66 #[.val (.int p1), .val (.ref b1), .val (.int 1), .val (.ref (w 1)), .val (.int 0), .unset] []))
    refine oSW (fun t k => XS.aloadN X19.here hx rfl (hb hby at_66) rfl rfl k) ?_
    obtain ⟨cq26, kq26, q26a, q26b, q26c⟩ := isOf hZ e19 ((wE1 W).ext O19.2)
    obtain ⟨_, _, ⟨T26, L26, k26, n26⟩, -, X26, ⟨Lc26, hQ26, l26, y26, z26⟩, st26⟩ := X19.virtualBack hx (y := mY0) (z := mY0) hown (mvT hZ (oW hw 17 rfl)) (mvT hZ (oW hw 18 rfl)) (notFace_of_selects (args := #[]) (mvT hZ (oW hw 20 rfl))) (mvT hZ (oW hw 20 rfl)) (mvT hZ (oW hw 19 rfl)) (by decide) (backOf (W := 0) (rm_mb_PERCENT l Z a0 hw []  w h19 n0 O19 W ) hZ (oW hw 21 rfl) (oW hw 3 rfl) (by decide) (by decide)) q26a q26c (g := (mkF m 67 #[.val (.int p1), .val (.ref b1), .val (.int 1), .val (.ref (w 1)), .val (.int 0), .unset] [(.ref (w 1))])) rfl (by rw [hml]; rfl) (Steps.refl _) (argsL := []) (rest := []) (lenOf pd_4 rfl) rfl (by show 2 * 0 + _ ≤ _; exact Nat.le_of_eq rfl) (hb hby at_67) (fun _ _ => ⟨rfl, e19, (by decide : 1 + 0 ≤ _), (by decide : 6 + 0 ≤ _)⟩)
    dsimp only [Pt.U, Pt.locs, Pt.cells, Pt.slots] at X26 l26 y26 z26 st26 hQ26
    subst l26 y26 z26
    obtain ⟨rfl, Nq26, e26⟩ := hQ26
    have N26 := Fr.app N19 Nq26
    refine oSW (fun t k => st26.trans k) ?_
    show oGW _ _ _ _ _ _ _ (T26.setTop (mkF m 70 #[.val (.int p1), .val (.ref b1), .val (.int 1), .val (.ref (w 1)), .val (.int 0), .unset] [(.int 0)]))
    try clear st26 X19 e19
    try clear T19
    refine oSW (fun t k => XS.istore X26.here hx rfl (hb hby at_70) rfl (l' := #[.val (.int p1), .val (.ref b1), .val (.int 1), .val (.ref (w 1)), .val (.int 0), .val (.int 0)]) rfl k) ?_
    refine oSW (fun t k => XS.iload X26.here hx rfl (hb hby at_72) rfl k) ?_
    refine oSW (fun t k => XS.iload X26.here hx rfl (hb hby at_74) rfl k) ?_
    show oGW _ _ _ _ _ _ _ (T26.setTop (mkF m 76 #[.val (.int p1), .val (.ref b1), .val (.int 1), .val (.ref (w 1)), .val (.int 0), .val (.int 0)] [(.int 0), (.int 0)]))
    refine oSW (fun t k => XS.icmpYes X26.here hx rfl (pc0 := 76) (pc' := 81) rfl (hb hby at_76) rfl (teq (by decide)).1 (by decide) (by decide) k) ?_
    refine oSW (fun t k => XS.iload X26.here hx rfl (hb hby at_81) rfl k) ?_
    refine oSW (fun t k => XS.aloadN X26.here hx rfl (hb hby at_83) rfl rfl k) ?_
    show oGW _ _ _ _ _ _ _ (T26.setTop (mkF m 84 #[.val (.int p1), .val (.ref b1), .val (.int 1), .val (.ref (w 1)), .val (.int 0), .val (.int 0)] [(.ref (w 1)), (.int 0)]))
    obtain ⟨cq27, kq27, q27a, q27b, q27c⟩ := isOf hZ e26 ((wE1 W).ext O19.2)
    obtain ⟨_, _, ⟨T27, L27, k27, n27⟩, -, X27, ⟨Lc27, hQ27, l27, y27, z27⟩, st27⟩ := X26.virtualBack hx (y := mY1) (z := mY1) hown (mvT hZ (oW hw 23 rfl)) (mvT hZ (oW hw 24 rfl)) (notFace_of_selects (args := #[]) (mvT hZ (oW hw 26 rfl))) (mvT hZ (oW hw 26 rfl)) (mvT hZ (oW hw 25 rfl)) (by decide) (backOf (W := 1) (rm_ty_PERCENT l Z a0 hw []  w h19 n0 O19 W ) hZ (oW hw 27 rfl) (oW hw 3 rfl) (by decide) (by decide)) q27a q27c (g := (mkF m 84 #[.val (.int p1), .val (.ref b1), .val (.int 1), .val (.ref (w 1)), .val (.int 0), .val (.int 0)] [(.ref (w 1)), (.int 0)])) rfl (by rw [hml]; rfl) (Steps.refl _) (argsL := []) (rest := [(.int 0)]) (lenOf pd_6 rfl) rfl (by show 2 * 0 + _ ≤ _; exact Nat.le_of_eq rfl) (hb hby at_84) (fun _ _ => ⟨rfl, e26, (by decide : 1 + 0 ≤ _), (by decide : 6 + 0 ≤ _)⟩)
    dsimp only [Pt.U, Pt.locs, Pt.cells, Pt.slots] at X27 l27 y27 z27 st27 hQ27
    subst l27 y27 z27
    obtain ⟨rfl, Nq27, e27⟩ := hQ27
    have N27 := Fr.app N26 Nq27
    refine oSW (fun t k => st27.trans k) ?_
    show oGW _ _ _ _ _ _ _ (T27.setTop (mkF m 87 #[.val (.int p1), .val (.ref b1), .val (.int 1), .val (.ref (w 1)), .val (.int 0), .val (.int 0)] [(.ref (w 6)), (.int 0)]))
    try clear st27 X26 e26
    obtain ⟨T28, X28, e28, st28⟩ := getS2 X27 hx hZ hown (host := "") (Or.inl (oW hw 32 rfl)) Via.refl e27 ((wS7 W).ext O19.2) (g := (mkF m 87 #[.val (.int p1), .val (.ref b1), .val (.int 1), .val (.ref (w 1)), .val (.int 0), .val (.int 0)] [(.ref (w 6)), (.int 0)])) rfl (hb hby at_87)
    refine oSW (fun t k => st28 t k) ?_
    try clear st28 X27 e27
    refine oSW (fun t k => Jvm.RoadKit.acmp (g := (mkF m 90 #[.val (.int p1), .val (.ref b1), .val (.int 1), .val (.ref (w 1)), .val (.int 0), .val (.int 0)] [(.ref (w 7)), (.ref (w 6)), (.int 0)])) X28 hx rfl rfl rfl (pc0 := 90) (pc' := 97) (same := false) rfl (hb hby at_90) rfl (decide_eq_false fun q => (own_neI (wF6_ordinal W) (wF7_ordinal W) (by decide)) (Value.ref.inj q)) (by decide) (by decide) k) ?_
    refine oSW (fun t k => oIc li_0 X28.here hx rfl (hb hby at_97) k) ?_
    show oGW _ _ _ _ _ _ _ (T28.setTop (mkF m 98 #[.val (.int p1), .val (.ref b1), .val (.int 1), .val (.ref (w 1)), .val (.int 0), .val (.int 0)] [(.int 0), (.int 0)]))
    refine oSW (fun t k => XS.icmpYes X28.here hx rfl (pc0 := 98) (pc' := 103) rfl (hb hby at_98) rfl (teq (by decide)).1 (by decide) (by decide) k) ?_
    refine oSW (fun t k => XS.iload X28.here hx rfl (hb hby at_103) rfl k) ?_
    refine oSW (fun t k => XS.ifYes X28.here hx rfl (pc0 := 105) (pc' := 123) rfl (hb hby at_105) rfl ((if0 _ _).trans (teq (by decide)).1) (by decide) (by decide) k) ?_
    show oGW _ _ _ _ _ _ _ (T28.setTop (mkF m 123 #[.val (.int p1), .val (.ref b1), .val (.int 1), .val (.ref (w 1)), .val (.int 0), .val (.int 0)] []))
    refine oSW (fun t k => oIc li_1 X28.here hx rfl (hb hby at_123) k) ?_
    exact own_retW0 (v := some (.int 1)) X28 (fun h => by rw [Bd.returns] at h; cases h) Bd.notSynchronized (fun fs hr => retN X28 hx (t := .boolean) Bd.returns (by simp) (hb hby at_124) hr) (by rw [e28]; exact ⟨rfl, N27⟩) (by decide) (by decide)
  · rw [hs20]
    show oGW _ _ _ _ _ _ _ (T19.setTop (mkF m 52 #[.val (.int p1), .val (.ref b1), .val (.int 2), .unset, .unset, .unset] [(.int 2), (.ref b1)]))
    obtain ⟨cl29, Ar29, qk29, Sz29, Ng29, Ha29, Gf29⟩ := id V19
    have hin29 : ¬ ((2 : Int32) < 0 ∨ cl29.slots.size ≤ ((2 : Int32)).toNatClampNeg) := (inb_of Sz29 ⟨by decide, by decide⟩)
    have hat29 : cl29.slots[((2 : Int32)).toNatClampNeg]? = some (.ref (w 2)) := Ha29.at hin29 rfl
    refine oSW (fun t k => X19.aaload hx (j := (2 : Int32)) (v := (.ref (w 2))) (by rw [e19]; exact Ar29.1) (State.isArrayOf_alike hZ.alike Ar29.2.1) rfl Ar29.2.2 hin29 hat29 (g := (mkF m 52 #[.val (.int p1), .val (.ref b1), .val (.int 2), .unset, .unset, .unset] [(.int 2), (.ref b1)])) rfl rfl (hb hby at_52) t k) ?_
    show oGW _ _ _ _ _ _ _ (T19.setTop (mkF m 53 #[.val (.int p1), .val (.ref b1), .val (.int 2), .unset, .unset, .unset] [(.ref (w 2))]))
    refine oSW (fun t k => XS.astoreN X19.here hx rfl (hb hby at_53) rfl rfl (l' := #[.val (.int p1), .val (.ref b1), .val (.int 2), .val (.ref (w 2)), .unset, .unset]) rfl k) ?_
    refine oSW (fun t k => XS.iloadN X19.here hx rfl (hb hby at_54) rfl k) ?_
    refine oSW (fun t k => oIc li_4 X19.here hx rfl (hb hby at_55) k) ?_
    show oGW _ _ _ _ _ _ _ (T19.setTop (mkF m 56 #[.val (.int p1), .val (.ref b1), .val (.int 2), .val (.ref (w 2)), .unset, .unset] [(.int 4), (.int 2)]))
    refine oSW (fun t k => XS.icmpYes X19.here hx rfl (pc0 := 56) (pc' := 63) rfl (hb hby at_56) rfl (feq (by decide)).2 (by decide) (by decide) k) ?_
    refine oSW (fun t k => oIc li_0 X19.here hx rfl (hb hby at_63) k) ?_
    refine oSW (fun t k => XS.istore X19.here hx rfl (hb hby at_64) rfl (l' := #[.val (.int p1), .val (.ref b1), .val (.int 2), .val (.ref (w 2)), .val (.int 0), .unset]) rfl k) ?_
    show oGW _ _ _ _ _ _ _ (T19.setTop (mkF m 66 #[.val (.int p1), .val (.ref b1), .val (.int 2), .val (.ref (w 2)), .val (.int 0), .unset] []))
    refine oSW (fun t k => XS.aloadN X19.here hx rfl (hb hby at_66) rfl rfl k) ?_
    obtain ⟨cq30, kq30, q30a, q30b, q30c⟩ := isOf hZ e19 ((wE2 W).ext O19.2)
    obtain ⟨_, _, ⟨T30, L30, k30, n30⟩, -, X30, ⟨Lc30, hQ30, l30, y30, z30⟩, st30⟩ := X19.virtualBack hx (y := mY0) (z := mY0) hown (mvT hZ (oW hw 17 rfl)) (mvT hZ (oW hw 18 rfl)) (notFace_of_selects (args := #[]) (mvT hZ (oW hw 20 rfl))) (mvT hZ (oW hw 20 rfl)) (mvT hZ (oW hw 19 rfl)) (by decide) (backOf (W := 0) (rm_mb_RATIO l Z a0 hw []  w h19 n0 O19 W ) hZ (oW hw 21 rfl) (oW hw 3 rfl) (by decide) (by decide)) q30a q30c (g := (mkF m 67 #[.val (.int p1), .val (.ref b1), .val (.int 2), .val (.ref (w 2)), .val (.int 0), .unset] [(.ref (w 2))])) rfl (by rw [hml]; rfl) (Steps.refl _) (argsL := []) (rest := []) (lenOf pd_4 rfl) rfl (by show 2 * 0 + _ ≤ _; exact Nat.le_of_eq rfl) (hb hby at_67) (fun _ _ => ⟨rfl, e19, (by decide : 1 + 0 ≤ _), (by decide : 6 + 0 ≤ _)⟩)
    dsimp only [Pt.U, Pt.locs, Pt.cells, Pt.slots] at X30 l30 y30 z30 st30 hQ30
    subst l30 y30 z30
    obtain ⟨rfl, Nq30, e30⟩ := hQ30
    have N30 := Fr.app N19 Nq30
    refine oSW (fun t k => st30.trans k) ?_
    show oGW _ _ _ _ _ _ _ (T30.setTop (mkF m 70 #[.val (.int p1), .val (.ref b1), .val (.int 2), .val (.ref (w 2)), .val (.int 0), .unset] [(.int 0)]))
    try clear st30 X19 e19
    try clear T19
    refine oSW (fun t k => XS.istore X30.here hx rfl (hb hby at_70) rfl (l' := #[.val (.int p1), .val (.ref b1), .val (.int 2), .val (.ref (w 2)), .val (.int 0), .val (.int 0)]) rfl k) ?_
    refine oSW (fun t k => XS.iload X30.here hx rfl (hb hby at_72) rfl k) ?_
    refine oSW (fun t k => XS.iload X30.here hx rfl (hb hby at_74) rfl k) ?_
    show oGW _ _ _ _ _ _ _ (T30.setTop (mkF m 76 #[.val (.int p1), .val (.ref b1), .val (.int 2), .val (.ref (w 2)), .val (.int 0), .val (.int 0)] [(.int 0), (.int 0)]))
    refine oSW (fun t k => XS.icmpYes X30.here hx rfl (pc0 := 76) (pc' := 81) rfl (hb hby at_76) rfl (teq (by decide)).1 (by decide) (by decide) k) ?_
    refine oSW (fun t k => XS.iload X30.here hx rfl (hb hby at_81) rfl k) ?_
    refine oSW (fun t k => XS.aloadN X30.here hx rfl (hb hby at_83) rfl rfl k) ?_
    show oGW _ _ _ _ _ _ _ (T30.setTop (mkF m 84 #[.val (.int p1), .val (.ref b1), .val (.int 2), .val (.ref (w 2)), .val (.int 0), .val (.int 0)] [(.ref (w 2)), (.int 0)]))
    obtain ⟨cq31, kq31, q31a, q31b, q31c⟩ := isOf hZ e30 ((wE2 W).ext O19.2)
    obtain ⟨_, _, ⟨T31, L31, k31, n31⟩, -, X31, ⟨Lc31, hQ31, l31, y31, z31⟩, st31⟩ := X30.virtualBack hx (y := mY1) (z := mY1) hown (mvT hZ (oW hw 23 rfl)) (mvT hZ (oW hw 24 rfl)) (notFace_of_selects (args := #[]) (mvT hZ (oW hw 26 rfl))) (mvT hZ (oW hw 26 rfl)) (mvT hZ (oW hw 25 rfl)) (by decide) (backOf (W := 1) (rm_ty_RATIO l Z a0 hw []  w h19 n0 O19 W ) hZ (oW hw 27 rfl) (oW hw 3 rfl) (by decide) (by decide)) q31a q31c (g := (mkF m 84 #[.val (.int p1), .val (.ref b1), .val (.int 2), .val (.ref (w 2)), .val (.int 0), .val (.int 0)] [(.ref (w 2)), (.int 0)])) rfl (by rw [hml]; rfl) (Steps.refl _) (argsL := []) (rest := [(.int 0)]) (lenOf pd_6 rfl) rfl (by show 2 * 0 + _ ≤ _; exact Nat.le_of_eq rfl) (hb hby at_84) (fun _ _ => ⟨rfl, e30, (by decide : 1 + 0 ≤ _), (by decide : 6 + 0 ≤ _)⟩)
    dsimp only [Pt.U, Pt.locs, Pt.cells, Pt.slots] at X31 l31 y31 z31 st31 hQ31
    subst l31 y31 z31
    obtain ⟨rfl, Nq31, e31⟩ := hQ31
    have N31 := Fr.app N30 Nq31
    refine oSW (fun t k => st31.trans k) ?_
    show oGW _ _ _ _ _ _ _ (T31.setTop (mkF m 87 #[.val (.int p1), .val (.ref b1), .val (.int 2), .val (.ref (w 2)), .val (.int 0), .val (.int 0)] [(.ref (w 6)), (.int 0)]))
    try clear st31 X30 e30
    obtain ⟨T32, X32, e32, st32⟩ := getS2 X31 hx hZ hown (host := "") (Or.inl (oW hw 32 rfl)) Via.refl e31 ((wS7 W).ext O19.2) (g := (mkF m 87 #[.val (.int p1), .val (.ref b1), .val (.int 2), .val (.ref (w 2)), .val (.int 0), .val (.int 0)] [(.ref (w 6)), (.int 0)])) rfl (hb hby at_87)
    refine oSW (fun t k => st32 t k) ?_
    try clear st32 X31 e31
    refine oSW (fun t k => Jvm.RoadKit.acmp (g := (mkF m 90 #[.val (.int p1), .val (.ref b1), .val (.int 2), .val (.ref (w 2)), .val (.int 0), .val (.int 0)] [(.ref (w 7)), (.ref (w 6)), (.int 0)])) X32 hx rfl rfl rfl (pc0 := 90) (pc' := 97) (same := false) rfl (hb hby at_90) rfl (decide_eq_false fun q => (own_neI (wF6_ordinal W) (wF7_ordinal W) (by decide)) (Value.ref.inj q)) (by decide) (by decide) k) ?_
    refine oSW (fun t k => oIc li_0 X32.here hx rfl (hb hby at_97) k) ?_
    show oGW _ _ _ _ _ _ _ (T32.setTop (mkF m 98 #[.val (.int p1), .val (.ref b1), .val (.int 2), .val (.ref (w 2)), .val (.int 0), .val (.int 0)] [(.int 0), (.int 0)]))
    refine oSW (fun t k => XS.icmpYes X32.here hx rfl (pc0 := 98) (pc' := 103) rfl (hb hby at_98) rfl (teq (by decide)).1 (by decide) (by decide) k) ?_
    refine oSW (fun t k => XS.iload X32.here hx rfl (hb hby at_103) rfl k) ?_
    refine oSW (fun t k => XS.ifYes X32.here hx rfl (pc0 := 105) (pc' := 123) rfl (hb hby at_105) rfl ((if0 _ _).trans (teq (by decide)).1) (by decide) (by decide) k) ?_
    show oGW _ _ _ _ _ _ _ (T32.setTop (mkF m 123 #[.val (.int p1), .val (.ref b1), .val (.int 2), .val (.ref (w 2)), .val (.int 0), .val (.int 0)] []))
    refine oSW (fun t k => oIc li_1 X32.here hx rfl (hb hby at_123) k) ?_
    exact own_retW0 (v := some (.int 1)) X32 (fun h => by rw [Bd.returns] at h; cases h) Bd.notSynchronized (fun fs hr => retN X32 hx (t := .boolean) Bd.returns (by simp) (hb hby at_124) hr) (by rw [e32]; exact ⟨rfl, N31⟩) (by decide) (by decide)
  · rw [hs20]
    show oGW _ _ _ _ _ _ _ (T19.setTop (mkF m 52 #[.val (.int p1), .val (.ref b1), .val (.int 3), .unset, .unset, .unset] [(.int 3), (.ref b1)]))
    obtain ⟨cl33, Ar33, qk33, Sz33, Ng33, Ha33, Gf33⟩ := id V19
    have hin33 : ¬ ((3 : Int32) < 0 ∨ cl33.slots.size ≤ ((3 : Int32)).toNatClampNeg) := (inb_of Sz33 ⟨by decide, by decide⟩)
    have hat33 : cl33.slots[((3 : Int32)).toNatClampNeg]? = some (.ref (w 3)) := Ha33.at hin33 rfl
    refine oSW (fun t k => X19.aaload hx (j := (3 : Int32)) (v := (.ref (w 3))) (by rw [e19]; exact Ar33.1) (State.isArrayOf_alike hZ.alike Ar33.2.1) rfl Ar33.2.2 hin33 hat33 (g := (mkF m 52 #[.val (.int p1), .val (.ref b1), .val (.int 3), .unset, .unset, .unset] [(.int 3), (.ref b1)])) rfl rfl (hb hby at_52) t k) ?_
    show oGW _ _ _ _ _ _ _ (T19.setTop (mkF m 53 #[.val (.int p1), .val (.ref b1), .val (.int 3), .unset, .unset, .unset] [(.ref (w 3))]))
    refine oSW (fun t k => XS.astoreN X19.here hx rfl (hb hby at_53) rfl rfl (l' := #[.val (.int p1), .val (.ref b1), .val (.int 3), .val (.ref (w 3)), .unset, .unset]) rfl k) ?_
    refine oSW (fun t k => XS.iloadN X19.here hx rfl (hb hby at_54) rfl k) ?_
    refine oSW (fun t k => oIc li_4 X19.here hx rfl (hb hby at_55) k) ?_
    show oGW _ _ _ _ _ _ _ (T19.setTop (mkF m 56 #[.val (.int p1), .val (.ref b1), .val (.int 3), .val (.ref (w 3)), .unset, .unset] [(.int 4), (.int 3)]))
    refine oSW (fun t k => XS.icmpYes X19.here hx rfl (pc0 := 56) (pc' := 63) rfl (hb hby at_56) rfl (feq (by decide)).2 (by decide) (by decide) k) ?_
    refine oSW (fun t k => oIc li_0 X19.here hx rfl (hb hby at_63) k) ?_
    refine oSW (fun t k => XS.istore X19.here hx rfl (hb hby at_64) rfl (l' := #[.val (.int p1), .val (.ref b1), .val (.int 3), .val (.ref (w 3)), .val (.int 0), .unset]) rfl k) ?_
    show oGW _ _ _ _ _ _ _ (T19.setTop (mkF m 66 #[.val (.int p1), .val (.ref b1), .val (.int 3), .val (.ref (w 3)), .val (.int 0), .unset] []))
    refine oSW (fun t k => XS.aloadN X19.here hx rfl (hb hby at_66) rfl rfl k) ?_
    obtain ⟨cq34, kq34, q34a, q34b, q34c⟩ := isOf hZ e19 ((wE3 W).ext O19.2)
    obtain ⟨_, _, ⟨T34, L34, k34, n34⟩, -, X34, ⟨Lc34, hQ34, l34, y34, z34⟩, st34⟩ := X19.virtualBack hx (y := mY0) (z := mY0) hown (mvT hZ (oW hw 17 rfl)) (mvT hZ (oW hw 18 rfl)) (notFace_of_selects (args := #[]) (mvT hZ (oW hw 20 rfl))) (mvT hZ (oW hw 20 rfl)) (mvT hZ (oW hw 19 rfl)) (by decide) (backOf (W := 0) (rm_mb_COUNT l Z a0 hw []  w h19 n0 O19 W ) hZ (oW hw 21 rfl) (oW hw 3 rfl) (by decide) (by decide)) q34a q34c (g := (mkF m 67 #[.val (.int p1), .val (.ref b1), .val (.int 3), .val (.ref (w 3)), .val (.int 0), .unset] [(.ref (w 3))])) rfl (by rw [hml]; rfl) (Steps.refl _) (argsL := []) (rest := []) (lenOf pd_4 rfl) rfl (by show 2 * 0 + _ ≤ _; exact Nat.le_of_eq rfl) (hb hby at_67) (fun _ _ => ⟨rfl, e19, (by decide : 1 + 0 ≤ _), (by decide : 6 + 0 ≤ _)⟩)
    dsimp only [Pt.U, Pt.locs, Pt.cells, Pt.slots] at X34 l34 y34 z34 st34 hQ34
    subst l34 y34 z34
    obtain ⟨rfl, Nq34, e34⟩ := hQ34
    have N34 := Fr.app N19 Nq34
    refine oSW (fun t k => st34.trans k) ?_
    show oGW _ _ _ _ _ _ _ (T34.setTop (mkF m 70 #[.val (.int p1), .val (.ref b1), .val (.int 3), .val (.ref (w 3)), .val (.int 0), .unset] [(.int 0)]))
    try clear st34 X19 e19
    try clear T19
    refine oSW (fun t k => XS.istore X34.here hx rfl (hb hby at_70) rfl (l' := #[.val (.int p1), .val (.ref b1), .val (.int 3), .val (.ref (w 3)), .val (.int 0), .val (.int 0)]) rfl k) ?_
    refine oSW (fun t k => XS.iload X34.here hx rfl (hb hby at_72) rfl k) ?_
    refine oSW (fun t k => XS.iload X34.here hx rfl (hb hby at_74) rfl k) ?_
    show oGW _ _ _ _ _ _ _ (T34.setTop (mkF m 76 #[.val (.int p1), .val (.ref b1), .val (.int 3), .val (.ref (w 3)), .val (.int 0), .val (.int 0)] [(.int 0), (.int 0)]))
    refine oSW (fun t k => XS.icmpYes X34.here hx rfl (pc0 := 76) (pc' := 81) rfl (hb hby at_76) rfl (teq (by decide)).1 (by decide) (by decide) k) ?_
    refine oSW (fun t k => XS.iload X34.here hx rfl (hb hby at_81) rfl k) ?_
    refine oSW (fun t k => XS.aloadN X34.here hx rfl (hb hby at_83) rfl rfl k) ?_
    show oGW _ _ _ _ _ _ _ (T34.setTop (mkF m 84 #[.val (.int p1), .val (.ref b1), .val (.int 3), .val (.ref (w 3)), .val (.int 0), .val (.int 0)] [(.ref (w 3)), (.int 0)]))
    obtain ⟨cq35, kq35, q35a, q35b, q35c⟩ := isOf hZ e34 ((wE3 W).ext O19.2)
    obtain ⟨_, _, ⟨T35, L35, k35, n35⟩, -, X35, ⟨Lc35, hQ35, l35, y35, z35⟩, st35⟩ := X34.virtualBack hx (y := mY1) (z := mY1) hown (mvT hZ (oW hw 23 rfl)) (mvT hZ (oW hw 24 rfl)) (notFace_of_selects (args := #[]) (mvT hZ (oW hw 26 rfl))) (mvT hZ (oW hw 26 rfl)) (mvT hZ (oW hw 25 rfl)) (by decide) (backOf (W := 1) (rm_ty_COUNT l Z a0 hw []  w h19 n0 O19 W ) hZ (oW hw 27 rfl) (oW hw 3 rfl) (by decide) (by decide)) q35a q35c (g := (mkF m 84 #[.val (.int p1), .val (.ref b1), .val (.int 3), .val (.ref (w 3)), .val (.int 0), .val (.int 0)] [(.ref (w 3)), (.int 0)])) rfl (by rw [hml]; rfl) (Steps.refl _) (argsL := []) (rest := [(.int 0)]) (lenOf pd_6 rfl) rfl (by show 2 * 0 + _ ≤ _; exact Nat.le_of_eq rfl) (hb hby at_84) (fun _ _ => ⟨rfl, e34, (by decide : 1 + 0 ≤ _), (by decide : 6 + 0 ≤ _)⟩)
    dsimp only [Pt.U, Pt.locs, Pt.cells, Pt.slots] at X35 l35 y35 z35 st35 hQ35
    subst l35 y35 z35
    obtain ⟨rfl, Nq35, e35⟩ := hQ35
    have N35 := Fr.app N34 Nq35
    refine oSW (fun t k => st35.trans k) ?_
    show oGW _ _ _ _ _ _ _ (T35.setTop (mkF m 87 #[.val (.int p1), .val (.ref b1), .val (.int 3), .val (.ref (w 3)), .val (.int 0), .val (.int 0)] [(.ref (w 6)), (.int 0)]))
    try clear st35 X34 e34
    obtain ⟨T36, X36, e36, st36⟩ := getS2 X35 hx hZ hown (host := "") (Or.inl (oW hw 32 rfl)) Via.refl e35 ((wS7 W).ext O19.2) (g := (mkF m 87 #[.val (.int p1), .val (.ref b1), .val (.int 3), .val (.ref (w 3)), .val (.int 0), .val (.int 0)] [(.ref (w 6)), (.int 0)])) rfl (hb hby at_87)
    refine oSW (fun t k => st36 t k) ?_
    try clear st36 X35 e35
    refine oSW (fun t k => Jvm.RoadKit.acmp (g := (mkF m 90 #[.val (.int p1), .val (.ref b1), .val (.int 3), .val (.ref (w 3)), .val (.int 0), .val (.int 0)] [(.ref (w 7)), (.ref (w 6)), (.int 0)])) X36 hx rfl rfl rfl (pc0 := 90) (pc' := 97) (same := false) rfl (hb hby at_90) rfl (decide_eq_false fun q => (own_neI (wF6_ordinal W) (wF7_ordinal W) (by decide)) (Value.ref.inj q)) (by decide) (by decide) k) ?_
    refine oSW (fun t k => oIc li_0 X36.here hx rfl (hb hby at_97) k) ?_
    show oGW _ _ _ _ _ _ _ (T36.setTop (mkF m 98 #[.val (.int p1), .val (.ref b1), .val (.int 3), .val (.ref (w 3)), .val (.int 0), .val (.int 0)] [(.int 0), (.int 0)]))
    refine oSW (fun t k => XS.icmpYes X36.here hx rfl (pc0 := 98) (pc' := 103) rfl (hb hby at_98) rfl (teq (by decide)).1 (by decide) (by decide) k) ?_
    refine oSW (fun t k => XS.iload X36.here hx rfl (hb hby at_103) rfl k) ?_
    refine oSW (fun t k => XS.ifYes X36.here hx rfl (pc0 := 105) (pc' := 123) rfl (hb hby at_105) rfl ((if0 _ _).trans (teq (by decide)).1) (by decide) (by decide) k) ?_
    show oGW _ _ _ _ _ _ _ (T36.setTop (mkF m 123 #[.val (.int p1), .val (.ref b1), .val (.int 3), .val (.ref (w 3)), .val (.int 0), .val (.int 0)] []))
    refine oSW (fun t k => oIc li_1 X36.here hx rfl (hb hby at_123) k) ?_
    exact own_retW0 (v := some (.int 1)) X36 (fun h => by rw [Bd.returns] at h; cases h) Bd.notSynchronized (fun fs hr => retN X36 hx (t := .boolean) Bd.returns (by simp) (hb hby at_124) hr) (by rw [e36]; exact ⟨rfl, N35⟩) (by decide) (by decide)
  · rw [hs20]
    show oGW _ _ _ _ _ _ _ (T19.setTop (mkF m 52 #[.val (.int p1), .val (.ref b1), .val (.int 4), .unset, .unset, .unset] [(.int 4), (.ref b1)]))
    obtain ⟨cl37, Ar37, qk37, Sz37, Ng37, Ha37, Gf37⟩ := id V19
    have hin37 : ¬ ((4 : Int32) < 0 ∨ cl37.slots.size ≤ ((4 : Int32)).toNatClampNeg) := (inb_of Sz37 ⟨by decide, by decide⟩)
    have hat37 : cl37.slots[((4 : Int32)).toNatClampNeg]? = some (.ref (w 4)) := Ha37.at hin37 rfl
    refine oSW (fun t k => X19.aaload hx (j := (4 : Int32)) (v := (.ref (w 4))) (by rw [e19]; exact Ar37.1) (State.isArrayOf_alike hZ.alike Ar37.2.1) rfl Ar37.2.2 hin37 hat37 (g := (mkF m 52 #[.val (.int p1), .val (.ref b1), .val (.int 4), .unset, .unset, .unset] [(.int 4), (.ref b1)])) rfl rfl (hb hby at_52) t k) ?_
    show oGW _ _ _ _ _ _ _ (T19.setTop (mkF m 53 #[.val (.int p1), .val (.ref b1), .val (.int 4), .unset, .unset, .unset] [(.ref (w 4))]))
    refine oSW (fun t k => XS.astoreN X19.here hx rfl (hb hby at_53) rfl rfl (l' := #[.val (.int p1), .val (.ref b1), .val (.int 4), .val (.ref (w 4)), .unset, .unset]) rfl k) ?_
    refine oSW (fun t k => XS.iloadN X19.here hx rfl (hb hby at_54) rfl k) ?_
    refine oSW (fun t k => oIc li_4 X19.here hx rfl (hb hby at_55) k) ?_
    show oGW _ _ _ _ _ _ _ (T19.setTop (mkF m 56 #[.val (.int p1), .val (.ref b1), .val (.int 4), .val (.ref (w 4)), .unset, .unset] [(.int 4), (.int 4)]))
    refine oSW (fun t k => XS.icmpNo X19.here hx rfl (hb hby at_56) rfl (teq (by decide)).2 k) ?_
    refine oSW (fun t k => oIc li_1 X19.here hx rfl (hb hby at_59) k) ?_
    refine oSW (fun t k => XS.goto X19.here hx rfl (pc0 := 60) (pc' := 64) rfl (hb hby at_60) (by decide) (by decide) k) ?_
    show oGW _ _ _ _ _ _ _ (T19.setTop (mkF m 64 #[.val (.int p1), .val (.ref b1), .val (.int 4), .val (.ref (w 4)), .unset, .unset] [(.int 1)]))
    refine oSW (fun t k => XS.istore X19.here hx rfl (hb hby at_64) rfl (l' := #[.val (.int p1), .val (.ref b1), .val (.int 4), .val (.ref (w 4)), .val (.int 1), .unset]) rfl k) ?_
    refine oSW (fun t k => XS.aloadN X19.here hx rfl (hb hby at_66) rfl rfl k) ?_
    obtain ⟨cq38, kq38, q38a, q38b, q38c⟩ := isOf hZ e19 ((wE4 W).ext O19.2)
    obtain ⟨_, _, ⟨T38, L38, k38, n38⟩, -, X38, ⟨Lc38, hQ38, l38, y38, z38⟩, st38⟩ := X19.virtualBack hx (y := mY0) (z := mY0) hown (mvT hZ (oW hw 17 rfl)) (mvT hZ (oW hw 18 rfl)) (notFace_of_selects (args := #[]) (mvT hZ (oW hw 20 rfl))) (mvT hZ (oW hw 20 rfl)) (mvT hZ (oW hw 19 rfl)) (by decide) (backOf (W := 0) (rm_mb_Kind_DATE l Z a0 hw []  w h19 n0 O19 W ) hZ (oW hw 21 rfl) (oW hw 3 rfl) (by decide) (by decide)) q38a q38c (g := (mkF m 67 #[.val (.int p1), .val (.ref b1), .val (.int 4), .val (.ref (w 4)), .val (.int 1), .unset] [(.ref (w 4))])) rfl (by rw [hml]; rfl) (Steps.refl _) (argsL := []) (rest := []) (lenOf pd_4 rfl) rfl (by show 2 * 0 + _ ≤ _; exact Nat.le_of_eq rfl) (hb hby at_67) (fun _ _ => ⟨rfl, e19, (by decide : 1 + 0 ≤ _), (by decide : 6 + 0 ≤ _)⟩)
    dsimp only [Pt.U, Pt.locs, Pt.cells, Pt.slots] at X38 l38 y38 z38 st38 hQ38
    subst l38 y38 z38
    obtain ⟨rfl, Nq38, e38⟩ := hQ38
    have N38 := Fr.app N19 Nq38
    refine oSW (fun t k => st38.trans k) ?_
    show oGW _ _ _ _ _ _ _ (T38.setTop (mkF m 70 #[.val (.int p1), .val (.ref b1), .val (.int 4), .val (.ref (w 4)), .val (.int 1), .unset] [(.int 1)]))
    try clear st38 X19 e19
    try clear T19
    refine oSW (fun t k => XS.istore X38.here hx rfl (hb hby at_70) rfl (l' := #[.val (.int p1), .val (.ref b1), .val (.int 4), .val (.ref (w 4)), .val (.int 1), .val (.int 1)]) rfl k) ?_
    refine oSW (fun t k => XS.iload X38.here hx rfl (hb hby at_72) rfl k) ?_
    refine oSW (fun t k => XS.iload X38.here hx rfl (hb hby at_74) rfl k) ?_
    show oGW _ _ _ _ _ _ _ (T38.setTop (mkF m 76 #[.val (.int p1), .val (.ref b1), .val (.int 4), .val (.ref (w 4)), .val (.int 1), .val (.int 1)] [(.int 1), (.int 1)]))
    refine oSW (fun t k => XS.icmpYes X38.here hx rfl (pc0 := 76) (pc' := 81) rfl (hb hby at_76) rfl (teq (by decide)).1 (by decide) (by decide) k) ?_
    refine oSW (fun t k => XS.iload X38.here hx rfl (hb hby at_81) rfl k) ?_
    refine oSW (fun t k => XS.aloadN X38.here hx rfl (hb hby at_83) rfl rfl k) ?_
    show oGW _ _ _ _ _ _ _ (T38.setTop (mkF m 84 #[.val (.int p1), .val (.ref b1), .val (.int 4), .val (.ref (w 4)), .val (.int 1), .val (.int 1)] [(.ref (w 4)), (.int 1)]))
    obtain ⟨cq39, kq39, q39a, q39b, q39c⟩ := isOf hZ e38 ((wE4 W).ext O19.2)
    obtain ⟨_, _, ⟨T39, L39, k39, n39⟩, -, X39, ⟨Lc39, hQ39, l39, y39, z39⟩, st39⟩ := X38.virtualBack hx (y := mY1) (z := mY1) hown (mvT hZ (oW hw 23 rfl)) (mvT hZ (oW hw 24 rfl)) (notFace_of_selects (args := #[]) (mvT hZ (oW hw 26 rfl))) (mvT hZ (oW hw 26 rfl)) (mvT hZ (oW hw 25 rfl)) (by decide) (backOf (W := 1) (rm_ty_Kind_DATE l Z a0 hw []  w h19 n0 O19 W ) hZ (oW hw 27 rfl) (oW hw 3 rfl) (by decide) (by decide)) q39a q39c (g := (mkF m 84 #[.val (.int p1), .val (.ref b1), .val (.int 4), .val (.ref (w 4)), .val (.int 1), .val (.int 1)] [(.ref (w 4)), (.int 1)])) rfl (by rw [hml]; rfl) (Steps.refl _) (argsL := []) (rest := [(.int 1)]) (lenOf pd_6 rfl) rfl (by show 2 * 0 + _ ≤ _; exact Nat.le_of_eq rfl) (hb hby at_84) (fun _ _ => ⟨rfl, e38, (by decide : 1 + 0 ≤ _), (by decide : 6 + 0 ≤ _)⟩)
    dsimp only [Pt.U, Pt.locs, Pt.cells, Pt.slots] at X39 l39 y39 z39 st39 hQ39
    subst l39 y39 z39
    obtain ⟨rfl, Nq39, e39⟩ := hQ39
    have N39 := Fr.app N38 Nq39
    refine oSW (fun t k => st39.trans k) ?_
    show oGW _ _ _ _ _ _ _ (T39.setTop (mkF m 87 #[.val (.int p1), .val (.ref b1), .val (.int 4), .val (.ref (w 4)), .val (.int 1), .val (.int 1)] [(.ref (w 7)), (.int 1)]))
    try clear st39 X38 e38
    obtain ⟨T40, X40, e40, st40⟩ := getS2 X39 hx hZ hown (host := "") (Or.inl (oW hw 32 rfl)) Via.refl e39 ((wS7 W).ext O19.2) (g := (mkF m 87 #[.val (.int p1), .val (.ref b1), .val (.int 4), .val (.ref (w 4)), .val (.int 1), .val (.int 1)] [(.ref (w 7)), (.int 1)])) rfl (hb hby at_87)
    refine oSW (fun t k => st40 t k) ?_
    try clear st40 X39 e39
    refine oSW (fun t k => Jvm.RoadKit.acmp (g := (mkF m 90 #[.val (.int p1), .val (.ref b1), .val (.int 4), .val (.ref (w 4)), .val (.int 1), .val (.int 1)] [(.ref (w 7)), (.ref (w 7)), (.int 1)])) X40 hx rfl rfl rfl (pc0 := 90) (pc' := 93) (same := true) rfl (hb hby at_90) rfl (decide_eq_true rfl) (by decide) (by decide) k) ?_
    refine oSW (fun t k => oIc li_1 X40.here hx rfl (hb hby at_93) k) ?_
    show oGW _ _ _ _ _ _ _ (T40.setTop (mkF m 94 #[.val (.int p1), .val (.ref b1), .val (.int 4), .val (.ref (w 4)), .val (.int 1), .val (.int 1)] [(.int 1), (.int 1)]))
    refine oSW (fun t k => XS.goto X40.here hx rfl (pc0 := 94) (pc' := 98) rfl (hb hby at_94) (by decide) (by decide) k) ?_
    refine oSW (fun t k => XS.icmpYes X40.here hx rfl (pc0 := 98) (pc' := 103) rfl (hb hby at_98) rfl (teq (by decide)).1 (by decide) (by decide) k) ?_
    refine oSW (fun t k => XS.iload X40.here hx rfl (hb hby at_103) rfl k) ?_
    show oGW _ _ _ _ _ _ _ (T40.setTop (mkF m 105 #[.val (.int p1), .val (.ref b1), .val (.int 4), .val (.ref (w 4)), .val (.int 1), .val (.int 1)] [(.int 1)]))
    refine oSW (fun t k => XS.ifNo X40.here hx rfl (hb hby at_105) rfl ((if0 _ _).trans (feq (by decide)).1) k) ?_
    refine oSW (fun t k => XS.aloadN X40.here hx rfl (hb hby at_108) rfl rfl k) ?_
    obtain ⟨a41, T41, h41, k41, bb41, kc41, X41, e41, E41, S41, hk41, hZ41, hown41, Es41, Fc41, Fv41, Va41, -, -, -, st41⟩ := ldcSV (s := s) (vm0 := s.vm) X40 hx hZ hown (oW hw 35 rfl) (own_wS hw) e40 (k0 := s.heap.size) ((State.WarmedH.refl s).since _) (by rw [hUZ]; exact O19.2.1) (by rw [hUZ, O0.1]; exact N39) (fun b cl q => by rw [hUZ]; exact q) (Ts := []) (by rw [hUZ]; exact IB.start) List.not_mem_nil hheld hcw (vs := []) (z := 0) ⟨by simp, by simp⟩ (by decide) (by decide) (g := (mkF m 109 #[.val (.int p1), .val (.ref b1), .val (.int 4), .val (.ref (w 4)), .val (.int 1), .val (.int 1)] [(.ref (w 4))])) rfl (hb hby at_109) (n := 0) (by decide) (by decide) (by decide) (by decide)
    have O41 := O19.ext E41
    refine oSW (fun t k => st41 t k) ?_
    show oGW _ _ _ _ _ _ _ (T41.setTop (mkF m 111 #[.val (.int p1), .val (.ref b1), .val (.int 4), .val (.ref (w 4)), .val (.int 1), .val (.int 1)] [(.ref a41), (.ref (w 4))]))
    obtain ⟨cq42, kq42, q42a, q42b, q42c⟩ := isOf hZ41 e41 ((wE4 W).ext O41.2)
    obtain ⟨_, _, ⟨T42, L42, k42, n42⟩, -, X42, ⟨Lc42, hQ42, l42, y42, z42⟩, st42⟩ := X41.virtualBack hx (y := mY11) (z := mY11) hown41 (mvT hZ41 (oW hw 43 rfl)) (mvT hZ41 (oW hw 44 rfl)) (notFace_of_selects (args := #[]) (mvT hZ41 (oW hw 46 rfl))) (mvT hZ41 (oW hw 46 rfl)) (mvT hZ41 (oW hw 45 rfl)) (by decide) (backOf (W := 0) (rm_read l Z a0 hw [] a41 bb41 kc41 cs w h41 n0 O41 W Es41 Fc41 Fv41 Va41 S_cs hcs) hZ41 (oW hw 47 rfl) (oW hw 3 rfl) (by decide) (by decide)) q42a q42c (g := (mkF m 111 #[.val (.int p1), .val (.ref b1), .val (.int 4), .val (.ref (w 4)), .val (.int 1), .val (.int 1)] [(.ref a41), (.ref (w 4))])) rfl (by rw [hml]; rfl) (Steps.refl _) (argsL := [(.ref a41)]) (rest := []) (lenOf pd_7 rfl) rfl (by show 2 * 0 + _ ≤ _; exact Nat.le_of_eq rfl) (hb hby at_111) (fun _ _ => ⟨rfl, e41, (by decide : 3 + 0 ≤ _), (by decide : 10 + 0 ≤ _)⟩)
    dsimp only [Pt.U, Pt.locs, Pt.cells, Pt.slots] at X42 l42 y42 z42 st42 hQ42
    subst l42 y42 z42
    obtain ⟨rfl, Nq42, e42⟩ := hQ42
    have N42 := Fr.app N39 Nq42
    refine oSW (fun t k => st42.trans k) ?_
    show oGW _ _ _ _ _ _ _ (T42.setTop (mkF m 114 #[.val (.int p1), .val (.ref b1), .val (.int 4), .val (.ref (w 4)), .val (.int 1), .val (.int 1)] [.null]))
    try clear st42 X41 e41
    try clear T41
    refine oSW (fun t k => XS.ifnonnullNo X42.here hx rfl (hb hby at_114) rfl k) ?_
    refine oSW (fun t k => oIc li_1 X42.here hx rfl (hb hby at_117) k) ?_
    refine oSW (fun t k => XS.goto X42.here hx rfl (pc0 := 118) (pc' := 122) rfl (hb hby at_118) (by decide) (by decide) k) ?_
    show oGW _ _ _ _ _ _ _ (T42.setTop (mkF m 122 #[.val (.int p1), .val (.ref b1), .val (.int 4), .val (.ref (w 4)), .val (.int 1), .val (.int 1)] [(.int 1)]))
    exact own_retW1 S41 (by rw [e42]; exact hk41) (v := some (.int 1)) X42 (fun h => by rw [Bd.returns] at h; cases h) Bd.notSynchronized (fun fs hr => retN X42 hx (t := .boolean) Bd.returns (by simp) (hb hby at_122) hr) (by rw [e42]; exact ⟨rfl, N42⟩) (by decide) (by decide)
  · rw [hs20]
    show oGW _ _ _ _ _ _ _ (T19.setTop (mkF m 52 #[.val (.int p1), .val (.ref b1), .val (.int 5), .unset, .unset, .unset] [(.int 5), (.ref b1)]))
    obtain ⟨cl43, Ar43, qk43, Sz43, Ng43, Ha43, Gf43⟩ := id V19
    have hin43 : ¬ ((5 : Int32) < 0 ∨ cl43.slots.size ≤ ((5 : Int32)).toNatClampNeg) := (inb_of Sz43 ⟨by decide, by decide⟩)
    have hat43 : cl43.slots[((5 : Int32)).toNatClampNeg]? = some (.ref (w 5)) := Ha43.at hin43 rfl
    refine oSW (fun t k => X19.aaload hx (j := (5 : Int32)) (v := (.ref (w 5))) (by rw [e19]; exact Ar43.1) (State.isArrayOf_alike hZ.alike Ar43.2.1) rfl Ar43.2.2 hin43 hat43 (g := (mkF m 52 #[.val (.int p1), .val (.ref b1), .val (.int 5), .unset, .unset, .unset] [(.int 5), (.ref b1)])) rfl rfl (hb hby at_52) t k) ?_
    show oGW _ _ _ _ _ _ _ (T19.setTop (mkF m 53 #[.val (.int p1), .val (.ref b1), .val (.int 5), .unset, .unset, .unset] [(.ref (w 5))]))
    refine oSW (fun t k => XS.astoreN X19.here hx rfl (hb hby at_53) rfl rfl (l' := #[.val (.int p1), .val (.ref b1), .val (.int 5), .val (.ref (w 5)), .unset, .unset]) rfl k) ?_
    refine oSW (fun t k => XS.iloadN X19.here hx rfl (hb hby at_54) rfl k) ?_
    refine oSW (fun t k => oIc li_4 X19.here hx rfl (hb hby at_55) k) ?_
    show oGW _ _ _ _ _ _ _ (T19.setTop (mkF m 56 #[.val (.int p1), .val (.ref b1), .val (.int 5), .val (.ref (w 5)), .unset, .unset] [(.int 4), (.int 5)]))
    refine oSW (fun t k => XS.icmpYes X19.here hx rfl (pc0 := 56) (pc' := 63) rfl (hb hby at_56) rfl (feq (by decide)).2 (by decide) (by decide) k) ?_
    refine oSW (fun t k => oIc li_0 X19.here hx rfl (hb hby at_63) k) ?_
    refine oSW (fun t k => XS.istore X19.here hx rfl (hb hby at_64) rfl (l' := #[.val (.int p1), .val (.ref b1), .val (.int 5), .val (.ref (w 5)), .val (.int 0), .unset]) rfl k) ?_
    show oGW _ _ _ _ _ _ _ (T19.setTop (mkF m 66 #[.val (.int p1), .val (.ref b1), .val (.int 5), .val (.ref (w 5)), .val (.int 0), .unset] []))
    refine oSW (fun t k => XS.aloadN X19.here hx rfl (hb hby at_66) rfl rfl k) ?_
    obtain ⟨cq44, kq44, q44a, q44b, q44c⟩ := isOf hZ e19 ((wE5 W).ext O19.2)
    obtain ⟨_, _, ⟨T44, L44, k44, n44⟩, -, X44, ⟨Lc44, hQ44, l44, y44, z44⟩, st44⟩ := X19.virtualBack hx (y := mY0) (z := mY0) hown (mvT hZ (oW hw 17 rfl)) (mvT hZ (oW hw 18 rfl)) (notFace_of_selects (args := #[]) (mvT hZ (oW hw 20 rfl))) (mvT hZ (oW hw 20 rfl)) (mvT hZ (oW hw 19 rfl)) (by decide) (backOf (W := 0) (rm_mb_Kind_FLAG l Z a0 hw []  w h19 n0 O19 W ) hZ (oW hw 21 rfl) (oW hw 3 rfl) (by decide) (by decide)) q44a q44c (g := (mkF m 67 #[.val (.int p1), .val (.ref b1), .val (.int 5), .val (.ref (w 5)), .val (.int 0), .unset] [(.ref (w 5))])) rfl (by rw [hml]; rfl) (Steps.refl _) (argsL := []) (rest := []) (lenOf pd_4 rfl) rfl (by show 2 * 0 + _ ≤ _; exact Nat.le_of_eq rfl) (hb hby at_67) (fun _ _ => ⟨rfl, e19, (by decide : 1 + 0 ≤ _), (by decide : 6 + 0 ≤ _)⟩)
    dsimp only [Pt.U, Pt.locs, Pt.cells, Pt.slots] at X44 l44 y44 z44 st44 hQ44
    subst l44 y44 z44
    obtain ⟨rfl, Nq44, e44⟩ := hQ44
    have N44 := Fr.app N19 Nq44
    refine oSW (fun t k => st44.trans k) ?_
    show oGW _ _ _ _ _ _ _ (T44.setTop (mkF m 70 #[.val (.int p1), .val (.ref b1), .val (.int 5), .val (.ref (w 5)), .val (.int 0), .unset] [(.int 0)]))
    try clear st44 X19 e19
    try clear T19
    refine oSW (fun t k => XS.istore X44.here hx rfl (hb hby at_70) rfl (l' := #[.val (.int p1), .val (.ref b1), .val (.int 5), .val (.ref (w 5)), .val (.int 0), .val (.int 0)]) rfl k) ?_
    refine oSW (fun t k => XS.iload X44.here hx rfl (hb hby at_72) rfl k) ?_
    refine oSW (fun t k => XS.iload X44.here hx rfl (hb hby at_74) rfl k) ?_
    show oGW _ _ _ _ _ _ _ (T44.setTop (mkF m 76 #[.val (.int p1), .val (.ref b1), .val (.int 5), .val (.ref (w 5)), .val (.int 0), .val (.int 0)] [(.int 0), (.int 0)]))
    refine oSW (fun t k => XS.icmpYes X44.here hx rfl (pc0 := 76) (pc' := 81) rfl (hb hby at_76) rfl (teq (by decide)).1 (by decide) (by decide) k) ?_
    refine oSW (fun t k => XS.iload X44.here hx rfl (hb hby at_81) rfl k) ?_
    refine oSW (fun t k => XS.aloadN X44.here hx rfl (hb hby at_83) rfl rfl k) ?_
    show oGW _ _ _ _ _ _ _ (T44.setTop (mkF m 84 #[.val (.int p1), .val (.ref b1), .val (.int 5), .val (.ref (w 5)), .val (.int 0), .val (.int 0)] [(.ref (w 5)), (.int 0)]))
    obtain ⟨cq45, kq45, q45a, q45b, q45c⟩ := isOf hZ e44 ((wE5 W).ext O19.2)
    obtain ⟨_, _, ⟨T45, L45, k45, n45⟩, -, X45, ⟨Lc45, hQ45, l45, y45, z45⟩, st45⟩ := X44.virtualBack hx (y := mY1) (z := mY1) hown (mvT hZ (oW hw 23 rfl)) (mvT hZ (oW hw 24 rfl)) (notFace_of_selects (args := #[]) (mvT hZ (oW hw 26 rfl))) (mvT hZ (oW hw 26 rfl)) (mvT hZ (oW hw 25 rfl)) (by decide) (backOf (W := 1) (rm_ty_Kind_FLAG l Z a0 hw []  w h19 n0 O19 W ) hZ (oW hw 27 rfl) (oW hw 3 rfl) (by decide) (by decide)) q45a q45c (g := (mkF m 84 #[.val (.int p1), .val (.ref b1), .val (.int 5), .val (.ref (w 5)), .val (.int 0), .val (.int 0)] [(.ref (w 5)), (.int 0)])) rfl (by rw [hml]; rfl) (Steps.refl _) (argsL := []) (rest := [(.int 0)]) (lenOf pd_6 rfl) rfl (by show 2 * 0 + _ ≤ _; exact Nat.le_of_eq rfl) (hb hby at_84) (fun _ _ => ⟨rfl, e44, (by decide : 1 + 0 ≤ _), (by decide : 6 + 0 ≤ _)⟩)
    dsimp only [Pt.U, Pt.locs, Pt.cells, Pt.slots] at X45 l45 y45 z45 st45 hQ45
    subst l45 y45 z45
    obtain ⟨rfl, Nq45, e45⟩ := hQ45
    have N45 := Fr.app N44 Nq45
    refine oSW (fun t k => st45.trans k) ?_
    show oGW _ _ _ _ _ _ _ (T45.setTop (mkF m 87 #[.val (.int p1), .val (.ref b1), .val (.int 5), .val (.ref (w 5)), .val (.int 0), .val (.int 0)] [(.ref (w 8)), (.int 0)]))
    try clear st45 X44 e44
    obtain ⟨T46, X46, e46, st46⟩ := getS2 X45 hx hZ hown (host := "") (Or.inl (oW hw 32 rfl)) Via.refl e45 ((wS7 W).ext O19.2) (g := (mkF m 87 #[.val (.int p1), .val (.ref b1), .val (.int 5), .val (.ref (w 5)), .val (.int 0), .val (.int 0)] [(.ref (w 8)), (.int 0)])) rfl (hb hby at_87)
    refine oSW (fun t k => st46 t k) ?_
    try clear st46 X45 e45
    refine oSW (fun t k => Jvm.RoadKit.acmp (g := (mkF m 90 #[.val (.int p1), .val (.ref b1), .val (.int 5), .val (.ref (w 5)), .val (.int 0), .val (.int 0)] [(.ref (w 7)), (.ref (w 8)), (.int 0)])) X46 hx rfl rfl rfl (pc0 := 90) (pc' := 97) (same := false) rfl (hb hby at_90) rfl (decide_eq_false fun q => (own_neI (wF8_ordinal W) (wF7_ordinal W) (by decide)) (Value.ref.inj q)) (by decide) (by decide) k) ?_
    refine oSW (fun t k => oIc li_0 X46.here hx rfl (hb hby at_97) k) ?_
    show oGW _ _ _ _ _ _ _ (T46.setTop (mkF m 98 #[.val (.int p1), .val (.ref b1), .val (.int 5), .val (.ref (w 5)), .val (.int 0), .val (.int 0)] [(.int 0), (.int 0)]))
    refine oSW (fun t k => XS.icmpYes X46.here hx rfl (pc0 := 98) (pc' := 103) rfl (hb hby at_98) rfl (teq (by decide)).1 (by decide) (by decide) k) ?_
    refine oSW (fun t k => XS.iload X46.here hx rfl (hb hby at_103) rfl k) ?_
    refine oSW (fun t k => XS.ifYes X46.here hx rfl (pc0 := 105) (pc' := 123) rfl (hb hby at_105) rfl ((if0 _ _).trans (teq (by decide)).1) (by decide) (by decide) k) ?_
    show oGW _ _ _ _ _ _ _ (T46.setTop (mkF m 123 #[.val (.int p1), .val (.ref b1), .val (.int 5), .val (.ref (w 5)), .val (.int 0), .val (.int 0)] []))
    refine oSW (fun t k => oIc li_1 X46.here hx rfl (hb hby at_123) k) ?_
    exact own_retW0 (v := some (.int 1)) X46 (fun h => by rw [Bd.returns] at h; cases h) Bd.notSynchronized (fun fs hr => retN X46 hx (t := .boolean) Bd.returns (by simp) (hb hby at_124) hr) (by rw [e46]; exact ⟨rfl, N45⟩) (by decide) (by decide)
set_option maxRecDepth 65536 in
set_option maxHeartbeats 40000000 in
theorem comes_1 {Post : Tables → Env → Array Value → State → Outcome → State → Prop} (hpost : ∀ tb e args s v u, (limb_1_1.after args s (.returned v) u = true ∧ limb_1_2.after args s (.returned v) u = true ∧ True) → ReturnedEndW s (.returned v) u (Jvm.fieldLocs frame_1_writes args s ++ Jvm.arrayLocs frame_1_arrays args s ++ Jvm.staticLocs frame_1_statics s) 16 1152 → Post tb e args s (.returned v) u) :
    ArmFor flags0 classFile x code maxLocals ret World_1 tables_1 room_1 Calls_1 rest_1 Pre_1 Post := by
  intro l hfl _ _ p e ha hc hk s m args below hf hA hF happ hP
  obtain ⟨hcalls, hrest, hpre⟩ := hP
  obtain ⟨-, -, -, hnamed, -, -, -, hat⟩ := (Spec.applies_iff hf).mp happ
  obtain ⟨hg, hn⟩ := and_e (Cond.before_iff.mp (show (Jvm.Cond.and given_1 narrow_1).before args s = true from hpre))
  obtain ⟨g0, g1⟩ := and_e hg
  obtain ⟨w0, rfl⟩ : ∃ w0 : Value, args = #[w0] := by
    have hs : args.size = 1 := by simpa [Cond.value, given_1] using g0
    obtain ⟨L⟩ := args
    match L, hs with
    | [w0], _ => exact ⟨w0, rfl⟩
  have hw := fun d (hd : d ∈ tables_1) => atoms_spec (ws := Jvm.Cond.code x code maxLocals ret :: tables_1) hat d (List.mem_cons_of_mem _ hd)
  have hfit : Fit s := fun {y c} hc i hi => by
    obtain ⟨ha, rfl⟩ := Array.getElem?_eq_some_iff.mp hc
    have q := List.all_eq_true.mp ((Array.all_eq_true_iff_forall_mem.mp hF) _ (Array.getElem_mem ha)) i (List.mem_range.mpr hi)
    simpa [Array.getElem?_eq_getElem hi] using q
  obtain ⟨i0, ei0⟩ := is_v g1
  obtain rfl : w0 = (.int i0) := Option.some.inj ei0
  obtain ⟨hsets, hown0⟩ := atoms_of _ (rest_1_c_eq ▸ (show rest_1_c.before _ s = true from hrest))
  have hr0 := Cond.before_iff.mp hown0
  obtain ⟨cs, ecs⟩ := is_v (Cond.before_iff.mp (hsets _ (List.mem_of_getElem? (i := 1) rfl)))
  have S_cs := Sta.start ecs (Or.inl (hsets _ (List.mem_of_getElem? (i := 0) rfl)))
  have hcs := gotF (Cond.eq_ints ecs (Term.int_eval (0))) (not_v (Cond.before_iff.mp (hsets _ (List.mem_of_getElem? (i := 2) rfl))))
  have hheld : Jvm.Lit.constHeld s "com/example/planwright/planwright/model/KindMayBeNonePinLaw" 42 := hcalls.1 ("com/example/planwright/planwright/model/KindMayBeNonePinLaw", 42) (List.mem_cons_self ..)
  have hcw : Jvm.Lit.compactW.before _ s = true := (hsets _ (List.mem_of_getElem? (i := 2) rfl))
  obtain ⟨w, W⟩ := own_world hw hfit hsets hn
  obtain ⟨n, o, h1, h2, h3, _, L, rfl, ⟨rfl, N⟩, hq⟩ := rm_law l s _ hw tables_1 i0 cs w s.heap s.heap.size (Old.start s) W hheld hcw S_cs hcs p e ha hc hk s m _ below hf ((Spec.applies_iff_loose hf).mp happ).1 ⟨rfl, State.Warmed39.refl s, rfl, rfl⟩ trivial
  refine ⟨n, _, h1, h2, h3, hpost _ _ _ _ _ _ ⟨Cond.after_iff.mpr rfl, Cond.after_iff.mpr (eq_i res_at (Term.int_eval (1)) rfl), trivial⟩ ⟨hq.1, hq.2.1, hq.2.2.1, (hq.2.2.2.sift fun y hy => Or.inr (N y hy)).mono (by decide) (by decide)⟩⟩
theorem main_1_1 : Claimed_1_1 := comes_1 fun _ _ _ _ _ _ h hF => ⟨h.1, hF⟩
theorem main_1_2 : Claimed_1_2 := comes_1 fun _ _ _ _ _ _ h hF => ⟨h.2.1, hF⟩
end Jvm.Pilot.@@N@@
namespace Jvm.Pilot.@@N@@
open Jvm Jvm.ClassFile Sem Op Lib Jvm.Free Jvm.Stand Jvm.Pilot.@@N@@.Jvm.D
/-! MADE BY PROGRAM (witnessworld.py) out of the Statement's table words and the real class files: 21 classes; the members and pool entries that the words name. The judged class is class 1, her method 1. -/
namespace start1
open Jvm.ClassFile
def u (s : String) : CpInfo := .utf8 (stringToUtf16 s)
/-- a pool by its gaps: so many unusable entries, then the entry; so many at the end -/
def gap : Nat → List CpInfo → List CpInfo
  | 0, r => r
  | n + 1, r => .unusable :: gap n r
def poolList (es : List (Nat × CpInfo)) (last : Nat) : List CpInfo := es.foldr (fun e r => gap e.1 (e.2 :: r)) (gap last [])
def pool (es : List (Nat × CpInfo)) (last : Nat) : Array CpInfo := ⟨poolList es last⟩
def fileOf (pool : Array CpInfo) (this : Nat) (attrs : Array Attribute := #[]) (ms : Array MethodInfo := #[]) (fl : Nat := 33) (sup : Nat := 0) (ifs : Array Nat := #[]) (fds : Array FieldInfo := #[]) : ClassFile where
  minorVersion := 0
  majorVersion := 65
  constantPool := pool
  accessFlags := fl
  thisClass := this
  superClass := sup
  interfaces := ifs
  fields := fds
  methods := ms
  attributes := attrs
def plain (name : String) (sup : Option ClassId) : Class where
  name := name
  kind := .ordinary
  loader := none
  accessFlags := 33
  super := sup
  interfaces := #[]
  cf := none
  fields := #[]
  methods := #[]
  instanceTypes := #[]
  staticTypes := #[]
  resolved := #[]
  callSites := []
  init := .initialized
  statics := none
  mirror := none

def pool0 : Array CpInfo := pool [(5, u "<init>"), (0, u "()V"), (1, .class_ 10), (1, u "java/lang/Object")] 113

def k0m0 : Method := { name := "<init>", desc := "()V", sig := { parameters := [], returnType := none }, accessFlags := 1, code := none }
/-- java/lang/Object -/
def k0 : Class := { plain "java/lang/Object" none with
  accessFlags := 33
  interfaces := #[]
  cf := some (fileOf pool0 8 #[] #[{ accessFlags := 1, nameIndex := 5, descriptorIndex := 6, attributes := #[] }] 33 0 #[] #[])
  fields := #[]
  methods := #[k0m0]
  instanceTypes := #[]
  staticTypes := #[]
  resolved := Array.replicate 124 none
  statics := none }

def pool1 : Array CpInfo := pool [(2, .class_ 4), (1, u "java/lang/Object"), (0, u "<init>"), (0, u "()V"), (0, .class_ 8), (0, u "com/example/planwright/planwright/model/Kind"), (0, .fieldref 7 10), (0, .nameAndType 11 12), (0, u "AMOUNT"), (0, u "Lcom/example/planwright/planwright/model/Kind;"), (0, .fieldref 7 14), (0, .nameAndType 15 12), (0, u "PERCENT"), (0, .fieldref 7 17), (0, .nameAndType 18 12), (0, u "RATIO"), (0, .fieldref 7 20), (0, .nameAndType 21 12), (0, u "COUNT"), (0, .fieldref 7 23), (0, .nameAndType 24 12), (0, u "DATE"), (0, .fieldref 7 26), (0, .nameAndType 27 12), (0, u "FLAG"), (0, .integer 2147483647), (0, .methodref 7 30), (0, .nameAndType 31 32), (0, u "mayBeNone"), (0, u "()Z"), (0, .methodref 7 34), (0, .nameAndType 35 36), (0, u "type"), (0, u "()Lcom/example/planwright/planwright/model/ValueType;"), (0, .fieldref 38 39), (0, .class_ 40), (0, .nameAndType 24 41), (0, u "com/example/planwright/planwright/model/ValueType"), (0, u "Lcom/example/planwright/planwright/model/ValueType;"), (0, .string 43), (0, u ""), (0, .methodref 7 45), (0, .nameAndType 46 47), (0, u "read"), (0, u "(Ljava/lang/String;)Ljava/math/BigDecimal;"), (0, .class_ 49), (0, u "com/example/planwright/planwright/model/KindMayBeNonePinLaw"), (2, u "law"), (0, u "(I)Z")] 5

def k1m0 : Method := { name := "<init>", desc := "()V", sig := { parameters := [], returnType := none }, accessFlags := 1, code := none }
def k1c1 : Code := { maxStack := 4, maxLocals := 6, code := code, exceptionTable := #[], attributes := #[] }
def k1m1 : Method := { name := "law", desc := "(I)Z", sig := { parameters := [.int], returnType := some .boolean }, accessFlags := 9, code := some k1c1 }
/-- com/example/planwright/planwright/model/KindMayBeNonePinLaw -/
def k1 : Class := { plain "com/example/planwright/planwright/model/KindMayBeNonePinLaw" (some 0) with
  accessFlags := 49
  interfaces := #[]
  cf := some (fileOf pool1 48 #[] #[{ accessFlags := 1, nameIndex := 5, descriptorIndex := 6, attributes := #[] }, { accessFlags := 9, nameIndex := 52, descriptorIndex := 53, attributes := #[] }] 49 2 #[] #[])
  fields := #[]
  methods := #[k1m0, k1m1]
  instanceTypes := #[]
  staticTypes := #[]
  resolved := Array.replicate 59 none
  statics := none }

def pool2 : Array CpInfo := pool [(1, .class_ 2), (0, u "java/lang/constant/Constable"), (0, .class_ 4), (0, u "java/lang/Object")] 6

/-- java/lang/constant/Constable -/
def k2 : Class := { plain "java/lang/constant/Constable" (some 0) with
  accessFlags := 1537
  interfaces := #[]
  cf := some (fileOf pool2 1 #[] #[] 1537 3 #[] #[])
  fields := #[]
  methods := #[]
  instanceTypes := #[]
  staticTypes := #[]
  resolved := Array.replicate 11 none
  statics := none }

def pool3 : Array CpInfo := pool [(1, .class_ 2), (0, u "java/lang/Comparable"), (0, .class_ 4), (0, u "java/lang/Object")] 7

/-- java/lang/Comparable -/
def k3 : Class := { plain "java/lang/Comparable" (some 0) with
  accessFlags := 1537
  interfaces := #[]
  cf := some (fileOf pool3 1 #[] #[] 1537 3 #[] #[])
  fields := #[]
  methods := #[]
  instanceTypes := #[]
  staticTypes := #[]
  resolved := Array.replicate 12 none
  statics := none }

def pool4 : Array CpInfo := pool [(1, .class_ 2), (0, u "java/io/Serializable"), (0, .class_ 4), (0, u "java/lang/Object")] 2

/-- java/io/Serializable -/
def k4 : Class := { plain "java/io/Serializable" (some 0) with
  accessFlags := 1537
  interfaces := #[]
  cf := some (fileOf pool4 1 #[] #[] 1537 3 #[] #[])
  fields := #[]
  methods := #[]
  instanceTypes := #[]
  staticTypes := #[]
  resolved := Array.replicate 7 none
  statics := none }

def pool5 : Array CpInfo := pool [(2, .class_ 4), (1, u "java/lang/Enum"), (0, u "name"), (0, u "Ljava/lang/String;"), (0, .fieldref 2 8), (0, .nameAndType 9 10), (0, u "ordinal"), (0, u "I"), (1, .class_ 14), (1, u "java/lang/Object"), (4, u "hash"), (86, .class_ 108), (1, u "java/lang/Enum$EnumDesc"), (2, .class_ 112), (0, u "java/lang/constant/Constable"), (0, .class_ 114), (0, u "java/lang/Comparable"), (0, .class_ 116), (0, u "java/io/Serializable"), (9, u "()I")] 77

def k5c0 : Code := { maxStack := 1, maxLocals := 1, code := jdk_37_method_2_code, exceptionTable := #[], attributes := #[] }
def k5m0 : Method := { name := "ordinal", desc := "()I", sig := { parameters := [], returnType := some .int }, accessFlags := 17, code := some k5c0 }
/-- java/lang/Enum -/
def k5 : Class := { plain "java/lang/Enum" (some 0) with
  accessFlags := 1057
  interfaces := #[2, 3, 4]
  cf := some (fileOf pool5 2 #[.nestMembers #[106]] #[{ accessFlags := 17, nameIndex := 9, descriptorIndex := 126, attributes := #[] }] 1057 12 #[111, 113, 115] #[{ accessFlags := 18, nameIndex := 5, descriptorIndex := 6, attributes := #[] }, { accessFlags := 18, nameIndex := 9, descriptorIndex := 10, attributes := #[] }, { accessFlags := 2, nameIndex := 19, descriptorIndex := 10, attributes := #[] }])
  fields := #[{ name := "name", type := (.object "java/lang/String"), accessFlags := 18, slot := 0, constantValue := 0 }, { name := "ordinal", type := .int, accessFlags := 18, slot := 1, constantValue := 0 }, { name := "hash", type := .int, accessFlags := 2, slot := 2, constantValue := 0 }]
  methods := #[k5m0]
  instanceTypes := #[(.object "java/lang/String"), .int, .int]
  staticTypes := #[]
  resolved := Array.replicate 204 none
  statics := none }

def pool6 : Array CpInfo := pool [(1, .class_ 2), (0, u "com/example/planwright/planwright/model/Kind"), (2, u "AMOUNT"), (0, u "Lcom/example/planwright/planwright/model/Kind;"), (2, u "PERCENT"), (2, u "RATIO"), (2, u "COUNT"), (0, .fieldref 1 17), (0, .nameAndType 18 6), (0, u "DATE"), (2, u "FLAG"), (2, u "$VALUES"), (0, u "[Lcom/example/planwright/planwright/model/Kind;"), (6, .class_ 34), (1, u "java/lang/Enum"), (8, u "planName"), (0, u "Ljava/lang/String;"), (0, .fieldref 1 46), (0, .nameAndType 47 48), (0, u "type"), (0, u "Lcom/example/planwright/planwright/model/ValueType;"), (2, u "unitShift"), (0, u "I"), (2, u "unitSign"), (44, .class_ 101), (0, u "java/lang/String"), (0, .methodref 100 103), (0, .nameAndType 104 105), (0, u "length"), (0, u "()I"), (0, .methodref 100 107), (0, .nameAndType 108 109), (0, u "codePointCount"), (0, u "(II)I"), (9, .methodref 1 120), (0, .nameAndType 121 105), (0, u "ordinal"), (15, .methodref 100 138), (0, .nameAndType 139 140), (0, u "isEmpty"), (0, u "()Z"), (4, u "read"), (0, u "(Ljava/lang/String;)Ljava/math/BigDecimal;"), (200, u "PRINTED_PLACES"), (2, u "LONGEST"), (1, u "YES"), (0, u "NO"), (0, u "NONE"), (6, u "()Lcom/example/planwright/planwright/model/ValueType;"), (4, u "mayBeNone")] 82

def k6c0 : Code := { maxStack := 1, maxLocals := 1, code := prog_56_method_5_code, exceptionTable := #[], attributes := #[] }
def k6m0 : Method := { name := "type", desc := "()Lcom/example/planwright/planwright/model/ValueType;", sig := { parameters := [], returnType := some (.object "com/example/planwright/planwright/model/ValueType") }, accessFlags := 1, code := some k6c0 }
def k6c1 : Code := { maxStack := 2, maxLocals := 1, code := prog_56_method_8_code, exceptionTable := #[], attributes := #[] }
def k6m1 : Method := { name := "mayBeNone", desc := "()Z", sig := { parameters := [], returnType := some .boolean }, accessFlags := 1, code := some k6c1 }
def k6c2 : Code := { maxStack := 4, maxLocals := 5, code := prog_56_method_9_code, exceptionTable := #[], attributes := #[] }
def k6m2 : Method := { name := "read", desc := "(Ljava/lang/String;)Ljava/math/BigDecimal;", sig := { parameters := [(.object "java/lang/String")], returnType := some (.object "java/math/BigDecimal") }, accessFlags := 1, code := some k6c2 }
/-- com/example/planwright/planwright/model/Kind -/
def k6 : Class := { plain "com/example/planwright/planwright/model/Kind" (some 5) with
  accessFlags := 16433
  interfaces := #[]
  cf := some (fileOf pool6 1 #[] #[{ accessFlags := 1, nameIndex := 47, descriptorIndex := 361, attributes := #[] }, { accessFlags := 1, nameIndex := 366, descriptorIndex := 140, attributes := #[] }, { accessFlags := 1, nameIndex := 145, descriptorIndex := 146, attributes := #[] }] 16433 32 #[] #[{ accessFlags := 16409, nameIndex := 5, descriptorIndex := 6, attributes := #[] }, { accessFlags := 16409, nameIndex := 9, descriptorIndex := 6, attributes := #[] }, { accessFlags := 16409, nameIndex := 12, descriptorIndex := 6, attributes := #[] }, { accessFlags := 16409, nameIndex := 15, descriptorIndex := 6, attributes := #[] }, { accessFlags := 16409, nameIndex := 18, descriptorIndex := 6, attributes := #[] }, { accessFlags := 16409, nameIndex := 21, descriptorIndex := 6, attributes := #[] }, { accessFlags := 26, nameIndex := 347, descriptorIndex := 52, attributes := #[] }, { accessFlags := 24, nameIndex := 350, descriptorIndex := 52, attributes := #[] }, { accessFlags := 26, nameIndex := 352, descriptorIndex := 44, attributes := #[] }, { accessFlags := 26, nameIndex := 353, descriptorIndex := 44, attributes := #[] }, { accessFlags := 26, nameIndex := 354, descriptorIndex := 44, attributes := #[] }, { accessFlags := 18, nameIndex := 43, descriptorIndex := 44, attributes := #[] }, { accessFlags := 18, nameIndex := 47, descriptorIndex := 48, attributes := #[] }, { accessFlags := 18, nameIndex := 51, descriptorIndex := 52, attributes := #[] }, { accessFlags := 18, nameIndex := 55, descriptorIndex := 44, attributes := #[] }, { accessFlags := 4122, nameIndex := 24, descriptorIndex := 25, attributes := #[] }])
  fields := #[{ name := "AMOUNT", type := (.object "com/example/planwright/planwright/model/Kind"), accessFlags := 16409, slot := 0, constantValue := 0 }, { name := "PERCENT", type := (.object "com/example/planwright/planwright/model/Kind"), accessFlags := 16409, slot := 1, constantValue := 0 }, { name := "RATIO", type := (.object "com/example/planwright/planwright/model/Kind"), accessFlags := 16409, slot := 2, constantValue := 0 }, { name := "COUNT", type := (.object "com/example/planwright/planwright/model/Kind"), accessFlags := 16409, slot := 3, constantValue := 0 }, { name := "DATE", type := (.object "com/example/planwright/planwright/model/Kind"), accessFlags := 16409, slot := 4, constantValue := 0 }, { name := "FLAG", type := (.object "com/example/planwright/planwright/model/Kind"), accessFlags := 16409, slot := 5, constantValue := 0 }, { name := "PRINTED_PLACES", type := .int, accessFlags := 26, slot := 6, constantValue := 0 }, { name := "LONGEST", type := .int, accessFlags := 24, slot := 7, constantValue := 0 }, { name := "YES", type := (.object "java/lang/String"), accessFlags := 26, slot := 8, constantValue := 0 }, { name := "NO", type := (.object "java/lang/String"), accessFlags := 26, slot := 9, constantValue := 0 }, { name := "NONE", type := (.object "java/lang/String"), accessFlags := 26, slot := 10, constantValue := 0 }, { name := "planName", type := (.object "java/lang/String"), accessFlags := 18, slot := 3, constantValue := 0 }, { name := "type", type := (.object "com/example/planwright/planwright/model/ValueType"), accessFlags := 18, slot := 4, constantValue := 0 }, { name := "unitShift", type := .int, accessFlags := 18, slot := 5, constantValue := 0 }, { name := "unitSign", type := (.object "java/lang/String"), accessFlags := 18, slot := 6, constantValue := 0 }, { name := "$VALUES", type := (.array (.object "com/example/planwright/planwright/model/Kind")), accessFlags := 4122, slot := 11, constantValue := 0 }]
  methods := #[k6m0, k6m1, k6m2]
  instanceTypes := #[(.object "java/lang/String"), .int, .int, (.object "java/lang/String"), (.object "com/example/planwright/planwright/model/ValueType"), .int, (.object "java/lang/String")]
  staticTypes := #[(.object "com/example/planwright/planwright/model/Kind"), (.object "com/example/planwright/planwright/model/Kind"), (.object "com/example/planwright/planwright/model/Kind"), (.object "com/example/planwright/planwright/model/Kind"), (.object "com/example/planwright/planwright/model/Kind"), (.object "com/example/planwright/planwright/model/Kind"), .int, .int, (.object "java/lang/String"), (.object "java/lang/String"), (.object "java/lang/String"), (.array (.object "com/example/planwright/planwright/model/Kind"))]
  resolved := Array.replicate 449 none
  statics := some 0 }

def pool7 : Array CpInfo := pool [(1, .class_ 2), (0, u "com/example/planwright/planwright/model/ValueType"), (2, u "NUMBER"), (0, u "Lcom/example/planwright/planwright/model/ValueType;"), (2, u "DATE"), (2, u "FLAG"), (2, u "$VALUES"), (0, u "[Lcom/example/planwright/planwright/model/ValueType;"), (6, .class_ 25), (1, u "java/lang/Enum"), (8, u "one"), (0, u "Ljava/lang/String;"), (2, u "many")] 35

/-- com/example/planwright/planwright/model/ValueType -/
def k7 : Class := { plain "com/example/planwright/planwright/model/ValueType" (some 5) with
  accessFlags := 16433
  interfaces := #[]
  cf := some (fileOf pool7 1 #[] #[] 16433 23 #[] #[{ accessFlags := 16409, nameIndex := 5, descriptorIndex := 6, attributes := #[] }, { accessFlags := 16409, nameIndex := 9, descriptorIndex := 6, attributes := #[] }, { accessFlags := 16409, nameIndex := 12, descriptorIndex := 6, attributes := #[] }, { accessFlags := 18, nameIndex := 34, descriptorIndex := 35, attributes := #[] }, { accessFlags := 18, nameIndex := 38, descriptorIndex := 35, attributes := #[] }, { accessFlags := 4122, nameIndex := 15, descriptorIndex := 16, attributes := #[] }])
  fields := #[{ name := "NUMBER", type := (.object "com/example/planwright/planwright/model/ValueType"), accessFlags := 16409, slot := 0, constantValue := 0 }, { name := "DATE", type := (.object "com/example/planwright/planwright/model/ValueType"), accessFlags := 16409, slot := 1, constantValue := 0 }, { name := "FLAG", type := (.object "com/example/planwright/planwright/model/ValueType"), accessFlags := 16409, slot := 2, constantValue := 0 }, { name := "one", type := (.object "java/lang/String"), accessFlags := 18, slot := 3, constantValue := 0 }, { name := "many", type := (.object "java/lang/String"), accessFlags := 18, slot := 4, constantValue := 0 }, { name := "$VALUES", type := (.array (.object "com/example/planwright/planwright/model/ValueType")), accessFlags := 4122, slot := 3, constantValue := 0 }]
  methods := #[]
  instanceTypes := #[(.object "java/lang/String"), .int, .int, (.object "java/lang/String"), (.object "java/lang/String")]
  staticTypes := #[(.object "com/example/planwright/planwright/model/ValueType"), (.object "com/example/planwright/planwright/model/ValueType"), (.object "com/example/planwright/planwright/model/ValueType"), (.array (.object "com/example/planwright/planwright/model/ValueType"))]
  resolved := Array.replicate 74 none
  statics := some 1 }

def pool8 : Array CpInfo := pool [(2, .class_ 4), (1, u "java/lang/CharSequence"), (42, .class_ 48), (0, u "java/lang/CharSequence$1CodePointIterator"), (10, .class_ 60), (0, u "java/lang/CharSequence$1CharIterator"), (5, .class_ 67), (0, u "java/lang/Object")] 63

/-- java/lang/CharSequence -/
def k8 : Class := { plain "java/lang/CharSequence" (some 0) with
  accessFlags := 1537
  interfaces := #[]
  cf := some (fileOf pool8 2 #[.nestMembers #[47, 59]] #[] 1537 66 #[] #[])
  fields := #[]
  methods := #[]
  instanceTypes := #[]
  staticTypes := #[]
  resolved := Array.replicate 131 none
  statics := none }

def pool9 : Array CpInfo := pool [(1, .class_ 2), (0, u "java/lang/constant/ConstantDesc"), (0, .class_ 4), (0, u "java/lang/Object")] 32

/-- java/lang/constant/ConstantDesc -/
def k9 : Class := { plain "java/lang/constant/ConstantDesc" (some 0) with
  accessFlags := 1537
  interfaces := #[]
  cf := some (fileOf pool9 1 #[] #[] 1537 3 #[] #[])
  fields := #[]
  methods := #[]
  instanceTypes := #[]
  staticTypes := #[]
  resolved := Array.replicate 37 none
  statics := none }

def pool10 : Array CpInfo := pool [(2, .class_ 4), (1, u "java/lang/Object"), (0, u "<init>"), (0, u "()V"), (2, .fieldref 10 11), (0, .class_ 12), (0, .nameAndType 13 14), (0, u "java/lang/String"), (0, u "value"), (0, u "[B"), (0, .fieldref 10 16), (0, .nameAndType 17 18), (0, u "coder"), (0, u "B"), (2, u "hash"), (0, u "I"), (2, u "hashIsZero"), (0, u "Z"), (10, u "(III)I"), (0, .fieldref 10 39), (0, .nameAndType 40 26), (0, u "COMPACT_STRINGS"), (38, .class_ 81), (1, u "java/util/Objects"), (60, u "()Z"), (191, u "()I"), (0, .methodref 10 336), (0, .nameAndType 17 337), (0, u "()B"), (154, .methodref 10 493), (0, .nameAndType 494 142), (0, u "isLatin1"), (10, .methodref 10 506), (0, .nameAndType 507 334), (0, u "length"), (3, .methodref 79 512), (0, .nameAndType 513 37), (0, u "checkFromToIndex"), (2, u "codePointCount"), (58, .class_ 576), (0, u "java/lang/CharSequence"), (22, u "CASE_INSENSITIVE_ORDER"), (0, u "Ljava/util/Comparator;"), (35, u "(II)I"), (55, u "isEmpty"), (408, u "serialPersistentFields"), (0, u "[Ljava/io/ObjectStreamField;"), (0, .class_ 1104), (0, u "java/lang/String$CaseInsensitiveComparator"), (1, .class_ 1107), (0, u "java/io/Serializable"), (0, .class_ 1109), (0, u "java/lang/Comparable"), (0, .class_ 1111), (0, u "java/lang/constant/Constable"), (0, .class_ 1113), (0, u "java/lang/constant/ConstantDesc"), (2, u "serialVersionUID"), (0, u "J"), (3, u "REPL"), (0, u "C"), (2, u "LATIN1"), (1, u "UTF16")] 323

def k10m0 : Method := { name := "<init>", desc := "()V", sig := { parameters := [], returnType := none }, accessFlags := 1, code := none }
def k10c1 : Code := { maxStack := 2, maxLocals := 1, code := jdk_42_method_54_code, exceptionTable := #[], attributes := #[] }
def k10m1 : Method := { name := "length", desc := "()I", sig := { parameters := [], returnType := some .int }, accessFlags := 1, code := some k10c1 }
def k10c2 : Code := { maxStack := 1, maxLocals := 1, code := jdk_42_method_55_code, exceptionTable := #[], attributes := #[] }
def k10m2 : Method := { name := "isEmpty", desc := "()Z", sig := { parameters := [], returnType := some .boolean }, accessFlags := 1, code := some k10c2 }
def k10c3 : Code := { maxStack := 3, maxLocals := 3, code := jdk_42_method_59_code, exceptionTable := #[], attributes := #[] }
def k10m3 : Method := { name := "codePointCount", desc := "(II)I", sig := { parameters := [.int, .int], returnType := some .int }, accessFlags := 1, code := some k10c3 }
def k10c4 : Code := { maxStack := 1, maxLocals := 1, code := jdk_42_method_152_code, exceptionTable := #[], attributes := #[] }
def k10m4 : Method := { name := "coder", desc := "()B", sig := { parameters := [], returnType := some .byte }, accessFlags := 0, code := some k10c4 }
def k10c5 : Code := { maxStack := 1, maxLocals := 1, code := jdk_42_method_154_code, exceptionTable := #[], attributes := #[] }
def k10m5 : Method := { name := "isLatin1", desc := "()Z", sig := { parameters := [], returnType := some .boolean }, accessFlags := 0, code := some k10c5 }
/-- java/lang/String -/
def k10 : Class := { plain "java/lang/String" (some 0) with
  accessFlags := 49
  interfaces := #[4, 3, 8, 2, 9]
  cf := some (fileOf pool10 10 #[.nestMembers #[1103]] #[{ accessFlags := 1, nameIndex := 5, descriptorIndex := 6, attributes := #[] }, { accessFlags := 1, nameIndex := 507, descriptorIndex := 334, attributes := #[] }, { accessFlags := 1, nameIndex := 692, descriptorIndex := 142, attributes := #[] }, { accessFlags := 1, nameIndex := 516, descriptorIndex := 636, attributes := #[] }, { accessFlags := 0, nameIndex := 17, descriptorIndex := 337, attributes := #[] }, { accessFlags := 0, nameIndex := 494, descriptorIndex := 142, attributes := #[] }] 49 2 #[1106, 1108, 575, 1110, 1112] #[{ accessFlags := 18, nameIndex := 13, descriptorIndex := 14, attributes := #[] }, { accessFlags := 18, nameIndex := 17, descriptorIndex := 18, attributes := #[] }, { accessFlags := 2, nameIndex := 21, descriptorIndex := 22, attributes := #[] }, { accessFlags := 2, nameIndex := 25, descriptorIndex := 26, attributes := #[] }, { accessFlags := 26, nameIndex := 1116, descriptorIndex := 1117, attributes := #[] }, { accessFlags := 24, nameIndex := 40, descriptorIndex := 26, attributes := #[] }, { accessFlags := 26, nameIndex := 1101, descriptorIndex := 1102, attributes := #[] }, { accessFlags := 26, nameIndex := 1121, descriptorIndex := 1122, attributes := #[] }, { accessFlags := 25, nameIndex := 599, descriptorIndex := 600, attributes := #[] }, { accessFlags := 24, nameIndex := 1125, descriptorIndex := 18, attributes := #[] }, { accessFlags := 24, nameIndex := 1127, descriptorIndex := 18, attributes := #[] }])
  fields := #[{ name := "value", type := (.array .byte), accessFlags := 18, slot := 0, constantValue := 0 }, { name := "coder", type := .byte, accessFlags := 18, slot := 1, constantValue := 0 }, { name := "hash", type := .int, accessFlags := 2, slot := 2, constantValue := 0 }, { name := "hashIsZero", type := .boolean, accessFlags := 2, slot := 3, constantValue := 0 }, { name := "serialVersionUID", type := .long, accessFlags := 26, slot := 0, constantValue := 0 }, { name := "COMPACT_STRINGS", type := .boolean, accessFlags := 24, slot := 1, constantValue := 0 }, { name := "serialPersistentFields", type := (.array (.object "java/io/ObjectStreamField")), accessFlags := 26, slot := 2, constantValue := 0 }, { name := "REPL", type := .char, accessFlags := 26, slot := 3, constantValue := 0 }, { name := "CASE_INSENSITIVE_ORDER", type := (.object "java/util/Comparator"), accessFlags := 25, slot := 4, constantValue := 0 }, { name := "LATIN1", type := .byte, accessFlags := 24, slot := 5, constantValue := 0 }, { name := "UTF16", type := .byte, accessFlags := 24, slot := 6, constantValue := 0 }]
  methods := #[k10m0, k10m1, k10m2, k10m3, k10m4, k10m5]
  instanceTypes := #[(.array .byte), .byte, .int, .boolean]
  staticTypes := #[.long, .boolean, (.array (.object "java/io/ObjectStreamField")), .char, (.object "java/util/Comparator"), .byte, .byte]
  resolved := Array.replicate 1451 none
  statics := some 2 }

def pool11 : Array CpInfo := pool [(2, .class_ 4), (1, u "java/lang/Object"), (0, u "<init>"), (0, u "()V"), (35, .class_ 44), (1, u "java/util/Objects"), (61, .class_ 108), (1, u "jdk/internal/util/Preconditions"), (2, .methodref 106 112), (0, .nameAndType 113 114), (0, u "checkFromToIndex"), (0, u "(IIILjava/util/function/BiFunction;)I"), (60, u "(III)I")] 8

def k11m0 : Method := { name := "<init>", desc := "()V", sig := { parameters := [], returnType := none }, accessFlags := 2, code := none }
def k11c1 : Code := { maxStack := 4, maxLocals := 3, code := jdk_31_method_18_code, exceptionTable := #[], attributes := #[] }
def k11m1 : Method := { name := "checkFromToIndex", desc := "(III)I", sig := { parameters := [.int, .int, .int], returnType := some .int }, accessFlags := 9, code := some k11c1 }
/-- java/util/Objects -/
def k11 : Class := { plain "java/util/Objects" (some 0) with
  accessFlags := 49
  interfaces := #[]
  cf := some (fileOf pool11 42 #[] #[{ accessFlags := 2, nameIndex := 5, descriptorIndex := 6, attributes := #[] }, { accessFlags := 9, nameIndex := 113, descriptorIndex := 175, attributes := #[] }] 49 2 #[] #[])
  fields := #[]
  methods := #[k11m0, k11m1]
  instanceTypes := #[]
  staticTypes := #[]
  resolved := Array.replicate 184 none
  statics := none }

def pool12 : Array CpInfo := pool [(2, .class_ 4), (1, u "java/lang/Object"), (0, u "<init>"), (0, u "()V"), (17, .class_ 26), (1, u "jdk/internal/util/Preconditions"), (20, u "checkFromToIndex"), (7, .class_ 56), (0, u "jdk/internal/util/Preconditions$4"), (57, .class_ 115), (0, u "jdk/internal/util/Preconditions$1"), (7, u "SIOOBE_FORMATTER"), (0, u "Ljava/util/function/BiFunction;"), (0, .class_ 126), (0, u "jdk/internal/util/Preconditions$2"), (3, u "AIOOBE_FORMATTER"), (0, .class_ 132), (0, u "jdk/internal/util/Preconditions$3"), (3, u "IOOBE_FORMATTER"), (46, u "(IIILjava/util/function/BiFunction;)I")] 10

def k12m0 : Method := { name := "<init>", desc := "()V", sig := { parameters := [], returnType := none }, accessFlags := 1, code := none }
def k12c1 : Code := { maxStack := 4, maxLocals := 4, code := jdk_41_method_12_code, exceptionTable := #[], attributes := #[] }
def k12m1 : Method := { name := "checkFromToIndex", desc := "(IIILjava/util/function/BiFunction;)I", sig := { parameters := [.int, .int, .int, (.object "java/util/function/BiFunction")], returnType := some .int }, accessFlags := 9, code := some k12c1 }
/-- jdk/internal/util/Preconditions -/
def k12 : Class := { plain "jdk/internal/util/Preconditions" (some 0) with
  accessFlags := 33
  interfaces := #[]
  cf := some (fileOf pool12 24 #[.nestMembers #[55, 131, 125, 114]] #[{ accessFlags := 1, nameIndex := 5, descriptorIndex := 6, attributes := #[] }, { accessFlags := 9, nameIndex := 47, descriptorIndex := 183, attributes := #[] }] 33 2 #[] #[{ accessFlags := 25, nameIndex := 123, descriptorIndex := 124, attributes := #[] }, { accessFlags := 25, nameIndex := 130, descriptorIndex := 124, attributes := #[] }, { accessFlags := 25, nameIndex := 136, descriptorIndex := 124, attributes := #[] }])
  fields := #[{ name := "SIOOBE_FORMATTER", type := (.object "java/util/function/BiFunction"), accessFlags := 25, slot := 0, constantValue := 0 }, { name := "AIOOBE_FORMATTER", type := (.object "java/util/function/BiFunction"), accessFlags := 25, slot := 1, constantValue := 0 }, { name := "IOOBE_FORMATTER", type := (.object "java/util/function/BiFunction"), accessFlags := 25, slot := 2, constantValue := 0 }]
  methods := #[k12m0, k12m1]
  instanceTypes := #[]
  staticTypes := #[(.object "java/util/function/BiFunction"), (.object "java/util/function/BiFunction"), (.object "java/util/function/BiFunction")]
  resolved := Array.replicate 194 none
  statics := some 3 }

def pool13 : Array CpInfo := pool [(4, .class_ 6), (1, u "java/lang/Object"), (0, u "<init>"), (0, u "()V"), (5, .class_ 16), (1, u "java/lang/StringLatin1"), (104, u "$assertionsDisabled"), (0, u "Z"), (98, .class_ 223), (1, u "java/lang/StringLatin1$LinesSpliterator"), (166, .class_ 391), (0, u "java/lang/StringLatin1$CharsSpliterator")] 3

def k13m0 : Method := { name := "<init>", desc := "()V", sig := { parameters := [], returnType := none }, accessFlags := 0, code := none }
/-- java/lang/StringLatin1 -/
def k13 : Class := { plain "java/lang/StringLatin1" (some 0) with
  accessFlags := 48
  interfaces := #[]
  cf := some (fileOf pool13 14 #[.nestMembers #[390, 221]] #[{ accessFlags := 0, nameIndex := 7, descriptorIndex := 8, attributes := #[] }] 48 4 #[] #[{ accessFlags := 4120, nameIndex := 121, descriptorIndex := 122, attributes := #[] }])
  fields := #[{ name := "$assertionsDisabled", type := .boolean, accessFlags := 4120, slot := 0, constantValue := 0 }]
  methods := #[k13m0]
  instanceTypes := #[]
  staticTypes := #[.boolean]
  resolved := Array.replicate 395 none
  statics := none }

def pool14 : Array CpInfo := pool [(9, u "<init>"), (6, .class_ 18), (1, u "java/lang/Object"), (0, u "()V"), (1, .class_ 23), (1, u "jdk/internal/util/ArraysSupport"), (0, u "LOG2_ARRAY_LONG_INDEX_SCALE"), (0, u "I"), (2, u "U"), (0, u "Ljdk/internal/misc/Unsafe;"), (8, u "BIG_ENDIAN"), (0, u "Z"), (8, u "LOG2_BYTE_BIT_SIZE"), (4, u "LOG2_ARRAY_INT_INDEX_SCALE"), (54, u "JLA"), (0, u "Ljdk/internal/access/JavaLangAccess;"), (11, u "LOG2_ARRAY_BOOLEAN_INDEX_SCALE"), (9, u "LOG2_ARRAY_BYTE_INDEX_SCALE"), (5, u "LOG2_ARRAY_CHAR_INDEX_SCALE"), (5, u "LOG2_ARRAY_SHORT_INDEX_SCALE"), (18, u "LOG2_ARRAY_FLOAT_INDEX_SCALE"), (24, u "LOG2_ARRAY_DOUBLE_INDEX_SCALE"), (89, u "T_BOOLEAN"), (2, u "T_CHAR"), (1, u "T_FLOAT"), (1, u "T_DOUBLE"), (1, u "T_BYTE"), (1, u "T_SHORT"), (1, u "T_INT"), (1, u "T_LONG"), (1, u "SOFT_MAX_ARRAY_LENGTH")] 83

def k14m0 : Method := { name := "<init>", desc := "()V", sig := { parameters := [], returnType := none }, accessFlags := 2, code := none }
/-- jdk/internal/util/ArraysSupport -/
def k14 : Class := { plain "jdk/internal/util/ArraysSupport" (some 0) with
  accessFlags := 33
  interfaces := #[]
  cf := some (fileOf pool14 21 #[] #[{ accessFlags := 2, nameIndex := 9, descriptorIndex := 19, attributes := #[] }] 33 16 #[] #[{ accessFlags := 24, nameIndex := 28, descriptorIndex := 29, attributes := #[] }, { accessFlags := 26, nameIndex := 38, descriptorIndex := 39, attributes := #[] }, { accessFlags := 25, nameIndex := 121, descriptorIndex := 25, attributes := #[] }, { accessFlags := 25, nameIndex := 131, descriptorIndex := 25, attributes := #[] }, { accessFlags := 25, nameIndex := 137, descriptorIndex := 25, attributes := #[] }, { accessFlags := 25, nameIndex := 143, descriptorIndex := 25, attributes := #[] }, { accessFlags := 25, nameIndex := 53, descriptorIndex := 25, attributes := #[] }, { accessFlags := 25, nameIndex := 24, descriptorIndex := 25, attributes := #[] }, { accessFlags := 25, nameIndex := 162, descriptorIndex := 25, attributes := #[] }, { accessFlags := 25, nameIndex := 187, descriptorIndex := 25, attributes := #[] }, { accessFlags := 26, nameIndex := 48, descriptorIndex := 25, attributes := #[] }, { accessFlags := 25, nameIndex := 277, descriptorIndex := 25, attributes := #[] }, { accessFlags := 25, nameIndex := 280, descriptorIndex := 25, attributes := #[] }, { accessFlags := 25, nameIndex := 282, descriptorIndex := 25, attributes := #[] }, { accessFlags := 25, nameIndex := 284, descriptorIndex := 25, attributes := #[] }, { accessFlags := 25, nameIndex := 286, descriptorIndex := 25, attributes := #[] }, { accessFlags := 25, nameIndex := 288, descriptorIndex := 25, attributes := #[] }, { accessFlags := 25, nameIndex := 290, descriptorIndex := 25, attributes := #[] }, { accessFlags := 25, nameIndex := 292, descriptorIndex := 25, attributes := #[] }, { accessFlags := 26, nameIndex := 108, descriptorIndex := 109, attributes := #[] }, { accessFlags := 25, nameIndex := 294, descriptorIndex := 25, attributes := #[] }])
  fields := #[{ name := "U", type := (.object "jdk/internal/misc/Unsafe"), accessFlags := 24, slot := 0, constantValue := 0 }, { name := "BIG_ENDIAN", type := .boolean, accessFlags := 26, slot := 1, constantValue := 0 }, { name := "LOG2_ARRAY_BOOLEAN_INDEX_SCALE", type := .int, accessFlags := 25, slot := 2, constantValue := 0 }, { name := "LOG2_ARRAY_BYTE_INDEX_SCALE", type := .int, accessFlags := 25, slot := 3, constantValue := 0 }, { name := "LOG2_ARRAY_CHAR_INDEX_SCALE", type := .int, accessFlags := 25, slot := 4, constantValue := 0 }, { name := "LOG2_ARRAY_SHORT_INDEX_SCALE", type := .int, accessFlags := 25, slot := 5, constantValue := 0 }, { name := "LOG2_ARRAY_INT_INDEX_SCALE", type := .int, accessFlags := 25, slot := 6, constantValue := 0 }, { name := "LOG2_ARRAY_LONG_INDEX_SCALE", type := .int, accessFlags := 25, slot := 7, constantValue := 0 }, { name := "LOG2_ARRAY_FLOAT_INDEX_SCALE", type := .int, accessFlags := 25, slot := 8, constantValue := 0 }, { name := "LOG2_ARRAY_DOUBLE_INDEX_SCALE", type := .int, accessFlags := 25, slot := 9, constantValue := 0 }, { name := "LOG2_BYTE_BIT_SIZE", type := .int, accessFlags := 26, slot := 10, constantValue := 0 }, { name := "T_BOOLEAN", type := .int, accessFlags := 25, slot := 11, constantValue := 0 }, { name := "T_CHAR", type := .int, accessFlags := 25, slot := 12, constantValue := 0 }, { name := "T_FLOAT", type := .int, accessFlags := 25, slot := 13, constantValue := 0 }, { name := "T_DOUBLE", type := .int, accessFlags := 25, slot := 14, constantValue := 0 }, { name := "T_BYTE", type := .int, accessFlags := 25, slot := 15, constantValue := 0 }, { name := "T_SHORT", type := .int, accessFlags := 25, slot := 16, constantValue := 0 }, { name := "T_INT", type := .int, accessFlags := 25, slot := 17, constantValue := 0 }, { name := "T_LONG", type := .int, accessFlags := 25, slot := 18, constantValue := 0 }, { name := "JLA", type := (.object "jdk/internal/access/JavaLangAccess"), accessFlags := 26, slot := 19, constantValue := 0 }, { name := "SOFT_MAX_ARRAY_LENGTH", type := .int, accessFlags := 25, slot := 20, constantValue := 0 }]
  methods := #[k14m0]
  instanceTypes := #[]
  staticTypes := #[(.object "jdk/internal/misc/Unsafe"), .boolean, .int, .int, .int, .int, .int, .int, .int, .int, .int, .int, .int, .int, .int, .int, .int, .int, .int, (.object "jdk/internal/access/JavaLangAccess"), .int]
  resolved := Array.replicate 378 none
  statics := none }

def pool15 : Array CpInfo := pool [(1, u "java/lang/Cloneable"), (0, .class_ 1), (0, u "java/lang/Object"), (0, .class_ 3)] 3

/-- java/lang/Cloneable -/
def k15 : Class := { plain "java/lang/Cloneable" (some 0) with
  accessFlags := 1537
  interfaces := #[]
  cf := some (fileOf pool15 2 #[] #[] 1537 4 #[] #[])
  fields := #[]
  methods := #[]
  instanceTypes := #[]
  staticTypes := #[]
  resolved := Array.replicate 8 none
  statics := none }

/-- the primitive byte -/
def k16 : Class := { plain "byte" none with kind := .primitive 'B', accessFlags := 0x411 }
/-- [B -/
def k17 : Class := { plain "[B" (some 0) with kind := .array 16 .byte, interfaces := #[15, 4], accessFlags := 1041 }

/-- the primitive int -/
def k18 : Class := { plain "int" none with kind := .primitive 'I', accessFlags := 0x411 }
/-- [I -/
def k19 : Class := { plain "[I" (some 0) with kind := .array 18 .int, interfaces := #[15, 4], accessFlags := 1041 }

/-- [Lcom/example/planwright/planwright/model/Kind; -/
def k20 : Class := { plain "[Lcom/example/planwright/planwright/model/Kind;" (some 0) with kind := .array 6 (.object "com/example/planwright/planwright/model/Kind"), interfaces := #[15, 4], accessFlags := 1041 }

def heap : Heap := #[{ cls := 6, slots := #[.ref 4, .ref 5, .ref 6, .ref 7, .ref 8, .ref 9, .int 0, .int 0, .null, .null, .null, .null], vm := .statics 6 },
  { cls := 7, slots := #[.ref 10, .ref 11, .ref 12, .null], vm := .statics 7 },
  { cls := 10, slots := #[.long 0, .int 1, .null, .int 0, .null, .int 0, .int 0], vm := .statics 10 },
  { cls := 12, slots := #[.null, .null, .null], vm := .statics 12 },
  { cls := 6, slots := #[.null, .int 0, .int 0, .null, .ref 10, .int 0, .null], vm := .none },
  { cls := 6, slots := #[.null, .int 1, .int 0, .null, .ref 10, .int 0, .null], vm := .none },
  { cls := 6, slots := #[.null, .int 2, .int 0, .null, .ref 10, .int 0, .null], vm := .none },
  { cls := 6, slots := #[.null, .int 3, .int 0, .null, .ref 10, .int 0, .null], vm := .none },
  { cls := 6, slots := #[.null, .int 4, .int 0, .null, .ref 11, .int 0, .null], vm := .none },
  { cls := 6, slots := #[.null, .int 5, .int 0, .null, .ref 12, .int 0, .null], vm := .none },
  { cls := 7, slots := #[.null, .int 0, .int 0, .null, .null], vm := .none },
  { cls := 7, slots := #[.null, .int 1, .int 0, .null, .null], vm := .none },
  { cls := 7, slots := #[.null, .int 2, .int 0, .null, .null], vm := .none }]
def classes : Array Class := #[k0, k1, k2, k3, k4, k5, k6, k7, k8, k9, k10, k11, k12, k13, k14, k15, k16, k17, k18, k19, k20]
def interned : List (Array UInt16 × Addr) := []
def slotsUsed : Nat := 83
def theMethod : MethodId := ⟨1, 1⟩
def args0 : Array Value := #[.int 5]
def aboutOver (below : List Frame) : State where
  vm := { classes := classes, interned := interned.toArray }
  heap := heap
  slotsUsed := slotsUsed
  threads := #[{ frames := .invoking theMethod args0 :: below }]
def below0 : List Frame := [.native { method := ⟨0, 0⟩, args := #[] }]
def about1 : State := aboutOver below0
def p0 : Program := .bare "" "" ""
def e0 : Env := launch0.env 0 0 0
theorem w_frames : about1.frames = Frame.invoking theMethod args0 :: below0 := rfl
set_option maxRecDepth 65536 in
theorem w_args : argsFit about1.vm theMethod args0 = true := by decide +kernel
set_option maxRecDepth 65536 in
theorem w_heap : heapFits about1 = true := by decide +kernel
set_option maxRecDepth 65536 in
theorem w_runnable : about1.curStatus? = some .runnable := by decide +kernel
set_option maxRecDepth 65536 in
theorem w_alone : about1.alone = true := by decide +kernel
set_option maxRecDepth 65536 in
theorem w_named : about1.methodNamed? x = some theMethod := by decide +kernel
set_option maxRecDepth 65536 in
theorem w_hears : about1.hears theMethod below0 = true := by decide +kernel
set_option maxRecDepth 65536 in
theorem w_ripe : about1.ripe theMethod args0 below0 = true := by decide +kernel
theorem w_running : about1.status = .running := rfl
set_option maxRecDepth 65536 in
theorem w_room : about1.hasRoom e0.platform room_1 = true :=
  launch0.hasRoom_least _ room_1 (by decide +kernel) (by decide +kernel) (by decide +kernel) (by decide +kernel) (by decide +kernel) (by decide +kernel)
theorem allAtoms_all (ts : List Jvm.Cond) (a : Array Jvm.Value) (st : Jvm.State) : (allAtoms ts).before a st = ts.all (fun c => c.before a st) := by
  induction ts with
  | nil => rfl
  | cons c t ih =>
    show (Jvm.Cond.and c (allAtoms t)).before a st = _
    rw [Jvm.Cond.before_and, ih, List.all_cons]
def words1 : List Jvm.Cond := Jvm.Cond.code x code maxLocals ret :: tables_1
/-- a 'code' word, met by the world's own term for the bytes: nothing is compared byte by byte -/
theorem code_word {y : MethodName} {bytes : ByteArray} {mx : Nat} {rt : Option FieldType} {a : Array Value} {s : State} {m : MethodId} {meth : Method} {c : Code} (h1 : s.methodNamed? y = some m) (h2 : s.vm.method? m = some meth) (h3 : meth.code = some c) (h4 : c.code = bytes)
    (h5 : (c.maxLocals == mx && c.exceptionTable.isEmpty && decide (c.maxStack ≤ mostOperands) && decide (meth.sig.returnType = rt) && !meth.locks && decide (parseMethodDescriptor y.desc = some meth.sig)) = true) : (Jvm.Cond.code y bytes mx rt).before a s = true := by
  simp only [Bool.and_eq_true, beq_iff_eq, Bool.not_eq_true', decide_eq_true_eq] at h5
  obtain ⟨⟨⟨⟨⟨g1, g2⟩, g3⟩, g4⟩, g5⟩, g6⟩ := h5
  simp [Cond.before, Cond.holds, Cond.value, h1, h2, h3, h4, g1, g2, g3, g4, g5, g6]
def isCode : Jvm.Cond → Bool
  | .code _ _ _ _ => true
  | _ => false
theorem all_split {L : List Jvm.Cond} {P : Jvm.Cond → Bool} (h1 : L.all (fun c => isCode c || P c) = true) (h2 : ∀ c ∈ L.filter isCode, P c = true) : L.all P = true := by
  refine List.all_eq_true.mpr fun c hc => ?_
  have h := List.all_eq_true.mp h1 c hc
  rcases Bool.eq_false_or_eq_true (isCode c) with hi | hi
  · exact h2 c (List.mem_filter.mpr ⟨hc, hi⟩)
  · simpa [hi] using h
set_option maxRecDepth 65536 in
theorem w_c0 : (Jvm.Cond.code x code maxLocals ret).before args0 about1 = true := code_word (m := ⟨1, 1⟩) (meth := k1m1) (c := k1c1) (by decide +kernel) rfl rfl rfl (by decide +kernel)
set_option maxRecDepth 65536 in
theorem w_c1 : (Jvm.Cond.code ({ cls := "com/example/planwright/planwright/model/Kind", name := "mayBeNone", desc := "()Z" } : Jvm.MethodName) prog_56_method_8_code (1 : Nat) (Option.some Jvm.ClassFile.FieldType.boolean)).before args0 about1 = true := code_word (m := ⟨6, 1⟩) (meth := k6m1) (c := k6c1) (by decide +kernel) rfl rfl rfl (by decide +kernel)
set_option maxRecDepth 65536 in
theorem w_c2 : (Jvm.Cond.code ({ cls := "com/example/planwright/planwright/model/Kind", name := "type", desc := "()Lcom/example/planwright/planwright/model/ValueType;" } : Jvm.MethodName) prog_56_method_5_code (1 : Nat) (Option.some (Jvm.ClassFile.FieldType.object "com/example/planwright/planwright/model/ValueType"))).before args0 about1 = true := code_word (m := ⟨6, 0⟩) (meth := k6m0) (c := k6c0) (by decide +kernel) rfl rfl rfl (by decide +kernel)
set_option maxRecDepth 65536 in
theorem w_c3 : (Jvm.Cond.code ({ cls := "com/example/planwright/planwright/model/Kind", name := "read", desc := "(Ljava/lang/String;)Ljava/math/BigDecimal;" } : Jvm.MethodName) prog_56_method_9_code (5 : Nat) (Option.some (Jvm.ClassFile.FieldType.object "java/math/BigDecimal"))).before args0 about1 = true := code_word (m := ⟨6, 2⟩) (meth := k6m2) (c := k6c2) (by decide +kernel) rfl rfl rfl (by decide +kernel)
set_option maxRecDepth 65536 in
theorem w_c4 : (Jvm.Cond.code ({ cls := "java/lang/String", name := "length", desc := "()I" } : Jvm.MethodName) jdk_42_method_54_code (1 : Nat) (Option.some Jvm.ClassFile.FieldType.int)).before args0 about1 = true := code_word (m := ⟨10, 1⟩) (meth := k10m1) (c := k10c1) (by decide +kernel) rfl rfl rfl (by decide +kernel)
set_option maxRecDepth 65536 in
theorem w_c5 : (Jvm.Cond.code ({ cls := "java/lang/String", name := "coder", desc := "()B" } : Jvm.MethodName) jdk_42_method_152_code (1 : Nat) (Option.some Jvm.ClassFile.FieldType.byte)).before args0 about1 = true := code_word (m := ⟨10, 4⟩) (meth := k10m4) (c := k10c4) (by decide +kernel) rfl rfl rfl (by decide +kernel)
set_option maxRecDepth 65536 in
theorem w_c6 : (Jvm.Cond.code ({ cls := "java/lang/String", name := "codePointCount", desc := "(II)I" } : Jvm.MethodName) jdk_42_method_59_code (3 : Nat) (Option.some Jvm.ClassFile.FieldType.int)).before args0 about1 = true := code_word (m := ⟨10, 3⟩) (meth := k10m3) (c := k10c3) (by decide +kernel) rfl rfl rfl (by decide +kernel)
set_option maxRecDepth 65536 in
theorem w_c7 : (Jvm.Cond.code ({ cls := "java/util/Objects", name := "checkFromToIndex", desc := "(III)I" } : Jvm.MethodName) jdk_31_method_18_code (3 : Nat) (Option.some Jvm.ClassFile.FieldType.int)).before args0 about1 = true := code_word (m := ⟨11, 1⟩) (meth := k11m1) (c := k11c1) (by decide +kernel) rfl rfl rfl (by decide +kernel)
set_option maxRecDepth 65536 in
theorem w_c8 : (Jvm.Cond.code ({ cls := "jdk/internal/util/Preconditions", name := "checkFromToIndex", desc := "(IIILjava/util/function/BiFunction;)I" } : Jvm.MethodName) jdk_41_method_12_code (4 : Nat) (Option.some Jvm.ClassFile.FieldType.int)).before args0 about1 = true := code_word (m := ⟨12, 1⟩) (meth := k12m1) (c := k12c1) (by decide +kernel) rfl rfl rfl (by decide +kernel)
set_option maxRecDepth 65536 in
theorem w_c9 : (Jvm.Cond.code ({ cls := "java/lang/String", name := "isLatin1", desc := "()Z" } : Jvm.MethodName) jdk_42_method_154_code (1 : Nat) (Option.some Jvm.ClassFile.FieldType.boolean)).before args0 about1 = true := code_word (m := ⟨10, 5⟩) (meth := k10m5) (c := k10c5) (by decide +kernel) rfl rfl rfl (by decide +kernel)
set_option maxRecDepth 65536 in
theorem w_c10 : (Jvm.Cond.code ({ cls := "java/lang/Enum", name := "ordinal", desc := "()I" } : Jvm.MethodName) jdk_37_method_2_code (1 : Nat) (Option.some Jvm.ClassFile.FieldType.int)).before args0 about1 = true := code_word (m := ⟨5, 0⟩) (meth := k5m0) (c := k5c0) (by decide +kernel) rfl rfl rfl (by decide +kernel)
set_option maxRecDepth 65536 in
theorem w_c11 : (Jvm.Cond.code ({ cls := "java/lang/String", name := "isEmpty", desc := "()Z" } : Jvm.MethodName) jdk_42_method_55_code (1 : Nat) (Option.some Jvm.ClassFile.FieldType.boolean)).before args0 about1 = true := code_word (m := ⟨10, 2⟩) (meth := k10m2) (c := k10c2) (by decide +kernel) rfl rfl rfl (by decide +kernel)
def codes1 : List Jvm.Cond := [Jvm.Cond.code x code maxLocals ret, Jvm.Cond.code ({ cls := "com/example/planwright/planwright/model/Kind", name := "mayBeNone", desc := "()Z" } : Jvm.MethodName) prog_56_method_8_code (1 : Nat) (Option.some Jvm.ClassFile.FieldType.boolean), Jvm.Cond.code ({ cls := "com/example/planwright/planwright/model/Kind", name := "type", desc := "()Lcom/example/planwright/planwright/model/ValueType;" } : Jvm.MethodName) prog_56_method_5_code (1 : Nat) (Option.some (Jvm.ClassFile.FieldType.object "com/example/planwright/planwright/model/ValueType")), Jvm.Cond.code ({ cls := "com/example/planwright/planwright/model/Kind", name := "read", desc := "(Ljava/lang/String;)Ljava/math/BigDecimal;" } : Jvm.MethodName) prog_56_method_9_code (5 : Nat) (Option.some (Jvm.ClassFile.FieldType.object "java/math/BigDecimal")), Jvm.Cond.code ({ cls := "java/lang/String", name := "length", desc := "()I" } : Jvm.MethodName) jdk_42_method_54_code (1 : Nat) (Option.some Jvm.ClassFile.FieldType.int), Jvm.Cond.code ({ cls := "java/lang/String", name := "coder", desc := "()B" } : Jvm.MethodName) jdk_42_method_152_code (1 : Nat) (Option.some Jvm.ClassFile.FieldType.byte), Jvm.Cond.code ({ cls := "java/lang/String", name := "codePointCount", desc := "(II)I" } : Jvm.MethodName) jdk_42_method_59_code (3 : Nat) (Option.some Jvm.ClassFile.FieldType.int), Jvm.Cond.code ({ cls := "java/util/Objects", name := "checkFromToIndex", desc := "(III)I" } : Jvm.MethodName) jdk_31_method_18_code (3 : Nat) (Option.some Jvm.ClassFile.FieldType.int), Jvm.Cond.code ({ cls := "jdk/internal/util/Preconditions", name := "checkFromToIndex", desc := "(IIILjava/util/function/BiFunction;)I" } : Jvm.MethodName) jdk_41_method_12_code (4 : Nat) (Option.some Jvm.ClassFile.FieldType.int), Jvm.Cond.code ({ cls := "java/lang/String", name := "isLatin1", desc := "()Z" } : Jvm.MethodName) jdk_42_method_154_code (1 : Nat) (Option.some Jvm.ClassFile.FieldType.boolean), Jvm.Cond.code ({ cls := "java/lang/Enum", name := "ordinal", desc := "()I" } : Jvm.MethodName) jdk_37_method_2_code (1 : Nat) (Option.some Jvm.ClassFile.FieldType.int), Jvm.Cond.code ({ cls := "java/lang/String", name := "isEmpty", desc := "()Z" } : Jvm.MethodName) jdk_42_method_55_code (1 : Nat) (Option.some Jvm.ClassFile.FieldType.boolean)]
set_option maxRecDepth 65536 in
theorem codes_eq : words1.filter isCode = codes1 := rfl
theorem w_codes : ∀ c ∈ words1.filter isCode, c.before args0 about1 = true := by
  rw [codes_eq]
  intro c hc
  simp only [codes1, List.mem_cons, List.not_mem_nil, or_false] at hc
  rcases hc with rfl | rfl | rfl | rfl | rfl | rfl | rfl | rfl | rfl | rfl | rfl | rfl
  · exact w_c0
  · exact w_c1
  · exact w_c2
  · exact w_c3
  · exact w_c4
  · exact w_c5
  · exact w_c6
  · exact w_c7
  · exact w_c8
  · exact w_c9
  · exact w_c10
  · exact w_c11
set_option maxRecDepth 65536 in
theorem w_t1 : (words1.take 24).all (fun c => isCode c || c.before args0 about1) = true := by decide +kernel
set_option maxRecDepth 65536 in
theorem w_t2 : ((words1.drop 24).take 24).all (fun c => isCode c || c.before args0 about1) = true := by decide +kernel
set_option maxRecDepth 65536 in
theorem w_t3 : (((words1.drop 24).drop 24).take 24).all (fun c => isCode c || c.before args0 about1) = true := by decide +kernel
set_option maxRecDepth 65536 in
theorem w_t4 : (((words1.drop 24).drop 24).drop 24).all (fun c => isCode c || c.before args0 about1) = true := by decide +kernel
theorem w_tables : (allAtoms (Jvm.Cond.code x code maxLocals ret :: tables_1)).before args0 about1 = true := by
  rw [allAtoms_all]
  show words1.all (fun c => c.before args0 about1) = true
  refine all_split ?_ w_codes
  rw [← List.take_append_drop 24 words1, List.all_append, w_t1, ← List.take_append_drop 24 (words1.drop 24), List.all_append, w_t2, ← List.take_append_drop 24 ((words1.drop 24).drop 24), List.all_append, w_t3, w_t4]
  rfl
set_option maxRecDepth 65536 in
theorem w_rest : rest_1_c.before args0 about1 = true := by decide +kernel
set_option maxRecDepth 65536 in
theorem w_case : (Jvm.Cond.and given_1 narrow_1).before args0 about1 = true := by decide +kernel
set_option maxRecDepth 65536 in
theorem w_consts : constsHeld consts_1 about1 := Jvm.Lit.constsHeldB_iff.mp (by decide +kernel)
theorem w_applies : (headSpec (Jvm.Cond.code x code maxLocals ret :: tables_1) room_1).applies x e0.platform about1 = true :=
  (Spec.applies_iff w_frames).mpr ⟨w_running, w_runnable, w_alone, w_named, w_hears, w_ripe, w_room, w_tables⟩
theorem atStart : AtStart classFile x code maxLocals ret World_1 tables_1 room_1 Calls_1 rest_1 Pre_1 launch0 p0 e0 about1 theMethod args0 below0 :=
  ⟨lists_1, trivial, launch0.admits_env _ _ _, launch0.least_env, fairChoices_fair.cas, fairChoices_fair.clock, w_frames, w_args, w_heap, w_applies, ⟨w_consts, trivial⟩, w_rest, w_case⟩
end start1
theorem witness_1 : WitnessClaimed_1 := ⟨start1.p0, start1.e0, start1.about1, start1.theMethod, start1.args0, start1.below0, start1.atStart⟩
end Jvm.Pilot.@@N@@
