import JvmDerived
import JvmDerived.Pilot.@@N@@Statement
import JvmDerived.Pilot.@@N@@Code
set_option linter.unusedVariables false
set_option linter.unusedSimpArgs false
namespace Jvm.Pilot.@@N@@
open Jvm Jvm.ClassFile Sem Op Lib Jvm.Free Jvm.Stand Jvm.LawKit Jvm.RoadKit Bundle Jvm.Pilot.@@N@@.Jvm.D
/-! what is left of a run: it comes to its end, and there Q holds -/
def oG (p : Program) (e : Env) (below : List Frame) (s : State) (Q : Option Value → Heap → List Loc → Prop) (rc rs : Nat) (S : State) : Prop :=
  ∃ s₂ o, Steps p.tables e below S s₂ ∧ s₂.status = .running ∧ Ended s₂ below o ∧ ∃ v L, o = .returned v ∧ Q v s₂.heap L ∧ FrameEnd s o s₂ L rc rs
theorem oS {p : Program} {e : Env} {below : List Frame} {s : State} {Q : Option Value → Heap → List Loc → Prop} {rc rs : Nat} {S S' : State} (k : ∀ t, Steps p.tables e below S' t → Steps p.tables e below S t) (g : oG p e below s Q rc rs S') : oG p e below s Q rc rs S := by
  obtain ⟨s₂, o, h1, h2⟩ := g
  exact ⟨s₂, o, k _ h1, h2⟩
theorem own_ret {p : Program} {l : Launch} {e : Env} {R : Room} {s : State} {m : MethodId} {args : Array Value} {below : List Frame} {meth : Method} {c : Code} {T : State} {locs : List Loc} {cells slots : Nat} {Q : Option Value → Heap → List Loc → Prop} {rc rs : Nat} {S : State} {v : Option Value} (X : Stand p l e R s m args below meth c T locs cells slots) (hv : meth.sig.returnType = none → v = none) (hlocks : meth.locks = false)
    (st : ∀ fs, (∀ (f : JFrame) (acts : List Action), f.method = m → f.locked = none → f.entered = [] → (doReturn e (T.setTop f) acts v).1 = T.setFrames fs) → Steps p.tables e below S (T.setFrames fs)) (q : Q v T.heap locs) (hc : cells ≤ rc) (hs : slots ≤ rs) : oG p e below s Q rc rs S := by
  obtain ⟨fs, hr, hrun, hended, hW, hsame⟩ := X.leave hv hlocks
  exact ⟨_, _, st fs hr, hrun, hended, _, _, rfl, q, ⟨_, rfl⟩, hW, hsame.mono hc hs⟩
theorem oIc {tb : Tables} [Ours tb] {e : Env} {below : List Frame} {T target : State} {m : MethodId} {c : Code} {g : JFrame} {i : Int} {z : Int32} (hz : Int32.ofInt i = z) (h : At T m c below) (hx : tb.exec = Jvm.exec) (hg : g.method = m) (hd : decode c.code g.pc = .ok (.iconst i, 1)) (hr : Steps tb e below (T.setTop { g with pc := g.pc + 1, stack := .int z :: g.stack }) target) : Steps tb e below (T.setTop g) target := XS.iconst h hx hg hd (by rw [hz]; exact hr)
theorem oBp {tb : Tables} [Ours tb] {e : Env} {below : List Frame} {T target : State} {m : MethodId} {c : Code} {g : JFrame} {i : Int} {z : Int32} (hz : (Int8.ofInt i).toInt32 = z) (h : At T m c below) (hx : tb.exec = Jvm.exec) (hg : g.method = m) (hd : decode c.code g.pc = .ok (.bipush i, 2)) (hr : Steps tb e below (T.setTop { g with pc := g.pc + 2, stack := .int z :: g.stack }) target) : Steps tb e below (T.setTop g) target := XS.bipush h hx hg hd (by rw [hz]; exact hr)
theorem oSp {tb : Tables} [Ours tb] {e : Env} {below : List Frame} {T target : State} {m : MethodId} {c : Code} {g : JFrame} {i : Int} {z : Int32} (hz : (Int16.ofInt i).toInt32 = z) (h : At T m c below) (hx : tb.exec = Jvm.exec) (hg : g.method = m) (hd : decode c.code g.pc = .ok (.sipush i, 3)) (hr : Steps tb e below (T.setTop { g with pc := g.pc + 3, stack := .int z :: g.stack }) target) : Steps tb e below (T.setTop g) target := XS.sipush h hx hg hd (by rw [hz]; exact hr)
theorem oLc {tb : Tables} [Ours tb] {e : Env} {below : List Frame} {T target : State} {m : MethodId} {c : Code} {g : JFrame} {i : Fin 2} {z : Int64} (hz : Int64.ofNat i = z) (h : At T m c below) (hx : tb.exec = Jvm.exec) (hg : g.method = m) (hd : decode c.code g.pc = .ok (.lconst i, 1)) (hr : Steps tb e below (T.setTop { g with pc := g.pc + 1, stack := .long z :: g.stack }) target) : Steps tb e below (T.setTop g) target := XS.lconst h hx hg hd (by rw [hz]; exact hr)
theorem oW {a0 : Array Value} {Z : State} (hw : ∀ d ∈ tables_1, d.before a0 Z = true) (i : Nat) {d : Jvm.Cond} (h : tables_1[i]? = some d) : d.before a0 Z = true := hw _ (List.mem_of_getElem? h)
theorem own_eqv {args : Array Value} {s : State} {a b : Term} {v : Value} (h : (Jvm.Cond.eq a b).value args s none s [] = some true) (hb : b.eval args s none [] s = some v) : a.eval args s none [] s = some v := by
  obtain ⟨x, y, ha, hb', -, -⟩ := cmp_v (Or.inl h)
  cases hb.symm.trans hb'
  rw [ha]
  cases x <;> cases v <;> simp [Cond.value, ha, hb] at h ⊢ <;> exact h
theorem own_len {args : Array Value} {s : State} {t : Term} {a : Addr} {cl : Cell} {ty : FieldType} {z : Int32} (h : (Term.length t).eval args s none [] s = some (.int z)) (ht : t.eval args s none [] s = some (.ref a)) (A : Arr s s.heap a cl ty) : cl.slots.size < 2 ^ 31 ∧ cl.slots.size.toInt32 = z := by
  have hA := A.fin (Vm.Alike.refl _)
  obtain ⟨a', cell, h1, h2, h3⟩ := Term.length_spec h
  cases ht.symm.trans h1
  cases hA.symm.trans h2
  refine ⟨?_, (Value.int.inj h3).symm⟩
  simp only [Term.eval, ht, hA, Option.bind_eq_bind, Option.bind_some] at h
  split at h
  · assumption
  · cases h
theorem own_sz {n : Nat} {z : Int32} (h1 : n < 2 ^ 31) (h2 : n.toInt32 = z) : n = z.toNatClampNeg := by
  rw [← h2]; simp only [Int32.toNatClampNeg, len_toInt h1]; rfl
theorem own_box {args : Array Value} {s : State} {t : Term} {a : Addr} {c : Cell} {K : String} {G : Jvm.Cond} (et : ∀ idx, t.eval args s none idx s = some (.ref a)) (A : Arr s s.heap a c (.object K)) (h : (Jvm.Cond.all t (.and (.exactly (.elem t (.index 0)) K) G)).value args s none s [] = some true) :
    ∀ j : Int32, ¬ (j < 0 ∨ c.slots.size ≤ j.toNatClampNeg) → ∃ b : Addr, c.slots[j.toNatClampNeg]? = some (.ref b) ∧ Exa s s.heap b K := fun j hj => by
  have nn : ¬ j < 0 := fun x => hj (Or.inl x)
  obtain ⟨u1, -⟩ := and_e (Cond.all_elim (et []) (A.fin (Vm.Alike.refl _)) h j.toNatClampNeg (Nat.lt_of_not_le fun x => hj (Or.inr x)))
  obtain ⟨b, eb⟩ := exa_v u1
  exact ⟨b, (elem_f (et _) (idx_at nn) (A.fin (Vm.Alike.refl _)) nn).symm.trans eb, exa_at eb u1⟩
theorem own_neI {Z : State} {h : Heap} {a b : Addr} {C n d : String} {x y : Int32} (F : Fld Z h a C n d (.int x)) (G : Fld Z h b C n d (.int y)) (hn : x ≠ y) : ¬ a = b := fun e => by
  subst e
  obtain ⟨c1, cf1, k1, i1, f1, a1, a2, -, -, -, -, a7⟩ := F
  obtain ⟨c2, cf2, k2, i2, f2, b1, b2, -, -, -, -, b7⟩ := G
  cases a1.symm.trans b1
  cases a2.symm.trans b2
  cases a7.symm.trans b7
  exact hn rfl
theorem own_neJ {Z : State} {h : Heap} {a b : Addr} {C n d : String} {x y : Int64} (F : Fld Z h a C n d (.long x)) (G : Fld Z h b C n d (.long y)) (hn : x ≠ y) : ¬ a = b := fun e => by
  subst e
  obtain ⟨c1, cf1, k1, i1, f1, a1, a2, -, -, -, -, a7⟩ := F
  obtain ⟨c2, cf2, k2, i2, f2, b1, b2, -, -, -, -, b7⟩ := G
  cases a1.symm.trans b1
  cases a2.symm.trans b2
  cases a7.symm.trans b7
  exact hn rfl
theorem own_ten (p : Int32) : ((p &&& (2147483647 : Int32)) % (10 : Int32)) = (0 : Int32) ∨ ((p &&& (2147483647 : Int32)) % (10 : Int32)) = (1 : Int32) ∨ ((p &&& (2147483647 : Int32)) % (10 : Int32)) = (2 : Int32) ∨ ((p &&& (2147483647 : Int32)) % (10 : Int32)) = (3 : Int32) ∨ ((p &&& (2147483647 : Int32)) % (10 : Int32)) = (4 : Int32) ∨ ((p &&& (2147483647 : Int32)) % (10 : Int32)) = (5 : Int32) ∨ ((p &&& (2147483647 : Int32)) % (10 : Int32)) = (6 : Int32) ∨ ((p &&& (2147483647 : Int32)) % (10 : Int32)) = (7 : Int32) ∨ ((p &&& (2147483647 : Int32)) % (10 : Int32)) = (8 : Int32) ∨ ((p &&& (2147483647 : Int32)) % (10 : Int32)) = (9 : Int32) := by
  have h0 : (p &&& (2147483647 : Int32)).toInt = p.toInt % 2147483648 := c_mask p 2147483647 31 (by decide) (by decide)
  have h1 := (c_irem (p &&& (2147483647 : Int32)) 10 10 rfl).1 (by omega)
  generalize ((p &&& (2147483647 : Int32)) % (10 : Int32)) = z at *
  have e0 : (0 : Int32).toInt = 0 := rfl
  have e1 : (1 : Int32).toInt = 1 := rfl
  have e2 : (2 : Int32).toInt = 2 := rfl
  have e3 : (3 : Int32).toInt = 3 := rfl
  have e4 : (4 : Int32).toInt = 4 := rfl
  have e5 : (5 : Int32).toInt = 5 := rfl
  have e6 : (6 : Int32).toInt = 6 := rfl
  have e7 : (7 : Int32).toInt = 7 := rfl
  have e8 : (8 : Int32).toInt = 8 := rfl
  have e9 : (9 : Int32).toInt = 9 := rfl
  simp only [← Int32.toInt_inj, e0, e1, e2, e3, e4, e5, e6, e7, e8, e9]
  omega
def own_World (Z : State) (w : Nat → Addr) : Prop := Sta Z Z.heap "com/example/lamassu/lamassu/model/Redirection$Operator" "INPUT" "Lcom/example/lamassu/lamassu/model/Redirection$Operator;" (.ref (w 0)) ∧ Exa Z Z.heap (w 0) "com/example/lamassu/lamassu/model/Redirection$Operator" ∧ Sta Z Z.heap "com/example/lamassu/lamassu/model/Redirection$Operator" "OUTPUT" "Lcom/example/lamassu/lamassu/model/Redirection$Operator;" (.ref (w 1)) ∧ Exa Z Z.heap (w 1) "com/example/lamassu/lamassu/model/Redirection$Operator" ∧ Sta Z Z.heap "com/example/lamassu/lamassu/model/Redirection$Operator" "CLOBBER" "Lcom/example/lamassu/lamassu/model/Redirection$Operator;" (.ref (w 2)) ∧ Exa Z Z.heap (w 2) "com/example/lamassu/lamassu/model/Redirection$Operator" ∧ Sta Z Z.heap "com/example/lamassu/lamassu/model/Redirection$Operator" "APPEND" "Lcom/example/lamassu/lamassu/model/Redirection$Operator;" (.ref (w 3)) ∧ Exa Z Z.heap (w 3) "com/example/lamassu/lamassu/model/Redirection$Operator" ∧ Sta Z Z.heap "com/example/lamassu/lamassu/model/Redirection$Operator" "DUPLICATE_INPUT" "Lcom/example/lamassu/lamassu/model/Redirection$Operator;" (.ref (w 4)) ∧ Exa Z Z.heap (w 4) "com/example/lamassu/lamassu/model/Redirection$Operator" ∧ Sta Z Z.heap "com/example/lamassu/lamassu/model/Redirection$Operator" "DUPLICATE_OUTPUT" "Lcom/example/lamassu/lamassu/model/Redirection$Operator;" (.ref (w 5)) ∧ Exa Z Z.heap (w 5) "com/example/lamassu/lamassu/model/Redirection$Operator" ∧ Sta Z Z.heap "com/example/lamassu/lamassu/model/Redirection$Operator" "OUTPUT_AND_ERROR" "Lcom/example/lamassu/lamassu/model/Redirection$Operator;" (.ref (w 6)) ∧ Exa Z Z.heap (w 6) "com/example/lamassu/lamassu/model/Redirection$Operator" ∧ Sta Z Z.heap "com/example/lamassu/lamassu/model/Redirection$Operator" "APPEND_OUTPUT_AND_ERROR" "Lcom/example/lamassu/lamassu/model/Redirection$Operator;" (.ref (w 7)) ∧ Exa Z Z.heap (w 7) "com/example/lamassu/lamassu/model/Redirection$Operator" ∧ Sta Z Z.heap "com/example/lamassu/lamassu/model/Redirection$Operator" "HERE_DOCUMENT" "Lcom/example/lamassu/lamassu/model/Redirection$Operator;" (.ref (w 8)) ∧ Exa Z Z.heap (w 8) "com/example/lamassu/lamassu/model/Redirection$Operator" ∧ Sta Z Z.heap "com/example/lamassu/lamassu/model/Redirection$Operator" "HERE_STRING" "Lcom/example/lamassu/lamassu/model/Redirection$Operator;" (.ref (w 9)) ∧ Exa Z Z.heap (w 9) "com/example/lamassu/lamassu/model/Redirection$Operator" ∧ Fld Z Z.heap (w 6) "com/example/lamassu/lamassu/model/Redirection$Operator" "defaultDescriptor" "I" (.int 1) ∧ Fld Z Z.heap (w 3) "com/example/lamassu/lamassu/model/Redirection$Operator" "defaultDescriptor" "I" (.int 1) ∧ Fld Z Z.heap (w 7) "com/example/lamassu/lamassu/model/Redirection$Operator" "defaultDescriptor" "I" (.int 1) ∧ Fld Z Z.heap (w 5) "com/example/lamassu/lamassu/model/Redirection$Operator" "defaultDescriptor" "I" (.int 1) ∧ Fld Z Z.heap (w 9) "com/example/lamassu/lamassu/model/Redirection$Operator" "defaultDescriptor" "I" (.int 0) ∧ Fld Z Z.heap (w 0) "com/example/lamassu/lamassu/model/Redirection$Operator" "defaultDescriptor" "I" (.int 0) ∧ Fld Z Z.heap (w 4) "com/example/lamassu/lamassu/model/Redirection$Operator" "defaultDescriptor" "I" (.int 0) ∧ Fld Z Z.heap (w 2) "com/example/lamassu/lamassu/model/Redirection$Operator" "defaultDescriptor" "I" (.int 1) ∧ Fld Z Z.heap (w 8) "com/example/lamassu/lamassu/model/Redirection$Operator" "defaultDescriptor" "I" (.int 0) ∧ Fld Z Z.heap (w 1) "com/example/lamassu/lamassu/model/Redirection$Operator" "defaultDescriptor" "I" (.int 1)
theorem own_world {args : Array Value} {s : State} (hw : ∀ d ∈ tables_1, d.before args s = true) (hfit : Fit s) (hn : narrow_1.value args s none s [] = some true) : ∃ w : Nat → Addr, own_World s w := by
  obtain ⟨h0, q1⟩ := and_e hn
  obtain ⟨h1, q3⟩ := and_e q1
  obtain ⟨h2, q5⟩ := and_e q3
  obtain ⟨h3, q7⟩ := and_e q5
  obtain ⟨h4, q9⟩ := and_e q7
  obtain ⟨h5, q11⟩ := and_e q9
  obtain ⟨h6, q13⟩ := and_e q11
  obtain ⟨h7, q15⟩ := and_e q13
  obtain ⟨h8, q17⟩ := and_e q15
  obtain ⟨h9, q19⟩ := and_e q17
  obtain ⟨h10, q21⟩ := and_e q19
  obtain ⟨h11, q23⟩ := and_e q21
  obtain ⟨h12, q25⟩ := and_e q23
  obtain ⟨h13, q27⟩ := and_e q25
  obtain ⟨h14, q29⟩ := and_e q27
  obtain ⟨h15, q31⟩ := and_e q29
  obtain ⟨h16, q33⟩ := and_e q31
  obtain ⟨h17, q35⟩ := and_e q33
  obtain ⟨h18, h19⟩ := and_e q35
  obtain ⟨c0, e0⟩ := exa_v h0
  obtain ⟨c1, e1⟩ := exa_v h1
  obtain ⟨c2, e2⟩ := exa_v h2
  obtain ⟨c3, e3⟩ := exa_v h3
  obtain ⟨c4, e4⟩ := exa_v h4
  obtain ⟨c5, e5⟩ := exa_v h5
  obtain ⟨c6, e6⟩ := exa_v h6
  obtain ⟨c7, e7⟩ := exa_v h7
  obtain ⟨c8, e8⟩ := exa_v h8
  obtain ⟨c9, e9⟩ := exa_v h9
  exact ⟨fun n => ([c0, c1, c2, c3, c4, c5, c6, c7, c8, c9] : List Nat).getD n 0, Sta.start e0 (Or.inr ⟨(oW hw 4 rfl), (oW hw 5 rfl)⟩), Exa.start e0 h0, Sta.start e1 (Or.inr ⟨(oW hw 4 rfl), (oW hw 8 rfl)⟩), Exa.start e1 h1, Sta.start e2 (Or.inr ⟨(oW hw 4 rfl), (oW hw 10 rfl)⟩), Exa.start e2 h2, Sta.start e3 (Or.inr ⟨(oW hw 4 rfl), (oW hw 12 rfl)⟩), Exa.start e3 h3, Sta.start e4 (Or.inr ⟨(oW hw 4 rfl), (oW hw 14 rfl)⟩), Exa.start e4 h4, Sta.start e5 (Or.inr ⟨(oW hw 4 rfl), (oW hw 16 rfl)⟩), Exa.start e5 h5, Sta.start e6 (Or.inr ⟨(oW hw 4 rfl), (oW hw 18 rfl)⟩), Exa.start e6 h6, Sta.start e7 (Or.inr ⟨(oW hw 4 rfl), (oW hw 20 rfl)⟩), Exa.start e7 h7, Sta.start e8 (Or.inr ⟨(oW hw 4 rfl), (oW hw 22 rfl)⟩), Exa.start e8 h8, Sta.start e9 (Or.inr ⟨(oW hw 4 rfl), (oW hw 24 rfl)⟩), Exa.start e9 h9, Fld.start ((fld_at e6).symm.trans (own_eqv h10 rfl)), Fld.start ((fld_at e3).symm.trans (own_eqv h11 rfl)), Fld.start ((fld_at e7).symm.trans (own_eqv h12 rfl)), Fld.start ((fld_at e5).symm.trans (own_eqv h13 rfl)), Fld.start ((fld_at e9).symm.trans (own_eqv h14 rfl)), Fld.start ((fld_at e0).symm.trans (own_eqv h15 rfl)), Fld.start ((fld_at e4).symm.trans (own_eqv h16 rfl)), Fld.start ((fld_at e2).symm.trans (own_eqv h17 rfl)), Fld.start ((fld_at e8).symm.trans (own_eqv h18 rfl)), Fld.start ((fld_at e1).symm.trans (own_eqv h19 rfl))⟩
theorem wS0 {Z : State} {w : Nat → Addr} (W : own_World Z w) : Sta Z Z.heap "com/example/lamassu/lamassu/model/Redirection$Operator" "INPUT" "Lcom/example/lamassu/lamassu/model/Redirection$Operator;" (.ref (w 0)) := W.1
theorem wE0 {Z : State} {w : Nat → Addr} (W : own_World Z w) : Exa Z Z.heap (w 0) "com/example/lamassu/lamassu/model/Redirection$Operator" := W.2.1
theorem wS1 {Z : State} {w : Nat → Addr} (W : own_World Z w) : Sta Z Z.heap "com/example/lamassu/lamassu/model/Redirection$Operator" "OUTPUT" "Lcom/example/lamassu/lamassu/model/Redirection$Operator;" (.ref (w 1)) := W.2.2.1
theorem wE1 {Z : State} {w : Nat → Addr} (W : own_World Z w) : Exa Z Z.heap (w 1) "com/example/lamassu/lamassu/model/Redirection$Operator" := W.2.2.2.1
theorem wS2 {Z : State} {w : Nat → Addr} (W : own_World Z w) : Sta Z Z.heap "com/example/lamassu/lamassu/model/Redirection$Operator" "CLOBBER" "Lcom/example/lamassu/lamassu/model/Redirection$Operator;" (.ref (w 2)) := W.2.2.2.2.1
theorem wE2 {Z : State} {w : Nat → Addr} (W : own_World Z w) : Exa Z Z.heap (w 2) "com/example/lamassu/lamassu/model/Redirection$Operator" := W.2.2.2.2.2.1
theorem wS3 {Z : State} {w : Nat → Addr} (W : own_World Z w) : Sta Z Z.heap "com/example/lamassu/lamassu/model/Redirection$Operator" "APPEND" "Lcom/example/lamassu/lamassu/model/Redirection$Operator;" (.ref (w 3)) := W.2.2.2.2.2.2.1
theorem wE3 {Z : State} {w : Nat → Addr} (W : own_World Z w) : Exa Z Z.heap (w 3) "com/example/lamassu/lamassu/model/Redirection$Operator" := W.2.2.2.2.2.2.2.1
theorem wS4 {Z : State} {w : Nat → Addr} (W : own_World Z w) : Sta Z Z.heap "com/example/lamassu/lamassu/model/Redirection$Operator" "DUPLICATE_INPUT" "Lcom/example/lamassu/lamassu/model/Redirection$Operator;" (.ref (w 4)) := W.2.2.2.2.2.2.2.2.1
theorem wE4 {Z : State} {w : Nat → Addr} (W : own_World Z w) : Exa Z Z.heap (w 4) "com/example/lamassu/lamassu/model/Redirection$Operator" := W.2.2.2.2.2.2.2.2.2.1
theorem wS5 {Z : State} {w : Nat → Addr} (W : own_World Z w) : Sta Z Z.heap "com/example/lamassu/lamassu/model/Redirection$Operator" "DUPLICATE_OUTPUT" "Lcom/example/lamassu/lamassu/model/Redirection$Operator;" (.ref (w 5)) := W.2.2.2.2.2.2.2.2.2.2.1
theorem wE5 {Z : State} {w : Nat → Addr} (W : own_World Z w) : Exa Z Z.heap (w 5) "com/example/lamassu/lamassu/model/Redirection$Operator" := W.2.2.2.2.2.2.2.2.2.2.2.1
theorem wS6 {Z : State} {w : Nat → Addr} (W : own_World Z w) : Sta Z Z.heap "com/example/lamassu/lamassu/model/Redirection$Operator" "OUTPUT_AND_ERROR" "Lcom/example/lamassu/lamassu/model/Redirection$Operator;" (.ref (w 6)) := W.2.2.2.2.2.2.2.2.2.2.2.2.1
theorem wE6 {Z : State} {w : Nat → Addr} (W : own_World Z w) : Exa Z Z.heap (w 6) "com/example/lamassu/lamassu/model/Redirection$Operator" := W.2.2.2.2.2.2.2.2.2.2.2.2.2.1
theorem wS7 {Z : State} {w : Nat → Addr} (W : own_World Z w) : Sta Z Z.heap "com/example/lamassu/lamassu/model/Redirection$Operator" "APPEND_OUTPUT_AND_ERROR" "Lcom/example/lamassu/lamassu/model/Redirection$Operator;" (.ref (w 7)) := W.2.2.2.2.2.2.2.2.2.2.2.2.2.2.1
theorem wE7 {Z : State} {w : Nat → Addr} (W : own_World Z w) : Exa Z Z.heap (w 7) "com/example/lamassu/lamassu/model/Redirection$Operator" := W.2.2.2.2.2.2.2.2.2.2.2.2.2.2.2.1
theorem wS8 {Z : State} {w : Nat → Addr} (W : own_World Z w) : Sta Z Z.heap "com/example/lamassu/lamassu/model/Redirection$Operator" "HERE_DOCUMENT" "Lcom/example/lamassu/lamassu/model/Redirection$Operator;" (.ref (w 8)) := W.2.2.2.2.2.2.2.2.2.2.2.2.2.2.2.2.1
theorem wE8 {Z : State} {w : Nat → Addr} (W : own_World Z w) : Exa Z Z.heap (w 8) "com/example/lamassu/lamassu/model/Redirection$Operator" := W.2.2.2.2.2.2.2.2.2.2.2.2.2.2.2.2.2.1
theorem wS9 {Z : State} {w : Nat → Addr} (W : own_World Z w) : Sta Z Z.heap "com/example/lamassu/lamassu/model/Redirection$Operator" "HERE_STRING" "Lcom/example/lamassu/lamassu/model/Redirection$Operator;" (.ref (w 9)) := W.2.2.2.2.2.2.2.2.2.2.2.2.2.2.2.2.2.2.1
theorem wE9 {Z : State} {w : Nat → Addr} (W : own_World Z w) : Exa Z Z.heap (w 9) "com/example/lamassu/lamassu/model/Redirection$Operator" := W.2.2.2.2.2.2.2.2.2.2.2.2.2.2.2.2.2.2.2.1
theorem wF6_defaultDescriptor {Z : State} {w : Nat → Addr} (W : own_World Z w) : Fld Z Z.heap (w 6) "com/example/lamassu/lamassu/model/Redirection$Operator" "defaultDescriptor" "I" (.int 1) := W.2.2.2.2.2.2.2.2.2.2.2.2.2.2.2.2.2.2.2.2.1
theorem wF3_defaultDescriptor {Z : State} {w : Nat → Addr} (W : own_World Z w) : Fld Z Z.heap (w 3) "com/example/lamassu/lamassu/model/Redirection$Operator" "defaultDescriptor" "I" (.int 1) := W.2.2.2.2.2.2.2.2.2.2.2.2.2.2.2.2.2.2.2.2.2.1
theorem wF7_defaultDescriptor {Z : State} {w : Nat → Addr} (W : own_World Z w) : Fld Z Z.heap (w 7) "com/example/lamassu/lamassu/model/Redirection$Operator" "defaultDescriptor" "I" (.int 1) := W.2.2.2.2.2.2.2.2.2.2.2.2.2.2.2.2.2.2.2.2.2.2.1
theorem wF5_defaultDescriptor {Z : State} {w : Nat → Addr} (W : own_World Z w) : Fld Z Z.heap (w 5) "com/example/lamassu/lamassu/model/Redirection$Operator" "defaultDescriptor" "I" (.int 1) := W.2.2.2.2.2.2.2.2.2.2.2.2.2.2.2.2.2.2.2.2.2.2.2.1
theorem wF9_defaultDescriptor {Z : State} {w : Nat → Addr} (W : own_World Z w) : Fld Z Z.heap (w 9) "com/example/lamassu/lamassu/model/Redirection$Operator" "defaultDescriptor" "I" (.int 0) := W.2.2.2.2.2.2.2.2.2.2.2.2.2.2.2.2.2.2.2.2.2.2.2.2.1
theorem wF0_defaultDescriptor {Z : State} {w : Nat → Addr} (W : own_World Z w) : Fld Z Z.heap (w 0) "com/example/lamassu/lamassu/model/Redirection$Operator" "defaultDescriptor" "I" (.int 0) := W.2.2.2.2.2.2.2.2.2.2.2.2.2.2.2.2.2.2.2.2.2.2.2.2.2.1
theorem wF4_defaultDescriptor {Z : State} {w : Nat → Addr} (W : own_World Z w) : Fld Z Z.heap (w 4) "com/example/lamassu/lamassu/model/Redirection$Operator" "defaultDescriptor" "I" (.int 0) := W.2.2.2.2.2.2.2.2.2.2.2.2.2.2.2.2.2.2.2.2.2.2.2.2.2.2.1
theorem wF2_defaultDescriptor {Z : State} {w : Nat → Addr} (W : own_World Z w) : Fld Z Z.heap (w 2) "com/example/lamassu/lamassu/model/Redirection$Operator" "defaultDescriptor" "I" (.int 1) := W.2.2.2.2.2.2.2.2.2.2.2.2.2.2.2.2.2.2.2.2.2.2.2.2.2.2.2.1
theorem wF8_defaultDescriptor {Z : State} {w : Nat → Addr} (W : own_World Z w) : Fld Z Z.heap (w 8) "com/example/lamassu/lamassu/model/Redirection$Operator" "defaultDescriptor" "I" (.int 0) := W.2.2.2.2.2.2.2.2.2.2.2.2.2.2.2.2.2.2.2.2.2.2.2.2.2.2.2.2.1
theorem wF1_defaultDescriptor {Z : State} {w : Nat → Addr} (W : own_World Z w) : Fld Z Z.heap (w 1) "com/example/lamassu/lamassu/model/Redirection$Operator" "defaultDescriptor" "I" (.int 1) := W.2.2.2.2.2.2.2.2.2.2.2.2.2.2.2.2.2.2.2.2.2.2.2.2.2.2.2.2.2
theorem d1_0 : decode prog_140_method_1_code 0 = .ok (.aload_n 0, 1) := by decide +kernel
theorem d1_1 : decode prog_140_method_1_code 1 = .ok (.invokespecial 1, 3) := by decide +kernel
theorem d1_4 : decode prog_140_method_1_code 4 = .ok (.aload_n 0, 1) := by decide +kernel
theorem d1_5 : decode prog_140_method_1_code 5 = .ok (.iload_n 1, 1) := by decide +kernel
theorem d1_6 : decode prog_140_method_1_code 6 = .ok (.putfield 7, 3) := by decide +kernel
theorem d1_9 : decode prog_140_method_1_code 9 = .ok (.aload_n 0, 1) := by decide +kernel
theorem d1_10 : decode prog_140_method_1_code 10 = .ok (.aload_n 2, 1) := by decide +kernel
theorem d1_11 : decode prog_140_method_1_code 11 = .ok (.putfield 13, 3) := by decide +kernel
theorem d1_14 : decode prog_140_method_1_code 14 = .ok (.aload_n 0, 1) := by decide +kernel
theorem d1_15 : decode prog_140_method_1_code 15 = .ok (.aload_n 3, 1) := by decide +kernel
theorem d1_16 : decode prog_140_method_1_code 16 = .ok (.putfield 17, 3) := by decide +kernel
theorem d1_19 : decode prog_140_method_1_code 19 = .ok (.aload_n 0, 1) := by decide +kernel
theorem d1_20 : decode prog_140_method_1_code 20 = .ok (.aload 4, 2) := by decide +kernel
theorem d1_22 : decode prog_140_method_1_code 22 = .ok (.putfield 21, 3) := by decide +kernel
theorem d1_25 : decode prog_140_method_1_code 25 = .ok (.return_, 1) := by decide +kernel
abbrev mY0 : MethodName := (⟨"com/example/lamassu/lamassu/model/Redirection", "<init>", "(ILcom/example/lamassu/lamassu/model/Redirection$Operator;Lcom/example/lamassu/lamassu/model/Word;Ljava/lang/String;)V"⟩ : MethodName)
theorem ef_1_rirnn (m : MethodId) (x0 : Addr) (x1 : Int32) (x2 : Addr) : entryFrame m #[(.ref x0), (.int x1), (.ref x2), .null, .null] 5 = mkF m 0 #[.val (.ref x0), .val (.int x1), .val (.ref x2), .val .null, .val .null] [] := by first | (simp [entryFrame, mkF, argsToLocals, Value.category]; done) | rfl
theorem pn_0 : plainName "com/example/lamassu/lamassu/model/Redirection" = true := by first | (simp [plainName, overriddenIn]; done) | decide +kernel
def Q_init (Z : State) (a1 : Addr) (p2 : Int32) (a3 : Addr) (u_number : Value) (u_operator : Value) (u_word : Value) (u_written : Value) (w : Nat → Addr) (h0 : Heap) (n0 : Nat) (v : Option Value) (h : Heap) (L : List Loc) : Prop := v = none ∧ Fr n0 L ∧ Keep h0 h [a1] ∧ Exa Z h a1 "com/example/lamassu/lamassu/model/Redirection" ∧ Fld Z h a1 "com/example/lamassu/lamassu/model/Redirection" "number" "I" (.int p2) ∧ Fld Z h a1 "com/example/lamassu/lamassu/model/Redirection" "operator" "Lcom/example/lamassu/lamassu/model/Redirection$Operator;" (.ref a3) ∧ Fld Z h a1 "com/example/lamassu/lamassu/model/Redirection" "word" "Lcom/example/lamassu/lamassu/model/Word;" .null ∧ Fld Z h a1 "com/example/lamassu/lamassu/model/Redirection" "written" "Ljava/lang/String;" .null
set_option maxRecDepth 65536 in
set_option maxHeartbeats 40000000 in
theorem rm_init (l : Launch) (Z : State) (a0 : Array Value) (hw : ∀ d ∈ tables_1, d.before a0 Z = true) (ws : List Jvm.Cond) (a1 : Addr) (p2 : Int32) (a3 : Addr) (u_number : Value) (u_operator : Value) (u_word : Value) (u_written : Value) (w : Nat → Addr) (h0 : Heap) (n0 : Nat) (O0 : Old Z n0 h0) (W : own_World Z w) (E_a1 : Exa Z h0 a1 "com/example/lamassu/lamassu/model/Redirection") (g_a1 : n0 ≤ a1) (F_number_a1 : Fld Z h0 a1 "com/example/lamassu/lamassu/model/Redirection" "number" "I" u_number) (F_operator_a1 : Fld Z h0 a1 "com/example/lamassu/lamassu/model/Redirection" "operator" "Lcom/example/lamassu/lamassu/model/Redirection$Operator;" u_operator) (F_word_a1 : Fld Z h0 a1 "com/example/lamassu/lamassu/model/Redirection" "word" "Lcom/example/lamassu/lamassu/model/Word;" u_word) (F_written_a1 : Fld Z h0 a1 "com/example/lamassu/lamassu/model/Redirection" "written" "Ljava/lang/String;" u_written) :
    MetFree l mY0 (head1 (Jvm.Cond.code mY0 prog_140_method_1_code 5 none :: ws) ({ frames := 1, cells := 0, slots := 0, locals := 12 } : Room)) (fun a U => a = #[(.ref a1), (.int p2), (.ref a3), .null, .null] ∧ Z.Warmed39 U.vm ∧ U.heap = h0) (fun _ _ _ _ _ => True) (fun _ U o U' => ∃ v L, o = .returned v ∧ Q_init Z a1 p2 a3 u_number u_operator u_word u_written w h0 n0 v U'.heap L ∧ FrameEnd U o U' L ({ frames := 1, cells := 0, slots := 0, locals := 12 } : Room).cells ({ frames := 1, cells := 0, slots := 0, locals := 12 } : Room).slots) := by
  refine MetFree.of_bodySF (plainFor_of_name pn_0) hisR ?_
  intro p e s m args below meth c s₁ Bd hml0 hP hK
  obtain ⟨rfl, hZ, hh⟩ := hP
  have hx := Bd.exec
  have hby := Bd.bytes
  have hml : c.maxLocals = 5 := hml0
  have hown : s.vm.findClass "com/example/lamassu/lamassu/model/Redirection" = some m.cls := findClass_of_methodNamed Bd.named
  have hnm := (name_of_methodNamed Bd.named Bd.method).1
  have X0 : Stand p l e ({ frames := 1, cells := 0, slots := 0, locals := 12 } : Room) s m #[(.ref a1), (.int p2), (.ref a3), .null, .null] below meth c s₁ [] 0 0 := Stand.of_body Bd
  have e0 : s₁.heap = h0 := by rw [← hh, Bd.state]; rfl
  have N0 := Fr.nil n0
  show oG p e below s (Q_init Z a1 p2 a3 u_number u_operator u_word u_written w h0 n0) ({ frames := 1, cells := 0, slots := 0, locals := 12 } : Room).cells ({ frames := 1, cells := 0, slots := 0, locals := 12 } : Room).slots _
  refine oS (fun t k => castTop (ef_1_rirnn m a1 p2 a3) k) ?_
  show oG _ _ _ _ _ _ _ (s₁.setTop (mkF m 0 #[.val (.ref a1), .val (.int p2), .val (.ref a3), .val .null, .val .null] []))
  refine oS (fun t k => XS.aloadN X0.here hx rfl (hb hby d1_0) rfl rfl k) ?_
  obtain ⟨T1, X1, e1, st1⟩ := initO X0 hx hZ hown (oW hw 32 rfl) (oW hw 33 rfl) (oW hw 34 rfl) e0 (g := (mkF m 1 #[.val (.ref a1), .val (.int p2), .val (.ref a3), .val .null, .val .null] [(.ref a1)])) rfl (by rw [hml]; rfl) rfl (hb hby d1_1) (by decide) (W := 0) (by show 2 * 0 + _ ≤ _; exact Nat.le_of_eq rfl) (by decide)
  refine oS (fun t k => st1 t k) ?_
  refine oS (fun t k => XS.aloadN X1.here hx rfl (hb hby d1_4) rfl rfl k) ?_
  show oG _ _ _ _ _ _ _ (T1.setTop (mkF m 5 #[.val (.ref a1), .val (.int p2), .val (.ref a3), .val .null, .val .null] [(.ref a1)]))
  refine oS (fun t k => XS.iloadN X1.here hx rfl (hb hby d1_5) rfl k) ?_
  obtain ⟨T2, h2, X2, e2, W2, st2⟩ := putF X1 hx hZ hown (host := "") (Or.inl (oW hw 35 rfl)) Via.refl e1 F_number_a1 E_a1 (Or.inr ⟨(oW hw 36 rfl), rfl, hnm⟩) (oW hw 27 rfl) (ty := .int) (by decide) rfl rfl (g := (mkF m 6 #[.val (.ref a1), .val (.int p2), .val (.ref a3), .val .null, .val .null] [(.int p2), (.ref a1)])) rfl rfl (hb hby d1_6)
  have O2 := O0.wr W2 g_a1
  have N2 := Fr.snoc X2 N0 g_a1
  have Kp2 : Keep h0 h2 [a1] := (Keep.refl h0 [a1]).wr W2 (Or.inl (List.mem_of_getElem? (i := 0) rfl))
  have Fw2 := F_number_a1.same W2
  refine oS (fun t k => st2 t k) ?_
  try clear st2 X1 e1
  try clear T1
  refine oS (fun t k => XS.aloadN X2.here hx rfl (hb hby d1_9) rfl rfl k) ?_
  show oG _ _ _ _ _ _ _ (T2.setTop (mkF m 10 #[.val (.ref a1), .val (.int p2), .val (.ref a3), .val .null, .val .null] [(.ref a1)]))
  refine oS (fun t k => XS.aloadN X2.here hx rfl (hb hby d1_10) rfl rfl k) ?_
  obtain ⟨T3, h3, X3, e3, W3, st3⟩ := putF X2 hx hZ hown (host := "") (Or.inl (oW hw 37 rfl)) Via.refl e2 (F_operator_a1.other W2 (Or.inr (slot_ne (Or.inr (oW hw 38 rfl)) (Or.inr (oW hw 36 rfl)) (by decide) (t := (.object "com/example/lamassu/lamassu/model/Redirection$Operator")) (t' := .int) (by decide) (by decide)))) (E_a1.wr W2) (Or.inr ⟨(oW hw 38 rfl), rfl, hnm⟩) (oW hw 27 rfl) (ty := (.object "com/example/lamassu/lamassu/model/Redirection$Operator")) (by decide) rfl rfl (g := (mkF m 11 #[.val (.ref a1), .val (.int p2), .val (.ref a3), .val .null, .val .null] [(.ref a3), (.ref a1)])) rfl rfl (hb hby d1_11)
  have O3 := O2.wr W3 g_a1
  have N3 := Fr.snoc X3 N2 g_a1
  have Kp3 : Keep h0 h3 [a1] := Kp2.wr W3 (Or.inl (List.mem_of_getElem? (i := 0) rfl))
  have Fw3 := (F_operator_a1.other W2 (Or.inr (slot_ne (Or.inr (oW hw 38 rfl)) (Or.inr (oW hw 36 rfl)) (by decide) (t := (.object "com/example/lamassu/lamassu/model/Redirection$Operator")) (t' := .int) (by decide) (by decide)))).same W3
  refine oS (fun t k => st3 t k) ?_
  try clear st3 X2 e2
  try clear T2
  refine oS (fun t k => XS.aloadN X3.here hx rfl (hb hby d1_14) rfl rfl k) ?_
  show oG _ _ _ _ _ _ _ (T3.setTop (mkF m 15 #[.val (.ref a1), .val (.int p2), .val (.ref a3), .val .null, .val .null] [(.ref a1)]))
  refine oS (fun t k => XS.aloadN X3.here hx rfl (hb hby d1_15) rfl rfl k) ?_
  obtain ⟨T4, h4, X4, e4, W4, st4⟩ := putF X3 hx hZ hown (host := "") (Or.inl (oW hw 39 rfl)) Via.refl e3 ((F_word_a1.other W2 (Or.inr (slot_ne (Or.inr (oW hw 40 rfl)) (Or.inr (oW hw 36 rfl)) (by decide) (t := (.object "com/example/lamassu/lamassu/model/Word")) (t' := .int) (by decide) (by decide)))).other W3 (Or.inr (slot_ne (Or.inr (oW hw 40 rfl)) (Or.inr (oW hw 38 rfl)) (by decide) (t := (.object "com/example/lamassu/lamassu/model/Word")) (t' := (.object "com/example/lamassu/lamassu/model/Redirection$Operator")) (by decide) (by decide)))) ((E_a1.wr W2).wr W3) (Or.inr ⟨(oW hw 40 rfl), rfl, hnm⟩) (oW hw 27 rfl) (ty := (.object "com/example/lamassu/lamassu/model/Word")) (by decide) rfl rfl (g := (mkF m 16 #[.val (.ref a1), .val (.int p2), .val (.ref a3), .val .null, .val .null] [.null, (.ref a1)])) rfl rfl (hb hby d1_16)
  have O4 := O3.wr W4 g_a1
  have N4 := Fr.snoc X4 N3 g_a1
  have Kp4 : Keep h0 h4 [a1] := Kp3.wr W4 (Or.inl (List.mem_of_getElem? (i := 0) rfl))
  have Fw4 := ((F_word_a1.other W2 (Or.inr (slot_ne (Or.inr (oW hw 40 rfl)) (Or.inr (oW hw 36 rfl)) (by decide) (t := (.object "com/example/lamassu/lamassu/model/Word")) (t' := .int) (by decide) (by decide)))).other W3 (Or.inr (slot_ne (Or.inr (oW hw 40 rfl)) (Or.inr (oW hw 38 rfl)) (by decide) (t := (.object "com/example/lamassu/lamassu/model/Word")) (t' := (.object "com/example/lamassu/lamassu/model/Redirection$Operator")) (by decide) (by decide)))).same W4
  refine oS (fun t k => st4 t k) ?_
  try clear st4 X3 e3
  try clear T3
  refine oS (fun t k => XS.aloadN X4.here hx rfl (hb hby d1_19) rfl rfl k) ?_
  show oG _ _ _ _ _ _ _ (T4.setTop (mkF m 20 #[.val (.ref a1), .val (.int p2), .val (.ref a3), .val .null, .val .null] [(.ref a1)]))
  refine oS (fun t k => XS.aload X4.here hx rfl (hb hby d1_20) rfl rfl k) ?_
  obtain ⟨T5, h5, X5, e5, W5, st5⟩ := putF X4 hx hZ hown (host := "") (Or.inl (oW hw 41 rfl)) Via.refl e4 (((F_written_a1.other W2 (Or.inr (slot_ne (Or.inr (oW hw 42 rfl)) (Or.inr (oW hw 36 rfl)) (by decide) (t := (.object "java/lang/String")) (t' := .int) (by decide) (by decide)))).other W3 (Or.inr (slot_ne (Or.inr (oW hw 42 rfl)) (Or.inr (oW hw 38 rfl)) (by decide) (t := (.object "java/lang/String")) (t' := (.object "com/example/lamassu/lamassu/model/Redirection$Operator")) (by decide) (by decide)))).other W4 (Or.inr (slot_ne (Or.inr (oW hw 42 rfl)) (Or.inr (oW hw 40 rfl)) (by decide) (t := (.object "java/lang/String")) (t' := (.object "com/example/lamassu/lamassu/model/Word")) (by decide) (by decide)))) (((E_a1.wr W2).wr W3).wr W4) (Or.inr ⟨(oW hw 42 rfl), rfl, hnm⟩) (oW hw 27 rfl) (ty := (.object "java/lang/String")) (by decide) rfl rfl (g := (mkF m 22 #[.val (.ref a1), .val (.int p2), .val (.ref a3), .val .null, .val .null] [.null, (.ref a1)])) rfl rfl (hb hby d1_22)
  have O5 := O4.wr W5 g_a1
  have N5 := Fr.snoc X5 N4 g_a1
  have Kp5 : Keep h0 h5 [a1] := Kp4.wr W5 (Or.inl (List.mem_of_getElem? (i := 0) rfl))
  have Fw5 := (((F_written_a1.other W2 (Or.inr (slot_ne (Or.inr (oW hw 42 rfl)) (Or.inr (oW hw 36 rfl)) (by decide) (t := (.object "java/lang/String")) (t' := .int) (by decide) (by decide)))).other W3 (Or.inr (slot_ne (Or.inr (oW hw 42 rfl)) (Or.inr (oW hw 38 rfl)) (by decide) (t := (.object "java/lang/String")) (t' := (.object "com/example/lamassu/lamassu/model/Redirection$Operator")) (by decide) (by decide)))).other W4 (Or.inr (slot_ne (Or.inr (oW hw 42 rfl)) (Or.inr (oW hw 40 rfl)) (by decide) (t := (.object "java/lang/String")) (t' := (.object "com/example/lamassu/lamassu/model/Word")) (by decide) (by decide)))).same W5
  refine oS (fun t k => st5 t k) ?_
  try clear st5 X4 e4
  try clear T4
  exact own_ret (v := none) X5 (fun _ => rfl) Bd.notSynchronized (fun fs hr => X5.returnOut hx Bd.returns (hb hby d1_25) hr) (by rw [e5]; exact ⟨rfl, N5, Kp5, ((((E_a1.wr W2).wr W3).wr W4).wr W5), (((Fw2.other W3 (Or.inr (slot_ne (Or.inr (oW hw 36 rfl)) (Or.inr (oW hw 38 rfl)) (by decide) (t := .int) (t' := (.object "com/example/lamassu/lamassu/model/Redirection$Operator")) (by decide) (by decide)))).other W4 (Or.inr (slot_ne (Or.inr (oW hw 36 rfl)) (Or.inr (oW hw 40 rfl)) (by decide) (t := .int) (t' := (.object "com/example/lamassu/lamassu/model/Word")) (by decide) (by decide)))).other W5 (Or.inr (slot_ne (Or.inr (oW hw 36 rfl)) (Or.inr (oW hw 42 rfl)) (by decide) (t := .int) (t' := (.object "java/lang/String")) (by decide) (by decide)))), ((Fw3.other W4 (Or.inr (slot_ne (Or.inr (oW hw 38 rfl)) (Or.inr (oW hw 40 rfl)) (by decide) (t := (.object "com/example/lamassu/lamassu/model/Redirection$Operator")) (t' := (.object "com/example/lamassu/lamassu/model/Word")) (by decide) (by decide)))).other W5 (Or.inr (slot_ne (Or.inr (oW hw 38 rfl)) (Or.inr (oW hw 42 rfl)) (by decide) (t := (.object "com/example/lamassu/lamassu/model/Redirection$Operator")) (t' := (.object "java/lang/String")) (by decide) (by decide)))), (Fw4.other W5 (Or.inr (slot_ne (Or.inr (oW hw 40 rfl)) (Or.inr (oW hw 42 rfl)) (by decide) (t := (.object "com/example/lamassu/lamassu/model/Word")) (t' := (.object "java/lang/String")) (by decide) (by decide)))), Fw5⟩) (by decide) (by decide)
theorem d4_0 : decode prog_141_method_5_code 0 = .ok (.aload_n 0, 1) := by decide +kernel
theorem d4_1 : decode prog_141_method_5_code 1 = .ok (.getfield 57, 3) := by decide +kernel
theorem d4_4 : decode prog_141_method_5_code 4 = .ok (.ireturn, 1) := by decide +kernel
abbrev mY1 : MethodName := (⟨"com/example/lamassu/lamassu/model/Redirection$Operator", "defaultDescriptor", "()I"⟩ : MethodName)
theorem ef_4_r (m : MethodId) (x0 : Addr) : entryFrame m #[(.ref x0)] 1 = mkF m 0 #[.val (.ref x0)] [] := by first | (simp [entryFrame, mkF, argsToLocals, Value.category]; done) | rfl
theorem pn_1 : plainName "com/example/lamassu/lamassu/model/Redirection$Operator" = true := by first | (simp [plainName, overriddenIn]; done) | decide +kernel
def Q_dd_INPUT (Z : State)  (w : Nat → Addr) (h0 : Heap) (n0 : Nat) (v : Option Value) (h : Heap) (L : List Loc) : Prop := v = some (.int 0) ∧ Fr n0 L ∧ h = h0
set_option maxRecDepth 65536 in
set_option maxHeartbeats 40000000 in
theorem rm_dd_INPUT (l : Launch) (Z : State) (a0 : Array Value) (hw : ∀ d ∈ tables_1, d.before a0 Z = true) (ws : List Jvm.Cond)  (w : Nat → Addr) (h0 : Heap) (n0 : Nat) (O0 : Old Z n0 h0) (W : own_World Z w) :
    MetFree l mY1 (head1 (Jvm.Cond.code mY1 prog_141_method_5_code 1 (some .int) :: ws) ({ frames := 0, cells := 0, slots := 0, locals := 0 } : Room)) (fun a U => a = #[(.ref (w 0))] ∧ Z.Warmed39 U.vm ∧ U.heap = h0) (fun _ _ _ _ _ => True) (fun _ U o U' => ∃ v L, o = .returned v ∧ Q_dd_INPUT Z  w h0 n0 v U'.heap L ∧ FrameEnd U o U' L ({ frames := 0, cells := 0, slots := 0, locals := 0 } : Room).cells ({ frames := 0, cells := 0, slots := 0, locals := 0 } : Room).slots) := by
  refine MetFree.of_bodySF (plainFor_of_name pn_1) hisR ?_
  intro p e s m args below meth c s₁ Bd hml0 hP hK
  obtain ⟨rfl, hZ, hh⟩ := hP
  have hx := Bd.exec
  have hby := Bd.bytes
  have hml : c.maxLocals = 1 := hml0
  have hown : s.vm.findClass "com/example/lamassu/lamassu/model/Redirection$Operator" = some m.cls := findClass_of_methodNamed Bd.named
  have hnm := (name_of_methodNamed Bd.named Bd.method).1
  have X0 : Stand p l e ({ frames := 0, cells := 0, slots := 0, locals := 0 } : Room) s m #[(.ref (w 0))] below meth c s₁ [] 0 0 := Stand.of_body Bd
  have e0 : s₁.heap = h0 := by rw [← hh, Bd.state]; rfl
  have N0 := Fr.nil n0
  show oG p e below s (Q_dd_INPUT Z  w h0 n0) ({ frames := 0, cells := 0, slots := 0, locals := 0 } : Room).cells ({ frames := 0, cells := 0, slots := 0, locals := 0 } : Room).slots _
  refine oS (fun t k => castTop (ef_4_r m (w 0)) k) ?_
  show oG _ _ _ _ _ _ _ (s₁.setTop (mkF m 0 #[.val (.ref (w 0))] []))
  refine oS (fun t k => XS.aloadN X0.here hx rfl (hb hby d4_0) rfl rfl k) ?_
  obtain ⟨T1, X1, e1, st1⟩ := getF X0 hx hZ hown (host := "") (Or.inl (oW hw 53 rfl)) Via.refl e0 ((wF0_defaultDescriptor W).ext O0.2) (g := (mkF m 1 #[.val (.ref (w 0))] [(.ref (w 0))])) rfl rfl (hb hby d4_1)
  refine oS (fun t k => st1 t k) ?_
  try clear st1
  exact own_ret (v := some (.int 0)) X1 (fun h => by rw [Bd.returns] at h; cases h) Bd.notSynchronized (fun fs hr => retOut X1 hx (t := .int) Bd.returns rfl (Or.inl ⟨rfl, Or.inl rfl, _, rfl⟩) (hb hby d4_4) hr) (by rw [e1]; exact ⟨rfl, N0, rfl⟩) (by decide) (by decide)
def Q_dd_OUTPUT (Z : State)  (w : Nat → Addr) (h0 : Heap) (n0 : Nat) (v : Option Value) (h : Heap) (L : List Loc) : Prop := v = some (.int 1) ∧ Fr n0 L ∧ h = h0
set_option maxRecDepth 65536 in
set_option maxHeartbeats 40000000 in
theorem rm_dd_OUTPUT (l : Launch) (Z : State) (a0 : Array Value) (hw : ∀ d ∈ tables_1, d.before a0 Z = true) (ws : List Jvm.Cond)  (w : Nat → Addr) (h0 : Heap) (n0 : Nat) (O0 : Old Z n0 h0) (W : own_World Z w) :
    MetFree l mY1 (head1 (Jvm.Cond.code mY1 prog_141_method_5_code 1 (some .int) :: ws) ({ frames := 0, cells := 0, slots := 0, locals := 0 } : Room)) (fun a U => a = #[(.ref (w 1))] ∧ Z.Warmed39 U.vm ∧ U.heap = h0) (fun _ _ _ _ _ => True) (fun _ U o U' => ∃ v L, o = .returned v ∧ Q_dd_OUTPUT Z  w h0 n0 v U'.heap L ∧ FrameEnd U o U' L ({ frames := 0, cells := 0, slots := 0, locals := 0 } : Room).cells ({ frames := 0, cells := 0, slots := 0, locals := 0 } : Room).slots) := by
  refine MetFree.of_bodySF (plainFor_of_name pn_1) hisR ?_
  intro p e s m args below meth c s₁ Bd hml0 hP hK
  obtain ⟨rfl, hZ, hh⟩ := hP
  have hx := Bd.exec
  have hby := Bd.bytes
  have hml : c.maxLocals = 1 := hml0
  have hown : s.vm.findClass "com/example/lamassu/lamassu/model/Redirection$Operator" = some m.cls := findClass_of_methodNamed Bd.named
  have hnm := (name_of_methodNamed Bd.named Bd.method).1
  have X0 : Stand p l e ({ frames := 0, cells := 0, slots := 0, locals := 0 } : Room) s m #[(.ref (w 1))] below meth c s₁ [] 0 0 := Stand.of_body Bd
  have e0 : s₁.heap = h0 := by rw [← hh, Bd.state]; rfl
  have N0 := Fr.nil n0
  show oG p e below s (Q_dd_OUTPUT Z  w h0 n0) ({ frames := 0, cells := 0, slots := 0, locals := 0 } : Room).cells ({ frames := 0, cells := 0, slots := 0, locals := 0 } : Room).slots _
  refine oS (fun t k => castTop (ef_4_r m (w 1)) k) ?_
  show oG _ _ _ _ _ _ _ (s₁.setTop (mkF m 0 #[.val (.ref (w 1))] []))
  refine oS (fun t k => XS.aloadN X0.here hx rfl (hb hby d4_0) rfl rfl k) ?_
  obtain ⟨T1, X1, e1, st1⟩ := getF X0 hx hZ hown (host := "") (Or.inl (oW hw 53 rfl)) Via.refl e0 ((wF1_defaultDescriptor W).ext O0.2) (g := (mkF m 1 #[.val (.ref (w 1))] [(.ref (w 1))])) rfl rfl (hb hby d4_1)
  refine oS (fun t k => st1 t k) ?_
  try clear st1
  exact own_ret (v := some (.int 1)) X1 (fun h => by rw [Bd.returns] at h; cases h) Bd.notSynchronized (fun fs hr => retOut X1 hx (t := .int) Bd.returns rfl (Or.inl ⟨rfl, Or.inl rfl, _, rfl⟩) (hb hby d4_4) hr) (by rw [e1]; exact ⟨rfl, N0, rfl⟩) (by decide) (by decide)
def Q_dd_CLOBBER (Z : State)  (w : Nat → Addr) (h0 : Heap) (n0 : Nat) (v : Option Value) (h : Heap) (L : List Loc) : Prop := v = some (.int 1) ∧ Fr n0 L ∧ h = h0
set_option maxRecDepth 65536 in
set_option maxHeartbeats 40000000 in
theorem rm_dd_CLOBBER (l : Launch) (Z : State) (a0 : Array Value) (hw : ∀ d ∈ tables_1, d.before a0 Z = true) (ws : List Jvm.Cond)  (w : Nat → Addr) (h0 : Heap) (n0 : Nat) (O0 : Old Z n0 h0) (W : own_World Z w) :
    MetFree l mY1 (head1 (Jvm.Cond.code mY1 prog_141_method_5_code 1 (some .int) :: ws) ({ frames := 0, cells := 0, slots := 0, locals := 0 } : Room)) (fun a U => a = #[(.ref (w 2))] ∧ Z.Warmed39 U.vm ∧ U.heap = h0) (fun _ _ _ _ _ => True) (fun _ U o U' => ∃ v L, o = .returned v ∧ Q_dd_CLOBBER Z  w h0 n0 v U'.heap L ∧ FrameEnd U o U' L ({ frames := 0, cells := 0, slots := 0, locals := 0 } : Room).cells ({ frames := 0, cells := 0, slots := 0, locals := 0 } : Room).slots) := by
  refine MetFree.of_bodySF (plainFor_of_name pn_1) hisR ?_
  intro p e s m args below meth c s₁ Bd hml0 hP hK
  obtain ⟨rfl, hZ, hh⟩ := hP
  have hx := Bd.exec
  have hby := Bd.bytes
  have hml : c.maxLocals = 1 := hml0
  have hown : s.vm.findClass "com/example/lamassu/lamassu/model/Redirection$Operator" = some m.cls := findClass_of_methodNamed Bd.named
  have hnm := (name_of_methodNamed Bd.named Bd.method).1
  have X0 : Stand p l e ({ frames := 0, cells := 0, slots := 0, locals := 0 } : Room) s m #[(.ref (w 2))] below meth c s₁ [] 0 0 := Stand.of_body Bd
  have e0 : s₁.heap = h0 := by rw [← hh, Bd.state]; rfl
  have N0 := Fr.nil n0
  show oG p e below s (Q_dd_CLOBBER Z  w h0 n0) ({ frames := 0, cells := 0, slots := 0, locals := 0 } : Room).cells ({ frames := 0, cells := 0, slots := 0, locals := 0 } : Room).slots _
  refine oS (fun t k => castTop (ef_4_r m (w 2)) k) ?_
  show oG _ _ _ _ _ _ _ (s₁.setTop (mkF m 0 #[.val (.ref (w 2))] []))
  refine oS (fun t k => XS.aloadN X0.here hx rfl (hb hby d4_0) rfl rfl k) ?_
  obtain ⟨T1, X1, e1, st1⟩ := getF X0 hx hZ hown (host := "") (Or.inl (oW hw 53 rfl)) Via.refl e0 ((wF2_defaultDescriptor W).ext O0.2) (g := (mkF m 1 #[.val (.ref (w 2))] [(.ref (w 2))])) rfl rfl (hb hby d4_1)
  refine oS (fun t k => st1 t k) ?_
  try clear st1
  exact own_ret (v := some (.int 1)) X1 (fun h => by rw [Bd.returns] at h; cases h) Bd.notSynchronized (fun fs hr => retOut X1 hx (t := .int) Bd.returns rfl (Or.inl ⟨rfl, Or.inl rfl, _, rfl⟩) (hb hby d4_4) hr) (by rw [e1]; exact ⟨rfl, N0, rfl⟩) (by decide) (by decide)
def Q_dd_APPEND (Z : State)  (w : Nat → Addr) (h0 : Heap) (n0 : Nat) (v : Option Value) (h : Heap) (L : List Loc) : Prop := v = some (.int 1) ∧ Fr n0 L ∧ h = h0
set_option maxRecDepth 65536 in
set_option maxHeartbeats 40000000 in
theorem rm_dd_APPEND (l : Launch) (Z : State) (a0 : Array Value) (hw : ∀ d ∈ tables_1, d.before a0 Z = true) (ws : List Jvm.Cond)  (w : Nat → Addr) (h0 : Heap) (n0 : Nat) (O0 : Old Z n0 h0) (W : own_World Z w) :
    MetFree l mY1 (head1 (Jvm.Cond.code mY1 prog_141_method_5_code 1 (some .int) :: ws) ({ frames := 0, cells := 0, slots := 0, locals := 0 } : Room)) (fun a U => a = #[(.ref (w 3))] ∧ Z.Warmed39 U.vm ∧ U.heap = h0) (fun _ _ _ _ _ => True) (fun _ U o U' => ∃ v L, o = .returned v ∧ Q_dd_APPEND Z  w h0 n0 v U'.heap L ∧ FrameEnd U o U' L ({ frames := 0, cells := 0, slots := 0, locals := 0 } : Room).cells ({ frames := 0, cells := 0, slots := 0, locals := 0 } : Room).slots) := by
  refine MetFree.of_bodySF (plainFor_of_name pn_1) hisR ?_
  intro p e s m args below meth c s₁ Bd hml0 hP hK
  obtain ⟨rfl, hZ, hh⟩ := hP
  have hx := Bd.exec
  have hby := Bd.bytes
  have hml : c.maxLocals = 1 := hml0
  have hown : s.vm.findClass "com/example/lamassu/lamassu/model/Redirection$Operator" = some m.cls := findClass_of_methodNamed Bd.named
  have hnm := (name_of_methodNamed Bd.named Bd.method).1
  have X0 : Stand p l e ({ frames := 0, cells := 0, slots := 0, locals := 0 } : Room) s m #[(.ref (w 3))] below meth c s₁ [] 0 0 := Stand.of_body Bd
  have e0 : s₁.heap = h0 := by rw [← hh, Bd.state]; rfl
  have N0 := Fr.nil n0
  show oG p e below s (Q_dd_APPEND Z  w h0 n0) ({ frames := 0, cells := 0, slots := 0, locals := 0 } : Room).cells ({ frames := 0, cells := 0, slots := 0, locals := 0 } : Room).slots _
  refine oS (fun t k => castTop (ef_4_r m (w 3)) k) ?_
  show oG _ _ _ _ _ _ _ (s₁.setTop (mkF m 0 #[.val (.ref (w 3))] []))
  refine oS (fun t k => XS.aloadN X0.here hx rfl (hb hby d4_0) rfl rfl k) ?_
  obtain ⟨T1, X1, e1, st1⟩ := getF X0 hx hZ hown (host := "") (Or.inl (oW hw 53 rfl)) Via.refl e0 ((wF3_defaultDescriptor W).ext O0.2) (g := (mkF m 1 #[.val (.ref (w 3))] [(.ref (w 3))])) rfl rfl (hb hby d4_1)
  refine oS (fun t k => st1 t k) ?_
  try clear st1
  exact own_ret (v := some (.int 1)) X1 (fun h => by rw [Bd.returns] at h; cases h) Bd.notSynchronized (fun fs hr => retOut X1 hx (t := .int) Bd.returns rfl (Or.inl ⟨rfl, Or.inl rfl, _, rfl⟩) (hb hby d4_4) hr) (by rw [e1]; exact ⟨rfl, N0, rfl⟩) (by decide) (by decide)
def Q_dd_DUPLICATE_INPUT (Z : State)  (w : Nat → Addr) (h0 : Heap) (n0 : Nat) (v : Option Value) (h : Heap) (L : List Loc) : Prop := v = some (.int 0) ∧ Fr n0 L ∧ h = h0
set_option maxRecDepth 65536 in
set_option maxHeartbeats 40000000 in
theorem rm_dd_DUPLICATE_INPUT (l : Launch) (Z : State) (a0 : Array Value) (hw : ∀ d ∈ tables_1, d.before a0 Z = true) (ws : List Jvm.Cond)  (w : Nat → Addr) (h0 : Heap) (n0 : Nat) (O0 : Old Z n0 h0) (W : own_World Z w) :
    MetFree l mY1 (head1 (Jvm.Cond.code mY1 prog_141_method_5_code 1 (some .int) :: ws) ({ frames := 0, cells := 0, slots := 0, locals := 0 } : Room)) (fun a U => a = #[(.ref (w 4))] ∧ Z.Warmed39 U.vm ∧ U.heap = h0) (fun _ _ _ _ _ => True) (fun _ U o U' => ∃ v L, o = .returned v ∧ Q_dd_DUPLICATE_INPUT Z  w h0 n0 v U'.heap L ∧ FrameEnd U o U' L ({ frames := 0, cells := 0, slots := 0, locals := 0 } : Room).cells ({ frames := 0, cells := 0, slots := 0, locals := 0 } : Room).slots) := by
  refine MetFree.of_bodySF (plainFor_of_name pn_1) hisR ?_
  intro p e s m args below meth c s₁ Bd hml0 hP hK
  obtain ⟨rfl, hZ, hh⟩ := hP
  have hx := Bd.exec
  have hby := Bd.bytes
  have hml : c.maxLocals = 1 := hml0
  have hown : s.vm.findClass "com/example/lamassu/lamassu/model/Redirection$Operator" = some m.cls := findClass_of_methodNamed Bd.named
  have hnm := (name_of_methodNamed Bd.named Bd.method).1
  have X0 : Stand p l e ({ frames := 0, cells := 0, slots := 0, locals := 0 } : Room) s m #[(.ref (w 4))] below meth c s₁ [] 0 0 := Stand.of_body Bd
  have e0 : s₁.heap = h0 := by rw [← hh, Bd.state]; rfl
  have N0 := Fr.nil n0
  show oG p e below s (Q_dd_DUPLICATE_INPUT Z  w h0 n0) ({ frames := 0, cells := 0, slots := 0, locals := 0 } : Room).cells ({ frames := 0, cells := 0, slots := 0, locals := 0 } : Room).slots _
  refine oS (fun t k => castTop (ef_4_r m (w 4)) k) ?_
  show oG _ _ _ _ _ _ _ (s₁.setTop (mkF m 0 #[.val (.ref (w 4))] []))
  refine oS (fun t k => XS.aloadN X0.here hx rfl (hb hby d4_0) rfl rfl k) ?_
  obtain ⟨T1, X1, e1, st1⟩ := getF X0 hx hZ hown (host := "") (Or.inl (oW hw 53 rfl)) Via.refl e0 ((wF4_defaultDescriptor W).ext O0.2) (g := (mkF m 1 #[.val (.ref (w 4))] [(.ref (w 4))])) rfl rfl (hb hby d4_1)
  refine oS (fun t k => st1 t k) ?_
  try clear st1
  exact own_ret (v := some (.int 0)) X1 (fun h => by rw [Bd.returns] at h; cases h) Bd.notSynchronized (fun fs hr => retOut X1 hx (t := .int) Bd.returns rfl (Or.inl ⟨rfl, Or.inl rfl, _, rfl⟩) (hb hby d4_4) hr) (by rw [e1]; exact ⟨rfl, N0, rfl⟩) (by decide) (by decide)
def Q_dd_DUPLICATE_OUTPUT (Z : State)  (w : Nat → Addr) (h0 : Heap) (n0 : Nat) (v : Option Value) (h : Heap) (L : List Loc) : Prop := v = some (.int 1) ∧ Fr n0 L ∧ h = h0
set_option maxRecDepth 65536 in
set_option maxHeartbeats 40000000 in
theorem rm_dd_DUPLICATE_OUTPUT (l : Launch) (Z : State) (a0 : Array Value) (hw : ∀ d ∈ tables_1, d.before a0 Z = true) (ws : List Jvm.Cond)  (w : Nat → Addr) (h0 : Heap) (n0 : Nat) (O0 : Old Z n0 h0) (W : own_World Z w) :
    MetFree l mY1 (head1 (Jvm.Cond.code mY1 prog_141_method_5_code 1 (some .int) :: ws) ({ frames := 0, cells := 0, slots := 0, locals := 0 } : Room)) (fun a U => a = #[(.ref (w 5))] ∧ Z.Warmed39 U.vm ∧ U.heap = h0) (fun _ _ _ _ _ => True) (fun _ U o U' => ∃ v L, o = .returned v ∧ Q_dd_DUPLICATE_OUTPUT Z  w h0 n0 v U'.heap L ∧ FrameEnd U o U' L ({ frames := 0, cells := 0, slots := 0, locals := 0 } : Room).cells ({ frames := 0, cells := 0, slots := 0, locals := 0 } : Room).slots) := by
  refine MetFree.of_bodySF (plainFor_of_name pn_1) hisR ?_
  intro p e s m args below meth c s₁ Bd hml0 hP hK
  obtain ⟨rfl, hZ, hh⟩ := hP
  have hx := Bd.exec
  have hby := Bd.bytes
  have hml : c.maxLocals = 1 := hml0
  have hown : s.vm.findClass "com/example/lamassu/lamassu/model/Redirection$Operator" = some m.cls := findClass_of_methodNamed Bd.named
  have hnm := (name_of_methodNamed Bd.named Bd.method).1
  have X0 : Stand p l e ({ frames := 0, cells := 0, slots := 0, locals := 0 } : Room) s m #[(.ref (w 5))] below meth c s₁ [] 0 0 := Stand.of_body Bd
  have e0 : s₁.heap = h0 := by rw [← hh, Bd.state]; rfl
  have N0 := Fr.nil n0
  show oG p e below s (Q_dd_DUPLICATE_OUTPUT Z  w h0 n0) ({ frames := 0, cells := 0, slots := 0, locals := 0 } : Room).cells ({ frames := 0, cells := 0, slots := 0, locals := 0 } : Room).slots _
  refine oS (fun t k => castTop (ef_4_r m (w 5)) k) ?_
  show oG _ _ _ _ _ _ _ (s₁.setTop (mkF m 0 #[.val (.ref (w 5))] []))
  refine oS (fun t k => XS.aloadN X0.here hx rfl (hb hby d4_0) rfl rfl k) ?_
  obtain ⟨T1, X1, e1, st1⟩ := getF X0 hx hZ hown (host := "") (Or.inl (oW hw 53 rfl)) Via.refl e0 ((wF5_defaultDescriptor W).ext O0.2) (g := (mkF m 1 #[.val (.ref (w 5))] [(.ref (w 5))])) rfl rfl (hb hby d4_1)
  refine oS (fun t k => st1 t k) ?_
  try clear st1
  exact own_ret (v := some (.int 1)) X1 (fun h => by rw [Bd.returns] at h; cases h) Bd.notSynchronized (fun fs hr => retOut X1 hx (t := .int) Bd.returns rfl (Or.inl ⟨rfl, Or.inl rfl, _, rfl⟩) (hb hby d4_4) hr) (by rw [e1]; exact ⟨rfl, N0, rfl⟩) (by decide) (by decide)
def Q_dd_OUTPUT_AND_ERROR (Z : State)  (w : Nat → Addr) (h0 : Heap) (n0 : Nat) (v : Option Value) (h : Heap) (L : List Loc) : Prop := v = some (.int 1) ∧ Fr n0 L ∧ h = h0
set_option maxRecDepth 65536 in
set_option maxHeartbeats 40000000 in
theorem rm_dd_OUTPUT_AND_ERROR (l : Launch) (Z : State) (a0 : Array Value) (hw : ∀ d ∈ tables_1, d.before a0 Z = true) (ws : List Jvm.Cond)  (w : Nat → Addr) (h0 : Heap) (n0 : Nat) (O0 : Old Z n0 h0) (W : own_World Z w) :
    MetFree l mY1 (head1 (Jvm.Cond.code mY1 prog_141_method_5_code 1 (some .int) :: ws) ({ frames := 0, cells := 0, slots := 0, locals := 0 } : Room)) (fun a U => a = #[(.ref (w 6))] ∧ Z.Warmed39 U.vm ∧ U.heap = h0) (fun _ _ _ _ _ => True) (fun _ U o U' => ∃ v L, o = .returned v ∧ Q_dd_OUTPUT_AND_ERROR Z  w h0 n0 v U'.heap L ∧ FrameEnd U o U' L ({ frames := 0, cells := 0, slots := 0, locals := 0 } : Room).cells ({ frames := 0, cells := 0, slots := 0, locals := 0 } : Room).slots) := by
  refine MetFree.of_bodySF (plainFor_of_name pn_1) hisR ?_
  intro p e s m args below meth c s₁ Bd hml0 hP hK
  obtain ⟨rfl, hZ, hh⟩ := hP
  have hx := Bd.exec
  have hby := Bd.bytes
  have hml : c.maxLocals = 1 := hml0
  have hown : s.vm.findClass "com/example/lamassu/lamassu/model/Redirection$Operator" = some m.cls := findClass_of_methodNamed Bd.named
  have hnm := (name_of_methodNamed Bd.named Bd.method).1
  have X0 : Stand p l e ({ frames := 0, cells := 0, slots := 0, locals := 0 } : Room) s m #[(.ref (w 6))] below meth c s₁ [] 0 0 := Stand.of_body Bd
  have e0 : s₁.heap = h0 := by rw [← hh, Bd.state]; rfl
  have N0 := Fr.nil n0
  show oG p e below s (Q_dd_OUTPUT_AND_ERROR Z  w h0 n0) ({ frames := 0, cells := 0, slots := 0, locals := 0 } : Room).cells ({ frames := 0, cells := 0, slots := 0, locals := 0 } : Room).slots _
  refine oS (fun t k => castTop (ef_4_r m (w 6)) k) ?_
  show oG _ _ _ _ _ _ _ (s₁.setTop (mkF m 0 #[.val (.ref (w 6))] []))
  refine oS (fun t k => XS.aloadN X0.here hx rfl (hb hby d4_0) rfl rfl k) ?_
  obtain ⟨T1, X1, e1, st1⟩ := getF X0 hx hZ hown (host := "") (Or.inl (oW hw 53 rfl)) Via.refl e0 ((wF6_defaultDescriptor W).ext O0.2) (g := (mkF m 1 #[.val (.ref (w 6))] [(.ref (w 6))])) rfl rfl (hb hby d4_1)
  refine oS (fun t k => st1 t k) ?_
  try clear st1
  exact own_ret (v := some (.int 1)) X1 (fun h => by rw [Bd.returns] at h; cases h) Bd.notSynchronized (fun fs hr => retOut X1 hx (t := .int) Bd.returns rfl (Or.inl ⟨rfl, Or.inl rfl, _, rfl⟩) (hb hby d4_4) hr) (by rw [e1]; exact ⟨rfl, N0, rfl⟩) (by decide) (by decide)
def Q_dd_APPEND_OUTPUT_AND_ERROR (Z : State)  (w : Nat → Addr) (h0 : Heap) (n0 : Nat) (v : Option Value) (h : Heap) (L : List Loc) : Prop := v = some (.int 1) ∧ Fr n0 L ∧ h = h0
set_option maxRecDepth 65536 in
set_option maxHeartbeats 40000000 in
theorem rm_dd_APPEND_OUTPUT_AND_ERROR (l : Launch) (Z : State) (a0 : Array Value) (hw : ∀ d ∈ tables_1, d.before a0 Z = true) (ws : List Jvm.Cond)  (w : Nat → Addr) (h0 : Heap) (n0 : Nat) (O0 : Old Z n0 h0) (W : own_World Z w) :
    MetFree l mY1 (head1 (Jvm.Cond.code mY1 prog_141_method_5_code 1 (some .int) :: ws) ({ frames := 0, cells := 0, slots := 0, locals := 0 } : Room)) (fun a U => a = #[(.ref (w 7))] ∧ Z.Warmed39 U.vm ∧ U.heap = h0) (fun _ _ _ _ _ => True) (fun _ U o U' => ∃ v L, o = .returned v ∧ Q_dd_APPEND_OUTPUT_AND_ERROR Z  w h0 n0 v U'.heap L ∧ FrameEnd U o U' L ({ frames := 0, cells := 0, slots := 0, locals := 0 } : Room).cells ({ frames := 0, cells := 0, slots := 0, locals := 0 } : Room).slots) := by
  refine MetFree.of_bodySF (plainFor_of_name pn_1) hisR ?_
  intro p e s m args below meth c s₁ Bd hml0 hP hK
  obtain ⟨rfl, hZ, hh⟩ := hP
  have hx := Bd.exec
  have hby := Bd.bytes
  have hml : c.maxLocals = 1 := hml0
  have hown : s.vm.findClass "com/example/lamassu/lamassu/model/Redirection$Operator" = some m.cls := findClass_of_methodNamed Bd.named
  have hnm := (name_of_methodNamed Bd.named Bd.method).1
  have X0 : Stand p l e ({ frames := 0, cells := 0, slots := 0, locals := 0 } : Room) s m #[(.ref (w 7))] below meth c s₁ [] 0 0 := Stand.of_body Bd
  have e0 : s₁.heap = h0 := by rw [← hh, Bd.state]; rfl
  have N0 := Fr.nil n0
  show oG p e below s (Q_dd_APPEND_OUTPUT_AND_ERROR Z  w h0 n0) ({ frames := 0, cells := 0, slots := 0, locals := 0 } : Room).cells ({ frames := 0, cells := 0, slots := 0, locals := 0 } : Room).slots _
  refine oS (fun t k => castTop (ef_4_r m (w 7)) k) ?_
  show oG _ _ _ _ _ _ _ (s₁.setTop (mkF m 0 #[.val (.ref (w 7))] []))
  refine oS (fun t k => XS.aloadN X0.here hx rfl (hb hby d4_0) rfl rfl k) ?_
  obtain ⟨T1, X1, e1, st1⟩ := getF X0 hx hZ hown (host := "") (Or.inl (oW hw 53 rfl)) Via.refl e0 ((wF7_defaultDescriptor W).ext O0.2) (g := (mkF m 1 #[.val (.ref (w 7))] [(.ref (w 7))])) rfl rfl (hb hby d4_1)
  refine oS (fun t k => st1 t k) ?_
  try clear st1
  exact own_ret (v := some (.int 1)) X1 (fun h => by rw [Bd.returns] at h; cases h) Bd.notSynchronized (fun fs hr => retOut X1 hx (t := .int) Bd.returns rfl (Or.inl ⟨rfl, Or.inl rfl, _, rfl⟩) (hb hby d4_4) hr) (by rw [e1]; exact ⟨rfl, N0, rfl⟩) (by decide) (by decide)
def Q_dd_HERE_DOCUMENT (Z : State)  (w : Nat → Addr) (h0 : Heap) (n0 : Nat) (v : Option Value) (h : Heap) (L : List Loc) : Prop := v = some (.int 0) ∧ Fr n0 L ∧ h = h0
set_option maxRecDepth 65536 in
set_option maxHeartbeats 40000000 in
theorem rm_dd_HERE_DOCUMENT (l : Launch) (Z : State) (a0 : Array Value) (hw : ∀ d ∈ tables_1, d.before a0 Z = true) (ws : List Jvm.Cond)  (w : Nat → Addr) (h0 : Heap) (n0 : Nat) (O0 : Old Z n0 h0) (W : own_World Z w) :
    MetFree l mY1 (head1 (Jvm.Cond.code mY1 prog_141_method_5_code 1 (some .int) :: ws) ({ frames := 0, cells := 0, slots := 0, locals := 0 } : Room)) (fun a U => a = #[(.ref (w 8))] ∧ Z.Warmed39 U.vm ∧ U.heap = h0) (fun _ _ _ _ _ => True) (fun _ U o U' => ∃ v L, o = .returned v ∧ Q_dd_HERE_DOCUMENT Z  w h0 n0 v U'.heap L ∧ FrameEnd U o U' L ({ frames := 0, cells := 0, slots := 0, locals := 0 } : Room).cells ({ frames := 0, cells := 0, slots := 0, locals := 0 } : Room).slots) := by
  refine MetFree.of_bodySF (plainFor_of_name pn_1) hisR ?_
  intro p e s m args below meth c s₁ Bd hml0 hP hK
  obtain ⟨rfl, hZ, hh⟩ := hP
  have hx := Bd.exec
  have hby := Bd.bytes
  have hml : c.maxLocals = 1 := hml0
  have hown : s.vm.findClass "com/example/lamassu/lamassu/model/Redirection$Operator" = some m.cls := findClass_of_methodNamed Bd.named
  have hnm := (name_of_methodNamed Bd.named Bd.method).1
  have X0 : Stand p l e ({ frames := 0, cells := 0, slots := 0, locals := 0 } : Room) s m #[(.ref (w 8))] below meth c s₁ [] 0 0 := Stand.of_body Bd
  have e0 : s₁.heap = h0 := by rw [← hh, Bd.state]; rfl
  have N0 := Fr.nil n0
  show oG p e below s (Q_dd_HERE_DOCUMENT Z  w h0 n0) ({ frames := 0, cells := 0, slots := 0, locals := 0 } : Room).cells ({ frames := 0, cells := 0, slots := 0, locals := 0 } : Room).slots _
  refine oS (fun t k => castTop (ef_4_r m (w 8)) k) ?_
  show oG _ _ _ _ _ _ _ (s₁.setTop (mkF m 0 #[.val (.ref (w 8))] []))
  refine oS (fun t k => XS.aloadN X0.here hx rfl (hb hby d4_0) rfl rfl k) ?_
  obtain ⟨T1, X1, e1, st1⟩ := getF X0 hx hZ hown (host := "") (Or.inl (oW hw 53 rfl)) Via.refl e0 ((wF8_defaultDescriptor W).ext O0.2) (g := (mkF m 1 #[.val (.ref (w 8))] [(.ref (w 8))])) rfl rfl (hb hby d4_1)
  refine oS (fun t k => st1 t k) ?_
  try clear st1
  exact own_ret (v := some (.int 0)) X1 (fun h => by rw [Bd.returns] at h; cases h) Bd.notSynchronized (fun fs hr => retOut X1 hx (t := .int) Bd.returns rfl (Or.inl ⟨rfl, Or.inl rfl, _, rfl⟩) (hb hby d4_4) hr) (by rw [e1]; exact ⟨rfl, N0, rfl⟩) (by decide) (by decide)
def Q_dd_HERE_STRING (Z : State)  (w : Nat → Addr) (h0 : Heap) (n0 : Nat) (v : Option Value) (h : Heap) (L : List Loc) : Prop := v = some (.int 0) ∧ Fr n0 L ∧ h = h0
set_option maxRecDepth 65536 in
set_option maxHeartbeats 40000000 in
theorem rm_dd_HERE_STRING (l : Launch) (Z : State) (a0 : Array Value) (hw : ∀ d ∈ tables_1, d.before a0 Z = true) (ws : List Jvm.Cond)  (w : Nat → Addr) (h0 : Heap) (n0 : Nat) (O0 : Old Z n0 h0) (W : own_World Z w) :
    MetFree l mY1 (head1 (Jvm.Cond.code mY1 prog_141_method_5_code 1 (some .int) :: ws) ({ frames := 0, cells := 0, slots := 0, locals := 0 } : Room)) (fun a U => a = #[(.ref (w 9))] ∧ Z.Warmed39 U.vm ∧ U.heap = h0) (fun _ _ _ _ _ => True) (fun _ U o U' => ∃ v L, o = .returned v ∧ Q_dd_HERE_STRING Z  w h0 n0 v U'.heap L ∧ FrameEnd U o U' L ({ frames := 0, cells := 0, slots := 0, locals := 0 } : Room).cells ({ frames := 0, cells := 0, slots := 0, locals := 0 } : Room).slots) := by
  refine MetFree.of_bodySF (plainFor_of_name pn_1) hisR ?_
  intro p e s m args below meth c s₁ Bd hml0 hP hK
  obtain ⟨rfl, hZ, hh⟩ := hP
  have hx := Bd.exec
  have hby := Bd.bytes
  have hml : c.maxLocals = 1 := hml0
  have hown : s.vm.findClass "com/example/lamassu/lamassu/model/Redirection$Operator" = some m.cls := findClass_of_methodNamed Bd.named
  have hnm := (name_of_methodNamed Bd.named Bd.method).1
  have X0 : Stand p l e ({ frames := 0, cells := 0, slots := 0, locals := 0 } : Room) s m #[(.ref (w 9))] below meth c s₁ [] 0 0 := Stand.of_body Bd
  have e0 : s₁.heap = h0 := by rw [← hh, Bd.state]; rfl
  have N0 := Fr.nil n0
  show oG p e below s (Q_dd_HERE_STRING Z  w h0 n0) ({ frames := 0, cells := 0, slots := 0, locals := 0 } : Room).cells ({ frames := 0, cells := 0, slots := 0, locals := 0 } : Room).slots _
  refine oS (fun t k => castTop (ef_4_r m (w 9)) k) ?_
  show oG _ _ _ _ _ _ _ (s₁.setTop (mkF m 0 #[.val (.ref (w 9))] []))
  refine oS (fun t k => XS.aloadN X0.here hx rfl (hb hby d4_0) rfl rfl k) ?_
  obtain ⟨T1, X1, e1, st1⟩ := getF X0 hx hZ hown (host := "") (Or.inl (oW hw 53 rfl)) Via.refl e0 ((wF9_defaultDescriptor W).ext O0.2) (g := (mkF m 1 #[.val (.ref (w 9))] [(.ref (w 9))])) rfl rfl (hb hby d4_1)
  refine oS (fun t k => st1 t k) ?_
  try clear st1
  exact own_ret (v := some (.int 0)) X1 (fun h => by rw [Bd.returns] at h; cases h) Bd.notSynchronized (fun fs hr => retOut X1 hx (t := .int) Bd.returns rfl (Or.inl ⟨rfl, Or.inl rfl, _, rfl⟩) (hb hby d4_4) hr) (by rw [e1]; exact ⟨rfl, N0, rfl⟩) (by decide) (by decide)
theorem d3_0 : decode prog_140_method_2_code 0 = .ok (.aload_n 0, 1) := by decide +kernel
theorem d3_1 : decode prog_140_method_2_code 1 = .ok (.getfield 7, 3) := by decide +kernel
theorem d3_4 : decode prog_140_method_2_code 4 = .ok (.ifCond .lt 10, 3) := by decide +kernel
theorem d3_7 : decode prog_140_method_2_code 7 = .ok (.aload_n 0, 1) := by decide +kernel
theorem d3_8 : decode prog_140_method_2_code 8 = .ok (.getfield 7, 3) := by decide +kernel
theorem d3_11 : decode prog_140_method_2_code 11 = .ok (.goto 10, 3) := by decide +kernel
theorem d3_21 : decode prog_140_method_2_code 21 = .ok (.ireturn, 1) := by decide +kernel
abbrev mY2 : MethodName := (⟨"com/example/lamassu/lamassu/model/Redirection", "descriptor", "()I"⟩ : MethodName)
theorem ef_3_r (m : MethodId) (x0 : Addr) : entryFrame m #[(.ref x0)] 1 = mkF m 0 #[.val (.ref x0)] [] := by first | (simp [entryFrame, mkF, argsToLocals, Value.category]; done) | rfl
def Q_desc_n (Z : State) (a1 : Addr) (p2 : Int32) (w : Nat → Addr) (h0 : Heap) (n0 : Nat) (v : Option Value) (h : Heap) (L : List Loc) : Prop := v = some (.int p2) ∧ Fr n0 L ∧ h = h0
set_option maxRecDepth 65536 in
set_option maxHeartbeats 40000000 in
theorem rm_desc_n (l : Launch) (Z : State) (a0 : Array Value) (hw : ∀ d ∈ tables_1, d.before a0 Z = true) (ws : List Jvm.Cond) (a1 : Addr) (p2 : Int32) (w : Nat → Addr) (h0 : Heap) (n0 : Nat) (O0 : Old Z n0 h0) (W : own_World Z w) (F_number : Fld Z h0 a1 "com/example/lamassu/lamassu/model/Redirection" "number" "I" (.int p2)) (hp : ¬ (p2 < (0 : Int32))) :
    MetFree l mY2 (head1 (Jvm.Cond.code mY2 prog_140_method_2_code 1 (some .int) :: ws) ({ frames := 0, cells := 0, slots := 0, locals := 0 } : Room)) (fun a U => a = #[(.ref a1)] ∧ Z.Warmed39 U.vm ∧ U.heap = h0) (fun _ _ _ _ _ => True) (fun _ U o U' => ∃ v L, o = .returned v ∧ Q_desc_n Z a1 p2 w h0 n0 v U'.heap L ∧ FrameEnd U o U' L ({ frames := 0, cells := 0, slots := 0, locals := 0 } : Room).cells ({ frames := 0, cells := 0, slots := 0, locals := 0 } : Room).slots) := by
  refine MetFree.of_bodySF (plainFor_of_name pn_0) hisR ?_
  intro p e s m args below meth c s₁ Bd hml0 hP hK
  obtain ⟨rfl, hZ, hh⟩ := hP
  have hx := Bd.exec
  have hby := Bd.bytes
  have hml : c.maxLocals = 1 := hml0
  have hown : s.vm.findClass "com/example/lamassu/lamassu/model/Redirection" = some m.cls := findClass_of_methodNamed Bd.named
  have hnm := (name_of_methodNamed Bd.named Bd.method).1
  have X0 : Stand p l e ({ frames := 0, cells := 0, slots := 0, locals := 0 } : Room) s m #[(.ref a1)] below meth c s₁ [] 0 0 := Stand.of_body Bd
  have e0 : s₁.heap = h0 := by rw [← hh, Bd.state]; rfl
  have N0 := Fr.nil n0
  show oG p e below s (Q_desc_n Z a1 p2 w h0 n0) ({ frames := 0, cells := 0, slots := 0, locals := 0 } : Room).cells ({ frames := 0, cells := 0, slots := 0, locals := 0 } : Room).slots _
  refine oS (fun t k => castTop (ef_3_r m a1) k) ?_
  show oG _ _ _ _ _ _ _ (s₁.setTop (mkF m 0 #[.val (.ref a1)] []))
  refine oS (fun t k => XS.aloadN X0.here hx rfl (hb hby d3_0) rfl rfl k) ?_
  obtain ⟨T1, X1, e1, st1⟩ := getF X0 hx hZ hown (host := "") (Or.inl (oW hw 35 rfl)) Via.refl e0 F_number (g := (mkF m 1 #[.val (.ref a1)] [(.ref a1)])) rfl rfl (hb hby d3_1)
  refine oS (fun t k => st1 t k) ?_
  try clear st1
  refine oS (fun t k => XS.ifNo X1.here hx rfl (hb hby d3_4) rfl ((if0 _ _).trans (flt hp).1) k) ?_
  show oG _ _ _ _ _ _ _ (T1.setTop (mkF m 7 #[.val (.ref a1)] []))
  refine oS (fun t k => XS.aloadN X1.here hx rfl (hb hby d3_7) rfl rfl k) ?_
  obtain ⟨T2, X2, e2, st2⟩ := getF X1 hx hZ hown (host := "") (Or.inl (oW hw 35 rfl)) Via.refl e1 F_number (g := (mkF m 8 #[.val (.ref a1)] [(.ref a1)])) rfl rfl (hb hby d3_8)
  refine oS (fun t k => st2 t k) ?_
  try clear st2 X1 e1
  try clear T1
  refine oS (fun t k => XS.goto X2.here hx rfl (pc0 := 11) (pc' := 21) rfl (hb hby d3_11) (by decide) (by decide) k) ?_
  show oG _ _ _ _ _ _ _ (T2.setTop (mkF m 21 #[.val (.ref a1)] [(.int p2)]))
  exact own_ret (v := some (.int p2)) X2 (fun h => by rw [Bd.returns] at h; cases h) Bd.notSynchronized (fun fs hr => retOut X2 hx (t := .int) Bd.returns rfl (Or.inl ⟨rfl, Or.inl rfl, _, rfl⟩) (hb hby d3_21) hr) (by rw [e2]; exact ⟨rfl, N0, rfl⟩) (by decide) (by decide)
theorem d3_14 : decode prog_140_method_2_code 14 = .ok (.aload_n 0, 1) := by decide +kernel
theorem d3_15 : decode prog_140_method_2_code 15 = .ok (.getfield 13, 3) := by decide +kernel
theorem d3_18 : decode prog_140_method_2_code 18 = .ok (.invokevirtual 25, 3) := by decide +kernel
theorem pd_0 : parseMethodDescriptor "()I" = some ⟨[], some .int⟩ := by decide +kernel
def Q_desc_INPUT (Z : State) (a1 : Addr) (p2 : Int32) (w : Nat → Addr) (h0 : Heap) (n0 : Nat) (v : Option Value) (h : Heap) (L : List Loc) : Prop := v = some (.int 0) ∧ Fr n0 L ∧ h = h0
set_option maxRecDepth 65536 in
set_option maxHeartbeats 40000000 in
theorem rm_desc_INPUT (l : Launch) (Z : State) (a0 : Array Value) (hw : ∀ d ∈ tables_1, d.before a0 Z = true) (ws : List Jvm.Cond) (a1 : Addr) (p2 : Int32) (w : Nat → Addr) (h0 : Heap) (n0 : Nat) (O0 : Old Z n0 h0) (W : own_World Z w) (F_number : Fld Z h0 a1 "com/example/lamassu/lamassu/model/Redirection" "number" "I" (.int p2)) (F_op : Fld Z h0 a1 "com/example/lamassu/lamassu/model/Redirection" "operator" "Lcom/example/lamassu/lamassu/model/Redirection$Operator;" (.ref (w 0))) (hp : p2 < (0 : Int32)) :
    MetFree l mY2 (head1 (Jvm.Cond.code mY2 prog_140_method_2_code 1 (some .int) :: ws) ({ frames := 1, cells := 0, slots := 0, locals := 12 } : Room)) (fun a U => a = #[(.ref a1)] ∧ Z.Warmed39 U.vm ∧ U.heap = h0) (fun _ _ _ _ _ => True) (fun _ U o U' => ∃ v L, o = .returned v ∧ Q_desc_INPUT Z a1 p2 w h0 n0 v U'.heap L ∧ FrameEnd U o U' L ({ frames := 1, cells := 0, slots := 0, locals := 12 } : Room).cells ({ frames := 1, cells := 0, slots := 0, locals := 12 } : Room).slots) := by
  refine MetFree.of_bodySF (plainFor_of_name pn_0) hisR ?_
  intro p e s m args below meth c s₁ Bd hml0 hP hK
  obtain ⟨rfl, hZ, hh⟩ := hP
  have hx := Bd.exec
  have hby := Bd.bytes
  have hml : c.maxLocals = 1 := hml0
  have hown : s.vm.findClass "com/example/lamassu/lamassu/model/Redirection" = some m.cls := findClass_of_methodNamed Bd.named
  have hnm := (name_of_methodNamed Bd.named Bd.method).1
  have X0 : Stand p l e ({ frames := 1, cells := 0, slots := 0, locals := 12 } : Room) s m #[(.ref a1)] below meth c s₁ [] 0 0 := Stand.of_body Bd
  have e0 : s₁.heap = h0 := by rw [← hh, Bd.state]; rfl
  have N0 := Fr.nil n0
  show oG p e below s (Q_desc_INPUT Z a1 p2 w h0 n0) ({ frames := 1, cells := 0, slots := 0, locals := 12 } : Room).cells ({ frames := 1, cells := 0, slots := 0, locals := 12 } : Room).slots _
  refine oS (fun t k => castTop (ef_3_r m a1) k) ?_
  show oG _ _ _ _ _ _ _ (s₁.setTop (mkF m 0 #[.val (.ref a1)] []))
  refine oS (fun t k => XS.aloadN X0.here hx rfl (hb hby d3_0) rfl rfl k) ?_
  obtain ⟨T1, X1, e1, st1⟩ := getF X0 hx hZ hown (host := "") (Or.inl (oW hw 35 rfl)) Via.refl e0 F_number (g := (mkF m 1 #[.val (.ref a1)] [(.ref a1)])) rfl rfl (hb hby d3_1)
  refine oS (fun t k => st1 t k) ?_
  try clear st1
  refine oS (fun t k => XS.ifYes X1.here hx rfl (pc0 := 4) (pc' := 14) rfl (hb hby d3_4) rfl ((if0 _ _).trans (tlt hp).1) (by decide) (by decide) k) ?_
  show oG _ _ _ _ _ _ _ (T1.setTop (mkF m 14 #[.val (.ref a1)] []))
  refine oS (fun t k => XS.aloadN X1.here hx rfl (hb hby d3_14) rfl rfl k) ?_
  obtain ⟨T2, X2, e2, st2⟩ := getF X1 hx hZ hown (host := "") (Or.inl (oW hw 37 rfl)) Via.refl e1 F_op (g := (mkF m 15 #[.val (.ref a1)] [(.ref a1)])) rfl rfl (hb hby d3_15)
  refine oS (fun t k => st2 t k) ?_
  try clear st2 X1 e1
  try clear T1
  obtain ⟨cq3, kq3, q3a, q3b, q3c⟩ := isOf hZ e2 ((wE0 W).ext O0.2)
  obtain ⟨_, _, ⟨T3, L3, k3, n3⟩, -, X3, ⟨Lc3, hQ3, l3, y3, z3⟩, st3⟩ := X2.virtualBack hx (y := mY1) (z := mY1) hown (mvT hZ (oW hw 48 rfl)) (mvT hZ (oW hw 49 rfl)) (notFace_of_selects (args := #[]) (mvT hZ (oW hw 51 rfl))) (mvT hZ (oW hw 51 rfl)) (mvT hZ (oW hw 50 rfl)) (by decide) (backOf (W := 0) (rm_dd_INPUT l Z a0 hw []  w h0 n0 O0 W ) hZ (oW hw 52 rfl) (oW hw 4 rfl) (by decide) (by decide)) q3a q3c (g := (mkF m 18 #[.val (.ref a1)] [(.ref (w 0))])) rfl (by rw [hml]; rfl) (Steps.refl _) (argsL := []) (rest := []) (lenOf pd_0 rfl) rfl (by show 2 * 0 + _ ≤ _; exact Nat.le_of_eq rfl) (hb hby d3_18) (fun _ _ => ⟨rfl, e2, (by decide : 0 + 0 ≤ _), (by decide : 0 + 0 ≤ _)⟩)
  dsimp only [Pt.U, Pt.locs, Pt.cells, Pt.slots] at X3 l3 y3 z3 st3 hQ3
  rw [l3, y3, z3] at X3
  clear l3 y3 z3
  obtain ⟨rfl, Nq3, e3⟩ := hQ3
  have N3 := Fr.app N0 Nq3
  refine oS (fun t k => st3.trans k) ?_
  show oG _ _ _ _ _ _ _ (T3.setTop (mkF m 21 #[.val (.ref a1)] [(.int 0)]))
  try clear st3 X2 e2
  try clear T2
  exact own_ret (v := some (.int 0)) X3 (fun h => by rw [Bd.returns] at h; cases h) Bd.notSynchronized (fun fs hr => retOut X3 hx (t := .int) Bd.returns rfl (Or.inl ⟨rfl, Or.inl rfl, _, rfl⟩) (hb hby d3_21) hr) (by rw [e3]; exact ⟨rfl, N3, rfl⟩) (by decide) (by decide)
def Q_desc_OUTPUT (Z : State) (a1 : Addr) (p2 : Int32) (w : Nat → Addr) (h0 : Heap) (n0 : Nat) (v : Option Value) (h : Heap) (L : List Loc) : Prop := v = some (.int 1) ∧ Fr n0 L ∧ h = h0
set_option maxRecDepth 65536 in
set_option maxHeartbeats 40000000 in
theorem rm_desc_OUTPUT (l : Launch) (Z : State) (a0 : Array Value) (hw : ∀ d ∈ tables_1, d.before a0 Z = true) (ws : List Jvm.Cond) (a1 : Addr) (p2 : Int32) (w : Nat → Addr) (h0 : Heap) (n0 : Nat) (O0 : Old Z n0 h0) (W : own_World Z w) (F_number : Fld Z h0 a1 "com/example/lamassu/lamassu/model/Redirection" "number" "I" (.int p2)) (F_op : Fld Z h0 a1 "com/example/lamassu/lamassu/model/Redirection" "operator" "Lcom/example/lamassu/lamassu/model/Redirection$Operator;" (.ref (w 1))) (hp : p2 < (0 : Int32)) :
    MetFree l mY2 (head1 (Jvm.Cond.code mY2 prog_140_method_2_code 1 (some .int) :: ws) ({ frames := 1, cells := 0, slots := 0, locals := 12 } : Room)) (fun a U => a = #[(.ref a1)] ∧ Z.Warmed39 U.vm ∧ U.heap = h0) (fun _ _ _ _ _ => True) (fun _ U o U' => ∃ v L, o = .returned v ∧ Q_desc_OUTPUT Z a1 p2 w h0 n0 v U'.heap L ∧ FrameEnd U o U' L ({ frames := 1, cells := 0, slots := 0, locals := 12 } : Room).cells ({ frames := 1, cells := 0, slots := 0, locals := 12 } : Room).slots) := by
  refine MetFree.of_bodySF (plainFor_of_name pn_0) hisR ?_
  intro p e s m args below meth c s₁ Bd hml0 hP hK
  obtain ⟨rfl, hZ, hh⟩ := hP
  have hx := Bd.exec
  have hby := Bd.bytes
  have hml : c.maxLocals = 1 := hml0
  have hown : s.vm.findClass "com/example/lamassu/lamassu/model/Redirection" = some m.cls := findClass_of_methodNamed Bd.named
  have hnm := (name_of_methodNamed Bd.named Bd.method).1
  have X0 : Stand p l e ({ frames := 1, cells := 0, slots := 0, locals := 12 } : Room) s m #[(.ref a1)] below meth c s₁ [] 0 0 := Stand.of_body Bd
  have e0 : s₁.heap = h0 := by rw [← hh, Bd.state]; rfl
  have N0 := Fr.nil n0
  show oG p e below s (Q_desc_OUTPUT Z a1 p2 w h0 n0) ({ frames := 1, cells := 0, slots := 0, locals := 12 } : Room).cells ({ frames := 1, cells := 0, slots := 0, locals := 12 } : Room).slots _
  refine oS (fun t k => castTop (ef_3_r m a1) k) ?_
  show oG _ _ _ _ _ _ _ (s₁.setTop (mkF m 0 #[.val (.ref a1)] []))
  refine oS (fun t k => XS.aloadN X0.here hx rfl (hb hby d3_0) rfl rfl k) ?_
  obtain ⟨T1, X1, e1, st1⟩ := getF X0 hx hZ hown (host := "") (Or.inl (oW hw 35 rfl)) Via.refl e0 F_number (g := (mkF m 1 #[.val (.ref a1)] [(.ref a1)])) rfl rfl (hb hby d3_1)
  refine oS (fun t k => st1 t k) ?_
  try clear st1
  refine oS (fun t k => XS.ifYes X1.here hx rfl (pc0 := 4) (pc' := 14) rfl (hb hby d3_4) rfl ((if0 _ _).trans (tlt hp).1) (by decide) (by decide) k) ?_
  show oG _ _ _ _ _ _ _ (T1.setTop (mkF m 14 #[.val (.ref a1)] []))
  refine oS (fun t k => XS.aloadN X1.here hx rfl (hb hby d3_14) rfl rfl k) ?_
  obtain ⟨T2, X2, e2, st2⟩ := getF X1 hx hZ hown (host := "") (Or.inl (oW hw 37 rfl)) Via.refl e1 F_op (g := (mkF m 15 #[.val (.ref a1)] [(.ref a1)])) rfl rfl (hb hby d3_15)
  refine oS (fun t k => st2 t k) ?_
  try clear st2 X1 e1
  try clear T1
  obtain ⟨cq3, kq3, q3a, q3b, q3c⟩ := isOf hZ e2 ((wE1 W).ext O0.2)
  obtain ⟨_, _, ⟨T3, L3, k3, n3⟩, -, X3, ⟨Lc3, hQ3, l3, y3, z3⟩, st3⟩ := X2.virtualBack hx (y := mY1) (z := mY1) hown (mvT hZ (oW hw 48 rfl)) (mvT hZ (oW hw 49 rfl)) (notFace_of_selects (args := #[]) (mvT hZ (oW hw 51 rfl))) (mvT hZ (oW hw 51 rfl)) (mvT hZ (oW hw 50 rfl)) (by decide) (backOf (W := 0) (rm_dd_OUTPUT l Z a0 hw []  w h0 n0 O0 W ) hZ (oW hw 52 rfl) (oW hw 4 rfl) (by decide) (by decide)) q3a q3c (g := (mkF m 18 #[.val (.ref a1)] [(.ref (w 1))])) rfl (by rw [hml]; rfl) (Steps.refl _) (argsL := []) (rest := []) (lenOf pd_0 rfl) rfl (by show 2 * 0 + _ ≤ _; exact Nat.le_of_eq rfl) (hb hby d3_18) (fun _ _ => ⟨rfl, e2, (by decide : 0 + 0 ≤ _), (by decide : 0 + 0 ≤ _)⟩)
  dsimp only [Pt.U, Pt.locs, Pt.cells, Pt.slots] at X3 l3 y3 z3 st3 hQ3
  rw [l3, y3, z3] at X3
  clear l3 y3 z3
  obtain ⟨rfl, Nq3, e3⟩ := hQ3
  have N3 := Fr.app N0 Nq3
  refine oS (fun t k => st3.trans k) ?_
  show oG _ _ _ _ _ _ _ (T3.setTop (mkF m 21 #[.val (.ref a1)] [(.int 1)]))
  try clear st3 X2 e2
  try clear T2
  exact own_ret (v := some (.int 1)) X3 (fun h => by rw [Bd.returns] at h; cases h) Bd.notSynchronized (fun fs hr => retOut X3 hx (t := .int) Bd.returns rfl (Or.inl ⟨rfl, Or.inl rfl, _, rfl⟩) (hb hby d3_21) hr) (by rw [e3]; exact ⟨rfl, N3, rfl⟩) (by decide) (by decide)
def Q_desc_CLOBBER (Z : State) (a1 : Addr) (p2 : Int32) (w : Nat → Addr) (h0 : Heap) (n0 : Nat) (v : Option Value) (h : Heap) (L : List Loc) : Prop := v = some (.int 1) ∧ Fr n0 L ∧ h = h0
set_option maxRecDepth 65536 in
set_option maxHeartbeats 40000000 in
theorem rm_desc_CLOBBER (l : Launch) (Z : State) (a0 : Array Value) (hw : ∀ d ∈ tables_1, d.before a0 Z = true) (ws : List Jvm.Cond) (a1 : Addr) (p2 : Int32) (w : Nat → Addr) (h0 : Heap) (n0 : Nat) (O0 : Old Z n0 h0) (W : own_World Z w) (F_number : Fld Z h0 a1 "com/example/lamassu/lamassu/model/Redirection" "number" "I" (.int p2)) (F_op : Fld Z h0 a1 "com/example/lamassu/lamassu/model/Redirection" "operator" "Lcom/example/lamassu/lamassu/model/Redirection$Operator;" (.ref (w 2))) (hp : p2 < (0 : Int32)) :
    MetFree l mY2 (head1 (Jvm.Cond.code mY2 prog_140_method_2_code 1 (some .int) :: ws) ({ frames := 1, cells := 0, slots := 0, locals := 12 } : Room)) (fun a U => a = #[(.ref a1)] ∧ Z.Warmed39 U.vm ∧ U.heap = h0) (fun _ _ _ _ _ => True) (fun _ U o U' => ∃ v L, o = .returned v ∧ Q_desc_CLOBBER Z a1 p2 w h0 n0 v U'.heap L ∧ FrameEnd U o U' L ({ frames := 1, cells := 0, slots := 0, locals := 12 } : Room).cells ({ frames := 1, cells := 0, slots := 0, locals := 12 } : Room).slots) := by
  refine MetFree.of_bodySF (plainFor_of_name pn_0) hisR ?_
  intro p e s m args below meth c s₁ Bd hml0 hP hK
  obtain ⟨rfl, hZ, hh⟩ := hP
  have hx := Bd.exec
  have hby := Bd.bytes
  have hml : c.maxLocals = 1 := hml0
  have hown : s.vm.findClass "com/example/lamassu/lamassu/model/Redirection" = some m.cls := findClass_of_methodNamed Bd.named
  have hnm := (name_of_methodNamed Bd.named Bd.method).1
  have X0 : Stand p l e ({ frames := 1, cells := 0, slots := 0, locals := 12 } : Room) s m #[(.ref a1)] below meth c s₁ [] 0 0 := Stand.of_body Bd
  have e0 : s₁.heap = h0 := by rw [← hh, Bd.state]; rfl
  have N0 := Fr.nil n0
  show oG p e below s (Q_desc_CLOBBER Z a1 p2 w h0 n0) ({ frames := 1, cells := 0, slots := 0, locals := 12 } : Room).cells ({ frames := 1, cells := 0, slots := 0, locals := 12 } : Room).slots _
  refine oS (fun t k => castTop (ef_3_r m a1) k) ?_
  show oG _ _ _ _ _ _ _ (s₁.setTop (mkF m 0 #[.val (.ref a1)] []))
  refine oS (fun t k => XS.aloadN X0.here hx rfl (hb hby d3_0) rfl rfl k) ?_
  obtain ⟨T1, X1, e1, st1⟩ := getF X0 hx hZ hown (host := "") (Or.inl (oW hw 35 rfl)) Via.refl e0 F_number (g := (mkF m 1 #[.val (.ref a1)] [(.ref a1)])) rfl rfl (hb hby d3_1)
  refine oS (fun t k => st1 t k) ?_
  try clear st1
  refine oS (fun t k => XS.ifYes X1.here hx rfl (pc0 := 4) (pc' := 14) rfl (hb hby d3_4) rfl ((if0 _ _).trans (tlt hp).1) (by decide) (by decide) k) ?_
  show oG _ _ _ _ _ _ _ (T1.setTop (mkF m 14 #[.val (.ref a1)] []))
  refine oS (fun t k => XS.aloadN X1.here hx rfl (hb hby d3_14) rfl rfl k) ?_
  obtain ⟨T2, X2, e2, st2⟩ := getF X1 hx hZ hown (host := "") (Or.inl (oW hw 37 rfl)) Via.refl e1 F_op (g := (mkF m 15 #[.val (.ref a1)] [(.ref a1)])) rfl rfl (hb hby d3_15)
  refine oS (fun t k => st2 t k) ?_
  try clear st2 X1 e1
  try clear T1
  obtain ⟨cq3, kq3, q3a, q3b, q3c⟩ := isOf hZ e2 ((wE2 W).ext O0.2)
  obtain ⟨_, _, ⟨T3, L3, k3, n3⟩, -, X3, ⟨Lc3, hQ3, l3, y3, z3⟩, st3⟩ := X2.virtualBack hx (y := mY1) (z := mY1) hown (mvT hZ (oW hw 48 rfl)) (mvT hZ (oW hw 49 rfl)) (notFace_of_selects (args := #[]) (mvT hZ (oW hw 51 rfl))) (mvT hZ (oW hw 51 rfl)) (mvT hZ (oW hw 50 rfl)) (by decide) (backOf (W := 0) (rm_dd_CLOBBER l Z a0 hw []  w h0 n0 O0 W ) hZ (oW hw 52 rfl) (oW hw 4 rfl) (by decide) (by decide)) q3a q3c (g := (mkF m 18 #[.val (.ref a1)] [(.ref (w 2))])) rfl (by rw [hml]; rfl) (Steps.refl _) (argsL := []) (rest := []) (lenOf pd_0 rfl) rfl (by show 2 * 0 + _ ≤ _; exact Nat.le_of_eq rfl) (hb hby d3_18) (fun _ _ => ⟨rfl, e2, (by decide : 0 + 0 ≤ _), (by decide : 0 + 0 ≤ _)⟩)
  dsimp only [Pt.U, Pt.locs, Pt.cells, Pt.slots] at X3 l3 y3 z3 st3 hQ3
  rw [l3, y3, z3] at X3
  clear l3 y3 z3
  obtain ⟨rfl, Nq3, e3⟩ := hQ3
  have N3 := Fr.app N0 Nq3
  refine oS (fun t k => st3.trans k) ?_
  show oG _ _ _ _ _ _ _ (T3.setTop (mkF m 21 #[.val (.ref a1)] [(.int 1)]))
  try clear st3 X2 e2
  try clear T2
  exact own_ret (v := some (.int 1)) X3 (fun h => by rw [Bd.returns] at h; cases h) Bd.notSynchronized (fun fs hr => retOut X3 hx (t := .int) Bd.returns rfl (Or.inl ⟨rfl, Or.inl rfl, _, rfl⟩) (hb hby d3_21) hr) (by rw [e3]; exact ⟨rfl, N3, rfl⟩) (by decide) (by decide)
def Q_desc_APPEND (Z : State) (a1 : Addr) (p2 : Int32) (w : Nat → Addr) (h0 : Heap) (n0 : Nat) (v : Option Value) (h : Heap) (L : List Loc) : Prop := v = some (.int 1) ∧ Fr n0 L ∧ h = h0
set_option maxRecDepth 65536 in
set_option maxHeartbeats 40000000 in
theorem rm_desc_APPEND (l : Launch) (Z : State) (a0 : Array Value) (hw : ∀ d ∈ tables_1, d.before a0 Z = true) (ws : List Jvm.Cond) (a1 : Addr) (p2 : Int32) (w : Nat → Addr) (h0 : Heap) (n0 : Nat) (O0 : Old Z n0 h0) (W : own_World Z w) (F_number : Fld Z h0 a1 "com/example/lamassu/lamassu/model/Redirection" "number" "I" (.int p2)) (F_op : Fld Z h0 a1 "com/example/lamassu/lamassu/model/Redirection" "operator" "Lcom/example/lamassu/lamassu/model/Redirection$Operator;" (.ref (w 3))) (hp : p2 < (0 : Int32)) :
    MetFree l mY2 (head1 (Jvm.Cond.code mY2 prog_140_method_2_code 1 (some .int) :: ws) ({ frames := 1, cells := 0, slots := 0, locals := 12 } : Room)) (fun a U => a = #[(.ref a1)] ∧ Z.Warmed39 U.vm ∧ U.heap = h0) (fun _ _ _ _ _ => True) (fun _ U o U' => ∃ v L, o = .returned v ∧ Q_desc_APPEND Z a1 p2 w h0 n0 v U'.heap L ∧ FrameEnd U o U' L ({ frames := 1, cells := 0, slots := 0, locals := 12 } : Room).cells ({ frames := 1, cells := 0, slots := 0, locals := 12 } : Room).slots) := by
  refine MetFree.of_bodySF (plainFor_of_name pn_0) hisR ?_
  intro p e s m args below meth c s₁ Bd hml0 hP hK
  obtain ⟨rfl, hZ, hh⟩ := hP
  have hx := Bd.exec
  have hby := Bd.bytes
  have hml : c.maxLocals = 1 := hml0
  have hown : s.vm.findClass "com/example/lamassu/lamassu/model/Redirection" = some m.cls := findClass_of_methodNamed Bd.named
  have hnm := (name_of_methodNamed Bd.named Bd.method).1
  have X0 : Stand p l e ({ frames := 1, cells := 0, slots := 0, locals := 12 } : Room) s m #[(.ref a1)] below meth c s₁ [] 0 0 := Stand.of_body Bd
  have e0 : s₁.heap = h0 := by rw [← hh, Bd.state]; rfl
  have N0 := Fr.nil n0
  show oG p e below s (Q_desc_APPEND Z a1 p2 w h0 n0) ({ frames := 1, cells := 0, slots := 0, locals := 12 } : Room).cells ({ frames := 1, cells := 0, slots := 0, locals := 12 } : Room).slots _
  refine oS (fun t k => castTop (ef_3_r m a1) k) ?_
  show oG _ _ _ _ _ _ _ (s₁.setTop (mkF m 0 #[.val (.ref a1)] []))
  refine oS (fun t k => XS.aloadN X0.here hx rfl (hb hby d3_0) rfl rfl k) ?_
  obtain ⟨T1, X1, e1, st1⟩ := getF X0 hx hZ hown (host := "") (Or.inl (oW hw 35 rfl)) Via.refl e0 F_number (g := (mkF m 1 #[.val (.ref a1)] [(.ref a1)])) rfl rfl (hb hby d3_1)
  refine oS (fun t k => st1 t k) ?_
  try clear st1
  refine oS (fun t k => XS.ifYes X1.here hx rfl (pc0 := 4) (pc' := 14) rfl (hb hby d3_4) rfl ((if0 _ _).trans (tlt hp).1) (by decide) (by decide) k) ?_
  show oG _ _ _ _ _ _ _ (T1.setTop (mkF m 14 #[.val (.ref a1)] []))
  refine oS (fun t k => XS.aloadN X1.here hx rfl (hb hby d3_14) rfl rfl k) ?_
  obtain ⟨T2, X2, e2, st2⟩ := getF X1 hx hZ hown (host := "") (Or.inl (oW hw 37 rfl)) Via.refl e1 F_op (g := (mkF m 15 #[.val (.ref a1)] [(.ref a1)])) rfl rfl (hb hby d3_15)
  refine oS (fun t k => st2 t k) ?_
  try clear st2 X1 e1
  try clear T1
  obtain ⟨cq3, kq3, q3a, q3b, q3c⟩ := isOf hZ e2 ((wE3 W).ext O0.2)
  obtain ⟨_, _, ⟨T3, L3, k3, n3⟩, -, X3, ⟨Lc3, hQ3, l3, y3, z3⟩, st3⟩ := X2.virtualBack hx (y := mY1) (z := mY1) hown (mvT hZ (oW hw 48 rfl)) (mvT hZ (oW hw 49 rfl)) (notFace_of_selects (args := #[]) (mvT hZ (oW hw 51 rfl))) (mvT hZ (oW hw 51 rfl)) (mvT hZ (oW hw 50 rfl)) (by decide) (backOf (W := 0) (rm_dd_APPEND l Z a0 hw []  w h0 n0 O0 W ) hZ (oW hw 52 rfl) (oW hw 4 rfl) (by decide) (by decide)) q3a q3c (g := (mkF m 18 #[.val (.ref a1)] [(.ref (w 3))])) rfl (by rw [hml]; rfl) (Steps.refl _) (argsL := []) (rest := []) (lenOf pd_0 rfl) rfl (by show 2 * 0 + _ ≤ _; exact Nat.le_of_eq rfl) (hb hby d3_18) (fun _ _ => ⟨rfl, e2, (by decide : 0 + 0 ≤ _), (by decide : 0 + 0 ≤ _)⟩)
  dsimp only [Pt.U, Pt.locs, Pt.cells, Pt.slots] at X3 l3 y3 z3 st3 hQ3
  rw [l3, y3, z3] at X3
  clear l3 y3 z3
  obtain ⟨rfl, Nq3, e3⟩ := hQ3
  have N3 := Fr.app N0 Nq3
  refine oS (fun t k => st3.trans k) ?_
  show oG _ _ _ _ _ _ _ (T3.setTop (mkF m 21 #[.val (.ref a1)] [(.int 1)]))
  try clear st3 X2 e2
  try clear T2
  exact own_ret (v := some (.int 1)) X3 (fun h => by rw [Bd.returns] at h; cases h) Bd.notSynchronized (fun fs hr => retOut X3 hx (t := .int) Bd.returns rfl (Or.inl ⟨rfl, Or.inl rfl, _, rfl⟩) (hb hby d3_21) hr) (by rw [e3]; exact ⟨rfl, N3, rfl⟩) (by decide) (by decide)
def Q_desc_DUPLICATE_INPUT (Z : State) (a1 : Addr) (p2 : Int32) (w : Nat → Addr) (h0 : Heap) (n0 : Nat) (v : Option Value) (h : Heap) (L : List Loc) : Prop := v = some (.int 0) ∧ Fr n0 L ∧ h = h0
set_option maxRecDepth 65536 in
set_option maxHeartbeats 40000000 in
theorem rm_desc_DUPLICATE_INPUT (l : Launch) (Z : State) (a0 : Array Value) (hw : ∀ d ∈ tables_1, d.before a0 Z = true) (ws : List Jvm.Cond) (a1 : Addr) (p2 : Int32) (w : Nat → Addr) (h0 : Heap) (n0 : Nat) (O0 : Old Z n0 h0) (W : own_World Z w) (F_number : Fld Z h0 a1 "com/example/lamassu/lamassu/model/Redirection" "number" "I" (.int p2)) (F_op : Fld Z h0 a1 "com/example/lamassu/lamassu/model/Redirection" "operator" "Lcom/example/lamassu/lamassu/model/Redirection$Operator;" (.ref (w 4))) (hp : p2 < (0 : Int32)) :
    MetFree l mY2 (head1 (Jvm.Cond.code mY2 prog_140_method_2_code 1 (some .int) :: ws) ({ frames := 1, cells := 0, slots := 0, locals := 12 } : Room)) (fun a U => a = #[(.ref a1)] ∧ Z.Warmed39 U.vm ∧ U.heap = h0) (fun _ _ _ _ _ => True) (fun _ U o U' => ∃ v L, o = .returned v ∧ Q_desc_DUPLICATE_INPUT Z a1 p2 w h0 n0 v U'.heap L ∧ FrameEnd U o U' L ({ frames := 1, cells := 0, slots := 0, locals := 12 } : Room).cells ({ frames := 1, cells := 0, slots := 0, locals := 12 } : Room).slots) := by
  refine MetFree.of_bodySF (plainFor_of_name pn_0) hisR ?_
  intro p e s m args below meth c s₁ Bd hml0 hP hK
  obtain ⟨rfl, hZ, hh⟩ := hP
  have hx := Bd.exec
  have hby := Bd.bytes
  have hml : c.maxLocals = 1 := hml0
  have hown : s.vm.findClass "com/example/lamassu/lamassu/model/Redirection" = some m.cls := findClass_of_methodNamed Bd.named
  have hnm := (name_of_methodNamed Bd.named Bd.method).1
  have X0 : Stand p l e ({ frames := 1, cells := 0, slots := 0, locals := 12 } : Room) s m #[(.ref a1)] below meth c s₁ [] 0 0 := Stand.of_body Bd
  have e0 : s₁.heap = h0 := by rw [← hh, Bd.state]; rfl
  have N0 := Fr.nil n0
  show oG p e below s (Q_desc_DUPLICATE_INPUT Z a1 p2 w h0 n0) ({ frames := 1, cells := 0, slots := 0, locals := 12 } : Room).cells ({ frames := 1, cells := 0, slots := 0, locals := 12 } : Room).slots _
  refine oS (fun t k => castTop (ef_3_r m a1) k) ?_
  show oG _ _ _ _ _ _ _ (s₁.setTop (mkF m 0 #[.val (.ref a1)] []))
  refine oS (fun t k => XS.aloadN X0.here hx rfl (hb hby d3_0) rfl rfl k) ?_
  obtain ⟨T1, X1, e1, st1⟩ := getF X0 hx hZ hown (host := "") (Or.inl (oW hw 35 rfl)) Via.refl e0 F_number (g := (mkF m 1 #[.val (.ref a1)] [(.ref a1)])) rfl rfl (hb hby d3_1)
  refine oS (fun t k => st1 t k) ?_
  try clear st1
  refine oS (fun t k => XS.ifYes X1.here hx rfl (pc0 := 4) (pc' := 14) rfl (hb hby d3_4) rfl ((if0 _ _).trans (tlt hp).1) (by decide) (by decide) k) ?_
  show oG _ _ _ _ _ _ _ (T1.setTop (mkF m 14 #[.val (.ref a1)] []))
  refine oS (fun t k => XS.aloadN X1.here hx rfl (hb hby d3_14) rfl rfl k) ?_
  obtain ⟨T2, X2, e2, st2⟩ := getF X1 hx hZ hown (host := "") (Or.inl (oW hw 37 rfl)) Via.refl e1 F_op (g := (mkF m 15 #[.val (.ref a1)] [(.ref a1)])) rfl rfl (hb hby d3_15)
  refine oS (fun t k => st2 t k) ?_
  try clear st2 X1 e1
  try clear T1
  obtain ⟨cq3, kq3, q3a, q3b, q3c⟩ := isOf hZ e2 ((wE4 W).ext O0.2)
  obtain ⟨_, _, ⟨T3, L3, k3, n3⟩, -, X3, ⟨Lc3, hQ3, l3, y3, z3⟩, st3⟩ := X2.virtualBack hx (y := mY1) (z := mY1) hown (mvT hZ (oW hw 48 rfl)) (mvT hZ (oW hw 49 rfl)) (notFace_of_selects (args := #[]) (mvT hZ (oW hw 51 rfl))) (mvT hZ (oW hw 51 rfl)) (mvT hZ (oW hw 50 rfl)) (by decide) (backOf (W := 0) (rm_dd_DUPLICATE_INPUT l Z a0 hw []  w h0 n0 O0 W ) hZ (oW hw 52 rfl) (oW hw 4 rfl) (by decide) (by decide)) q3a q3c (g := (mkF m 18 #[.val (.ref a1)] [(.ref (w 4))])) rfl (by rw [hml]; rfl) (Steps.refl _) (argsL := []) (rest := []) (lenOf pd_0 rfl) rfl (by show 2 * 0 + _ ≤ _; exact Nat.le_of_eq rfl) (hb hby d3_18) (fun _ _ => ⟨rfl, e2, (by decide : 0 + 0 ≤ _), (by decide : 0 + 0 ≤ _)⟩)
  dsimp only [Pt.U, Pt.locs, Pt.cells, Pt.slots] at X3 l3 y3 z3 st3 hQ3
  rw [l3, y3, z3] at X3
  clear l3 y3 z3
  obtain ⟨rfl, Nq3, e3⟩ := hQ3
  have N3 := Fr.app N0 Nq3
  refine oS (fun t k => st3.trans k) ?_
  show oG _ _ _ _ _ _ _ (T3.setTop (mkF m 21 #[.val (.ref a1)] [(.int 0)]))
  try clear st3 X2 e2
  try clear T2
  exact own_ret (v := some (.int 0)) X3 (fun h => by rw [Bd.returns] at h; cases h) Bd.notSynchronized (fun fs hr => retOut X3 hx (t := .int) Bd.returns rfl (Or.inl ⟨rfl, Or.inl rfl, _, rfl⟩) (hb hby d3_21) hr) (by rw [e3]; exact ⟨rfl, N3, rfl⟩) (by decide) (by decide)
def Q_desc_DUPLICATE_OUTPUT (Z : State) (a1 : Addr) (p2 : Int32) (w : Nat → Addr) (h0 : Heap) (n0 : Nat) (v : Option Value) (h : Heap) (L : List Loc) : Prop := v = some (.int 1) ∧ Fr n0 L ∧ h = h0
set_option maxRecDepth 65536 in
set_option maxHeartbeats 40000000 in
theorem rm_desc_DUPLICATE_OUTPUT (l : Launch) (Z : State) (a0 : Array Value) (hw : ∀ d ∈ tables_1, d.before a0 Z = true) (ws : List Jvm.Cond) (a1 : Addr) (p2 : Int32) (w : Nat → Addr) (h0 : Heap) (n0 : Nat) (O0 : Old Z n0 h0) (W : own_World Z w) (F_number : Fld Z h0 a1 "com/example/lamassu/lamassu/model/Redirection" "number" "I" (.int p2)) (F_op : Fld Z h0 a1 "com/example/lamassu/lamassu/model/Redirection" "operator" "Lcom/example/lamassu/lamassu/model/Redirection$Operator;" (.ref (w 5))) (hp : p2 < (0 : Int32)) :
    MetFree l mY2 (head1 (Jvm.Cond.code mY2 prog_140_method_2_code 1 (some .int) :: ws) ({ frames := 1, cells := 0, slots := 0, locals := 12 } : Room)) (fun a U => a = #[(.ref a1)] ∧ Z.Warmed39 U.vm ∧ U.heap = h0) (fun _ _ _ _ _ => True) (fun _ U o U' => ∃ v L, o = .returned v ∧ Q_desc_DUPLICATE_OUTPUT Z a1 p2 w h0 n0 v U'.heap L ∧ FrameEnd U o U' L ({ frames := 1, cells := 0, slots := 0, locals := 12 } : Room).cells ({ frames := 1, cells := 0, slots := 0, locals := 12 } : Room).slots) := by
  refine MetFree.of_bodySF (plainFor_of_name pn_0) hisR ?_
  intro p e s m args below meth c s₁ Bd hml0 hP hK
  obtain ⟨rfl, hZ, hh⟩ := hP
  have hx := Bd.exec
  have hby := Bd.bytes
  have hml : c.maxLocals = 1 := hml0
  have hown : s.vm.findClass "com/example/lamassu/lamassu/model/Redirection" = some m.cls := findClass_of_methodNamed Bd.named
  have hnm := (name_of_methodNamed Bd.named Bd.method).1
  have X0 : Stand p l e ({ frames := 1, cells := 0, slots := 0, locals := 12 } : Room) s m #[(.ref a1)] below meth c s₁ [] 0 0 := Stand.of_body Bd
  have e0 : s₁.heap = h0 := by rw [← hh, Bd.state]; rfl
  have N0 := Fr.nil n0
  show oG p e below s (Q_desc_DUPLICATE_OUTPUT Z a1 p2 w h0 n0) ({ frames := 1, cells := 0, slots := 0, locals := 12 } : Room).cells ({ frames := 1, cells := 0, slots := 0, locals := 12 } : Room).slots _
  refine oS (fun t k => castTop (ef_3_r m a1) k) ?_
  show oG _ _ _ _ _ _ _ (s₁.setTop (mkF m 0 #[.val (.ref a1)] []))
  refine oS (fun t k => XS.aloadN X0.here hx rfl (hb hby d3_0) rfl rfl k) ?_
  obtain ⟨T1, X1, e1, st1⟩ := getF X0 hx hZ hown (host := "") (Or.inl (oW hw 35 rfl)) Via.refl e0 F_number (g := (mkF m 1 #[.val (.ref a1)] [(.ref a1)])) rfl rfl (hb hby d3_1)
  refine oS (fun t k => st1 t k) ?_
  try clear st1
  refine oS (fun t k => XS.ifYes X1.here hx rfl (pc0 := 4) (pc' := 14) rfl (hb hby d3_4) rfl ((if0 _ _).trans (tlt hp).1) (by decide) (by decide) k) ?_
  show oG _ _ _ _ _ _ _ (T1.setTop (mkF m 14 #[.val (.ref a1)] []))
  refine oS (fun t k => XS.aloadN X1.here hx rfl (hb hby d3_14) rfl rfl k) ?_
  obtain ⟨T2, X2, e2, st2⟩ := getF X1 hx hZ hown (host := "") (Or.inl (oW hw 37 rfl)) Via.refl e1 F_op (g := (mkF m 15 #[.val (.ref a1)] [(.ref a1)])) rfl rfl (hb hby d3_15)
  refine oS (fun t k => st2 t k) ?_
  try clear st2 X1 e1
  try clear T1
  obtain ⟨cq3, kq3, q3a, q3b, q3c⟩ := isOf hZ e2 ((wE5 W).ext O0.2)
  obtain ⟨_, _, ⟨T3, L3, k3, n3⟩, -, X3, ⟨Lc3, hQ3, l3, y3, z3⟩, st3⟩ := X2.virtualBack hx (y := mY1) (z := mY1) hown (mvT hZ (oW hw 48 rfl)) (mvT hZ (oW hw 49 rfl)) (notFace_of_selects (args := #[]) (mvT hZ (oW hw 51 rfl))) (mvT hZ (oW hw 51 rfl)) (mvT hZ (oW hw 50 rfl)) (by decide) (backOf (W := 0) (rm_dd_DUPLICATE_OUTPUT l Z a0 hw []  w h0 n0 O0 W ) hZ (oW hw 52 rfl) (oW hw 4 rfl) (by decide) (by decide)) q3a q3c (g := (mkF m 18 #[.val (.ref a1)] [(.ref (w 5))])) rfl (by rw [hml]; rfl) (Steps.refl _) (argsL := []) (rest := []) (lenOf pd_0 rfl) rfl (by show 2 * 0 + _ ≤ _; exact Nat.le_of_eq rfl) (hb hby d3_18) (fun _ _ => ⟨rfl, e2, (by decide : 0 + 0 ≤ _), (by decide : 0 + 0 ≤ _)⟩)
  dsimp only [Pt.U, Pt.locs, Pt.cells, Pt.slots] at X3 l3 y3 z3 st3 hQ3
  rw [l3, y3, z3] at X3
  clear l3 y3 z3
  obtain ⟨rfl, Nq3, e3⟩ := hQ3
  have N3 := Fr.app N0 Nq3
  refine oS (fun t k => st3.trans k) ?_
  show oG _ _ _ _ _ _ _ (T3.setTop (mkF m 21 #[.val (.ref a1)] [(.int 1)]))
  try clear st3 X2 e2
  try clear T2
  exact own_ret (v := some (.int 1)) X3 (fun h => by rw [Bd.returns] at h; cases h) Bd.notSynchronized (fun fs hr => retOut X3 hx (t := .int) Bd.returns rfl (Or.inl ⟨rfl, Or.inl rfl, _, rfl⟩) (hb hby d3_21) hr) (by rw [e3]; exact ⟨rfl, N3, rfl⟩) (by decide) (by decide)
def Q_desc_OUTPUT_AND_ERROR (Z : State) (a1 : Addr) (p2 : Int32) (w : Nat → Addr) (h0 : Heap) (n0 : Nat) (v : Option Value) (h : Heap) (L : List Loc) : Prop := v = some (.int 1) ∧ Fr n0 L ∧ h = h0
set_option maxRecDepth 65536 in
set_option maxHeartbeats 40000000 in
theorem rm_desc_OUTPUT_AND_ERROR (l : Launch) (Z : State) (a0 : Array Value) (hw : ∀ d ∈ tables_1, d.before a0 Z = true) (ws : List Jvm.Cond) (a1 : Addr) (p2 : Int32) (w : Nat → Addr) (h0 : Heap) (n0 : Nat) (O0 : Old Z n0 h0) (W : own_World Z w) (F_number : Fld Z h0 a1 "com/example/lamassu/lamassu/model/Redirection" "number" "I" (.int p2)) (F_op : Fld Z h0 a1 "com/example/lamassu/lamassu/model/Redirection" "operator" "Lcom/example/lamassu/lamassu/model/Redirection$Operator;" (.ref (w 6))) (hp : p2 < (0 : Int32)) :
    MetFree l mY2 (head1 (Jvm.Cond.code mY2 prog_140_method_2_code 1 (some .int) :: ws) ({ frames := 1, cells := 0, slots := 0, locals := 12 } : Room)) (fun a U => a = #[(.ref a1)] ∧ Z.Warmed39 U.vm ∧ U.heap = h0) (fun _ _ _ _ _ => True) (fun _ U o U' => ∃ v L, o = .returned v ∧ Q_desc_OUTPUT_AND_ERROR Z a1 p2 w h0 n0 v U'.heap L ∧ FrameEnd U o U' L ({ frames := 1, cells := 0, slots := 0, locals := 12 } : Room).cells ({ frames := 1, cells := 0, slots := 0, locals := 12 } : Room).slots) := by
  refine MetFree.of_bodySF (plainFor_of_name pn_0) hisR ?_
  intro p e s m args below meth c s₁ Bd hml0 hP hK
  obtain ⟨rfl, hZ, hh⟩ := hP
  have hx := Bd.exec
  have hby := Bd.bytes
  have hml : c.maxLocals = 1 := hml0
  have hown : s.vm.findClass "com/example/lamassu/lamassu/model/Redirection" = some m.cls := findClass_of_methodNamed Bd.named
  have hnm := (name_of_methodNamed Bd.named Bd.method).1
  have X0 : Stand p l e ({ frames := 1, cells := 0, slots := 0, locals := 12 } : Room) s m #[(.ref a1)] below meth c s₁ [] 0 0 := Stand.of_body Bd
  have e0 : s₁.heap = h0 := by rw [← hh, Bd.state]; rfl
  have N0 := Fr.nil n0
  show oG p e below s (Q_desc_OUTPUT_AND_ERROR Z a1 p2 w h0 n0) ({ frames := 1, cells := 0, slots := 0, locals := 12 } : Room).cells ({ frames := 1, cells := 0, slots := 0, locals := 12 } : Room).slots _
  refine oS (fun t k => castTop (ef_3_r m a1) k) ?_
  show oG _ _ _ _ _ _ _ (s₁.setTop (mkF m 0 #[.val (.ref a1)] []))
  refine oS (fun t k => XS.aloadN X0.here hx rfl (hb hby d3_0) rfl rfl k) ?_
  obtain ⟨T1, X1, e1, st1⟩ := getF X0 hx hZ hown (host := "") (Or.inl (oW hw 35 rfl)) Via.refl e0 F_number (g := (mkF m 1 #[.val (.ref a1)] [(.ref a1)])) rfl rfl (hb hby d3_1)
  refine oS (fun t k => st1 t k) ?_
  try clear st1
  refine oS (fun t k => XS.ifYes X1.here hx rfl (pc0 := 4) (pc' := 14) rfl (hb hby d3_4) rfl ((if0 _ _).trans (tlt hp).1) (by decide) (by decide) k) ?_
  show oG _ _ _ _ _ _ _ (T1.setTop (mkF m 14 #[.val (.ref a1)] []))
  refine oS (fun t k => XS.aloadN X1.here hx rfl (hb hby d3_14) rfl rfl k) ?_
  obtain ⟨T2, X2, e2, st2⟩ := getF X1 hx hZ hown (host := "") (Or.inl (oW hw 37 rfl)) Via.refl e1 F_op (g := (mkF m 15 #[.val (.ref a1)] [(.ref a1)])) rfl rfl (hb hby d3_15)
  refine oS (fun t k => st2 t k) ?_
  try clear st2 X1 e1
  try clear T1
  obtain ⟨cq3, kq3, q3a, q3b, q3c⟩ := isOf hZ e2 ((wE6 W).ext O0.2)
  obtain ⟨_, _, ⟨T3, L3, k3, n3⟩, -, X3, ⟨Lc3, hQ3, l3, y3, z3⟩, st3⟩ := X2.virtualBack hx (y := mY1) (z := mY1) hown (mvT hZ (oW hw 48 rfl)) (mvT hZ (oW hw 49 rfl)) (notFace_of_selects (args := #[]) (mvT hZ (oW hw 51 rfl))) (mvT hZ (oW hw 51 rfl)) (mvT hZ (oW hw 50 rfl)) (by decide) (backOf (W := 0) (rm_dd_OUTPUT_AND_ERROR l Z a0 hw []  w h0 n0 O0 W ) hZ (oW hw 52 rfl) (oW hw 4 rfl) (by decide) (by decide)) q3a q3c (g := (mkF m 18 #[.val (.ref a1)] [(.ref (w 6))])) rfl (by rw [hml]; rfl) (Steps.refl _) (argsL := []) (rest := []) (lenOf pd_0 rfl) rfl (by show 2 * 0 + _ ≤ _; exact Nat.le_of_eq rfl) (hb hby d3_18) (fun _ _ => ⟨rfl, e2, (by decide : 0 + 0 ≤ _), (by decide : 0 + 0 ≤ _)⟩)
  dsimp only [Pt.U, Pt.locs, Pt.cells, Pt.slots] at X3 l3 y3 z3 st3 hQ3
  rw [l3, y3, z3] at X3
  clear l3 y3 z3
  obtain ⟨rfl, Nq3, e3⟩ := hQ3
  have N3 := Fr.app N0 Nq3
  refine oS (fun t k => st3.trans k) ?_
  show oG _ _ _ _ _ _ _ (T3.setTop (mkF m 21 #[.val (.ref a1)] [(.int 1)]))
  try clear st3 X2 e2
  try clear T2
  exact own_ret (v := some (.int 1)) X3 (fun h => by rw [Bd.returns] at h; cases h) Bd.notSynchronized (fun fs hr => retOut X3 hx (t := .int) Bd.returns rfl (Or.inl ⟨rfl, Or.inl rfl, _, rfl⟩) (hb hby d3_21) hr) (by rw [e3]; exact ⟨rfl, N3, rfl⟩) (by decide) (by decide)
def Q_desc_APPEND_OUTPUT_AND_ERROR (Z : State) (a1 : Addr) (p2 : Int32) (w : Nat → Addr) (h0 : Heap) (n0 : Nat) (v : Option Value) (h : Heap) (L : List Loc) : Prop := v = some (.int 1) ∧ Fr n0 L ∧ h = h0
set_option maxRecDepth 65536 in
set_option maxHeartbeats 40000000 in
theorem rm_desc_APPEND_OUTPUT_AND_ERROR (l : Launch) (Z : State) (a0 : Array Value) (hw : ∀ d ∈ tables_1, d.before a0 Z = true) (ws : List Jvm.Cond) (a1 : Addr) (p2 : Int32) (w : Nat → Addr) (h0 : Heap) (n0 : Nat) (O0 : Old Z n0 h0) (W : own_World Z w) (F_number : Fld Z h0 a1 "com/example/lamassu/lamassu/model/Redirection" "number" "I" (.int p2)) (F_op : Fld Z h0 a1 "com/example/lamassu/lamassu/model/Redirection" "operator" "Lcom/example/lamassu/lamassu/model/Redirection$Operator;" (.ref (w 7))) (hp : p2 < (0 : Int32)) :
    MetFree l mY2 (head1 (Jvm.Cond.code mY2 prog_140_method_2_code 1 (some .int) :: ws) ({ frames := 1, cells := 0, slots := 0, locals := 12 } : Room)) (fun a U => a = #[(.ref a1)] ∧ Z.Warmed39 U.vm ∧ U.heap = h0) (fun _ _ _ _ _ => True) (fun _ U o U' => ∃ v L, o = .returned v ∧ Q_desc_APPEND_OUTPUT_AND_ERROR Z a1 p2 w h0 n0 v U'.heap L ∧ FrameEnd U o U' L ({ frames := 1, cells := 0, slots := 0, locals := 12 } : Room).cells ({ frames := 1, cells := 0, slots := 0, locals := 12 } : Room).slots) := by
  refine MetFree.of_bodySF (plainFor_of_name pn_0) hisR ?_
  intro p e s m args below meth c s₁ Bd hml0 hP hK
  obtain ⟨rfl, hZ, hh⟩ := hP
  have hx := Bd.exec
  have hby := Bd.bytes
  have hml : c.maxLocals = 1 := hml0
  have hown : s.vm.findClass "com/example/lamassu/lamassu/model/Redirection" = some m.cls := findClass_of_methodNamed Bd.named
  have hnm := (name_of_methodNamed Bd.named Bd.method).1
  have X0 : Stand p l e ({ frames := 1, cells := 0, slots := 0, locals := 12 } : Room) s m #[(.ref a1)] below meth c s₁ [] 0 0 := Stand.of_body Bd
  have e0 : s₁.heap = h0 := by rw [← hh, Bd.state]; rfl
  have N0 := Fr.nil n0
  show oG p e below s (Q_desc_APPEND_OUTPUT_AND_ERROR Z a1 p2 w h0 n0) ({ frames := 1, cells := 0, slots := 0, locals := 12 } : Room).cells ({ frames := 1, cells := 0, slots := 0, locals := 12 } : Room).slots _
  refine oS (fun t k => castTop (ef_3_r m a1) k) ?_
  show oG _ _ _ _ _ _ _ (s₁.setTop (mkF m 0 #[.val (.ref a1)] []))
  refine oS (fun t k => XS.aloadN X0.here hx rfl (hb hby d3_0) rfl rfl k) ?_
  obtain ⟨T1, X1, e1, st1⟩ := getF X0 hx hZ hown (host := "") (Or.inl (oW hw 35 rfl)) Via.refl e0 F_number (g := (mkF m 1 #[.val (.ref a1)] [(.ref a1)])) rfl rfl (hb hby d3_1)
  refine oS (fun t k => st1 t k) ?_
  try clear st1
  refine oS (fun t k => XS.ifYes X1.here hx rfl (pc0 := 4) (pc' := 14) rfl (hb hby d3_4) rfl ((if0 _ _).trans (tlt hp).1) (by decide) (by decide) k) ?_
  show oG _ _ _ _ _ _ _ (T1.setTop (mkF m 14 #[.val (.ref a1)] []))
  refine oS (fun t k => XS.aloadN X1.here hx rfl (hb hby d3_14) rfl rfl k) ?_
  obtain ⟨T2, X2, e2, st2⟩ := getF X1 hx hZ hown (host := "") (Or.inl (oW hw 37 rfl)) Via.refl e1 F_op (g := (mkF m 15 #[.val (.ref a1)] [(.ref a1)])) rfl rfl (hb hby d3_15)
  refine oS (fun t k => st2 t k) ?_
  try clear st2 X1 e1
  try clear T1
  obtain ⟨cq3, kq3, q3a, q3b, q3c⟩ := isOf hZ e2 ((wE7 W).ext O0.2)
  obtain ⟨_, _, ⟨T3, L3, k3, n3⟩, -, X3, ⟨Lc3, hQ3, l3, y3, z3⟩, st3⟩ := X2.virtualBack hx (y := mY1) (z := mY1) hown (mvT hZ (oW hw 48 rfl)) (mvT hZ (oW hw 49 rfl)) (notFace_of_selects (args := #[]) (mvT hZ (oW hw 51 rfl))) (mvT hZ (oW hw 51 rfl)) (mvT hZ (oW hw 50 rfl)) (by decide) (backOf (W := 0) (rm_dd_APPEND_OUTPUT_AND_ERROR l Z a0 hw []  w h0 n0 O0 W ) hZ (oW hw 52 rfl) (oW hw 4 rfl) (by decide) (by decide)) q3a q3c (g := (mkF m 18 #[.val (.ref a1)] [(.ref (w 7))])) rfl (by rw [hml]; rfl) (Steps.refl _) (argsL := []) (rest := []) (lenOf pd_0 rfl) rfl (by show 2 * 0 + _ ≤ _; exact Nat.le_of_eq rfl) (hb hby d3_18) (fun _ _ => ⟨rfl, e2, (by decide : 0 + 0 ≤ _), (by decide : 0 + 0 ≤ _)⟩)
  dsimp only [Pt.U, Pt.locs, Pt.cells, Pt.slots] at X3 l3 y3 z3 st3 hQ3
  rw [l3, y3, z3] at X3
  clear l3 y3 z3
  obtain ⟨rfl, Nq3, e3⟩ := hQ3
  have N3 := Fr.app N0 Nq3
  refine oS (fun t k => st3.trans k) ?_
  show oG _ _ _ _ _ _ _ (T3.setTop (mkF m 21 #[.val (.ref a1)] [(.int 1)]))
  try clear st3 X2 e2
  try clear T2
  exact own_ret (v := some (.int 1)) X3 (fun h => by rw [Bd.returns] at h; cases h) Bd.notSynchronized (fun fs hr => retOut X3 hx (t := .int) Bd.returns rfl (Or.inl ⟨rfl, Or.inl rfl, _, rfl⟩) (hb hby d3_21) hr) (by rw [e3]; exact ⟨rfl, N3, rfl⟩) (by decide) (by decide)
def Q_desc_HERE_DOCUMENT (Z : State) (a1 : Addr) (p2 : Int32) (w : Nat → Addr) (h0 : Heap) (n0 : Nat) (v : Option Value) (h : Heap) (L : List Loc) : Prop := v = some (.int 0) ∧ Fr n0 L ∧ h = h0
set_option maxRecDepth 65536 in
set_option maxHeartbeats 40000000 in
theorem rm_desc_HERE_DOCUMENT (l : Launch) (Z : State) (a0 : Array Value) (hw : ∀ d ∈ tables_1, d.before a0 Z = true) (ws : List Jvm.Cond) (a1 : Addr) (p2 : Int32) (w : Nat → Addr) (h0 : Heap) (n0 : Nat) (O0 : Old Z n0 h0) (W : own_World Z w) (F_number : Fld Z h0 a1 "com/example/lamassu/lamassu/model/Redirection" "number" "I" (.int p2)) (F_op : Fld Z h0 a1 "com/example/lamassu/lamassu/model/Redirection" "operator" "Lcom/example/lamassu/lamassu/model/Redirection$Operator;" (.ref (w 8))) (hp : p2 < (0 : Int32)) :
    MetFree l mY2 (head1 (Jvm.Cond.code mY2 prog_140_method_2_code 1 (some .int) :: ws) ({ frames := 1, cells := 0, slots := 0, locals := 12 } : Room)) (fun a U => a = #[(.ref a1)] ∧ Z.Warmed39 U.vm ∧ U.heap = h0) (fun _ _ _ _ _ => True) (fun _ U o U' => ∃ v L, o = .returned v ∧ Q_desc_HERE_DOCUMENT Z a1 p2 w h0 n0 v U'.heap L ∧ FrameEnd U o U' L ({ frames := 1, cells := 0, slots := 0, locals := 12 } : Room).cells ({ frames := 1, cells := 0, slots := 0, locals := 12 } : Room).slots) := by
  refine MetFree.of_bodySF (plainFor_of_name pn_0) hisR ?_
  intro p e s m args below meth c s₁ Bd hml0 hP hK
  obtain ⟨rfl, hZ, hh⟩ := hP
  have hx := Bd.exec
  have hby := Bd.bytes
  have hml : c.maxLocals = 1 := hml0
  have hown : s.vm.findClass "com/example/lamassu/lamassu/model/Redirection" = some m.cls := findClass_of_methodNamed Bd.named
  have hnm := (name_of_methodNamed Bd.named Bd.method).1
  have X0 : Stand p l e ({ frames := 1, cells := 0, slots := 0, locals := 12 } : Room) s m #[(.ref a1)] below meth c s₁ [] 0 0 := Stand.of_body Bd
  have e0 : s₁.heap = h0 := by rw [← hh, Bd.state]; rfl
  have N0 := Fr.nil n0
  show oG p e below s (Q_desc_HERE_DOCUMENT Z a1 p2 w h0 n0) ({ frames := 1, cells := 0, slots := 0, locals := 12 } : Room).cells ({ frames := 1, cells := 0, slots := 0, locals := 12 } : Room).slots _
  refine oS (fun t k => castTop (ef_3_r m a1) k) ?_
  show oG _ _ _ _ _ _ _ (s₁.setTop (mkF m 0 #[.val (.ref a1)] []))
  refine oS (fun t k => XS.aloadN X0.here hx rfl (hb hby d3_0) rfl rfl k) ?_
  obtain ⟨T1, X1, e1, st1⟩ := getF X0 hx hZ hown (host := "") (Or.inl (oW hw 35 rfl)) Via.refl e0 F_number (g := (mkF m 1 #[.val (.ref a1)] [(.ref a1)])) rfl rfl (hb hby d3_1)
  refine oS (fun t k => st1 t k) ?_
  try clear st1
  refine oS (fun t k => XS.ifYes X1.here hx rfl (pc0 := 4) (pc' := 14) rfl (hb hby d3_4) rfl ((if0 _ _).trans (tlt hp).1) (by decide) (by decide) k) ?_
  show oG _ _ _ _ _ _ _ (T1.setTop (mkF m 14 #[.val (.ref a1)] []))
  refine oS (fun t k => XS.aloadN X1.here hx rfl (hb hby d3_14) rfl rfl k) ?_
  obtain ⟨T2, X2, e2, st2⟩ := getF X1 hx hZ hown (host := "") (Or.inl (oW hw 37 rfl)) Via.refl e1 F_op (g := (mkF m 15 #[.val (.ref a1)] [(.ref a1)])) rfl rfl (hb hby d3_15)
  refine oS (fun t k => st2 t k) ?_
  try clear st2 X1 e1
  try clear T1
  obtain ⟨cq3, kq3, q3a, q3b, q3c⟩ := isOf hZ e2 ((wE8 W).ext O0.2)
  obtain ⟨_, _, ⟨T3, L3, k3, n3⟩, -, X3, ⟨Lc3, hQ3, l3, y3, z3⟩, st3⟩ := X2.virtualBack hx (y := mY1) (z := mY1) hown (mvT hZ (oW hw 48 rfl)) (mvT hZ (oW hw 49 rfl)) (notFace_of_selects (args := #[]) (mvT hZ (oW hw 51 rfl))) (mvT hZ (oW hw 51 rfl)) (mvT hZ (oW hw 50 rfl)) (by decide) (backOf (W := 0) (rm_dd_HERE_DOCUMENT l Z a0 hw []  w h0 n0 O0 W ) hZ (oW hw 52 rfl) (oW hw 4 rfl) (by decide) (by decide)) q3a q3c (g := (mkF m 18 #[.val (.ref a1)] [(.ref (w 8))])) rfl (by rw [hml]; rfl) (Steps.refl _) (argsL := []) (rest := []) (lenOf pd_0 rfl) rfl (by show 2 * 0 + _ ≤ _; exact Nat.le_of_eq rfl) (hb hby d3_18) (fun _ _ => ⟨rfl, e2, (by decide : 0 + 0 ≤ _), (by decide : 0 + 0 ≤ _)⟩)
  dsimp only [Pt.U, Pt.locs, Pt.cells, Pt.slots] at X3 l3 y3 z3 st3 hQ3
  rw [l3, y3, z3] at X3
  clear l3 y3 z3
  obtain ⟨rfl, Nq3, e3⟩ := hQ3
  have N3 := Fr.app N0 Nq3
  refine oS (fun t k => st3.trans k) ?_
  show oG _ _ _ _ _ _ _ (T3.setTop (mkF m 21 #[.val (.ref a1)] [(.int 0)]))
  try clear st3 X2 e2
  try clear T2
  exact own_ret (v := some (.int 0)) X3 (fun h => by rw [Bd.returns] at h; cases h) Bd.notSynchronized (fun fs hr => retOut X3 hx (t := .int) Bd.returns rfl (Or.inl ⟨rfl, Or.inl rfl, _, rfl⟩) (hb hby d3_21) hr) (by rw [e3]; exact ⟨rfl, N3, rfl⟩) (by decide) (by decide)
def Q_desc_HERE_STRING (Z : State) (a1 : Addr) (p2 : Int32) (w : Nat → Addr) (h0 : Heap) (n0 : Nat) (v : Option Value) (h : Heap) (L : List Loc) : Prop := v = some (.int 0) ∧ Fr n0 L ∧ h = h0
set_option maxRecDepth 65536 in
set_option maxHeartbeats 40000000 in
theorem rm_desc_HERE_STRING (l : Launch) (Z : State) (a0 : Array Value) (hw : ∀ d ∈ tables_1, d.before a0 Z = true) (ws : List Jvm.Cond) (a1 : Addr) (p2 : Int32) (w : Nat → Addr) (h0 : Heap) (n0 : Nat) (O0 : Old Z n0 h0) (W : own_World Z w) (F_number : Fld Z h0 a1 "com/example/lamassu/lamassu/model/Redirection" "number" "I" (.int p2)) (F_op : Fld Z h0 a1 "com/example/lamassu/lamassu/model/Redirection" "operator" "Lcom/example/lamassu/lamassu/model/Redirection$Operator;" (.ref (w 9))) (hp : p2 < (0 : Int32)) :
    MetFree l mY2 (head1 (Jvm.Cond.code mY2 prog_140_method_2_code 1 (some .int) :: ws) ({ frames := 1, cells := 0, slots := 0, locals := 12 } : Room)) (fun a U => a = #[(.ref a1)] ∧ Z.Warmed39 U.vm ∧ U.heap = h0) (fun _ _ _ _ _ => True) (fun _ U o U' => ∃ v L, o = .returned v ∧ Q_desc_HERE_STRING Z a1 p2 w h0 n0 v U'.heap L ∧ FrameEnd U o U' L ({ frames := 1, cells := 0, slots := 0, locals := 12 } : Room).cells ({ frames := 1, cells := 0, slots := 0, locals := 12 } : Room).slots) := by
  refine MetFree.of_bodySF (plainFor_of_name pn_0) hisR ?_
  intro p e s m args below meth c s₁ Bd hml0 hP hK
  obtain ⟨rfl, hZ, hh⟩ := hP
  have hx := Bd.exec
  have hby := Bd.bytes
  have hml : c.maxLocals = 1 := hml0
  have hown : s.vm.findClass "com/example/lamassu/lamassu/model/Redirection" = some m.cls := findClass_of_methodNamed Bd.named
  have hnm := (name_of_methodNamed Bd.named Bd.method).1
  have X0 : Stand p l e ({ frames := 1, cells := 0, slots := 0, locals := 12 } : Room) s m #[(.ref a1)] below meth c s₁ [] 0 0 := Stand.of_body Bd
  have e0 : s₁.heap = h0 := by rw [← hh, Bd.state]; rfl
  have N0 := Fr.nil n0
  show oG p e below s (Q_desc_HERE_STRING Z a1 p2 w h0 n0) ({ frames := 1, cells := 0, slots := 0, locals := 12 } : Room).cells ({ frames := 1, cells := 0, slots := 0, locals := 12 } : Room).slots _
  refine oS (fun t k => castTop (ef_3_r m a1) k) ?_
  show oG _ _ _ _ _ _ _ (s₁.setTop (mkF m 0 #[.val (.ref a1)] []))
  refine oS (fun t k => XS.aloadN X0.here hx rfl (hb hby d3_0) rfl rfl k) ?_
  obtain ⟨T1, X1, e1, st1⟩ := getF X0 hx hZ hown (host := "") (Or.inl (oW hw 35 rfl)) Via.refl e0 F_number (g := (mkF m 1 #[.val (.ref a1)] [(.ref a1)])) rfl rfl (hb hby d3_1)
  refine oS (fun t k => st1 t k) ?_
  try clear st1
  refine oS (fun t k => XS.ifYes X1.here hx rfl (pc0 := 4) (pc' := 14) rfl (hb hby d3_4) rfl ((if0 _ _).trans (tlt hp).1) (by decide) (by decide) k) ?_
  show oG _ _ _ _ _ _ _ (T1.setTop (mkF m 14 #[.val (.ref a1)] []))
  refine oS (fun t k => XS.aloadN X1.here hx rfl (hb hby d3_14) rfl rfl k) ?_
  obtain ⟨T2, X2, e2, st2⟩ := getF X1 hx hZ hown (host := "") (Or.inl (oW hw 37 rfl)) Via.refl e1 F_op (g := (mkF m 15 #[.val (.ref a1)] [(.ref a1)])) rfl rfl (hb hby d3_15)
  refine oS (fun t k => st2 t k) ?_
  try clear st2 X1 e1
  try clear T1
  obtain ⟨cq3, kq3, q3a, q3b, q3c⟩ := isOf hZ e2 ((wE9 W).ext O0.2)
  obtain ⟨_, _, ⟨T3, L3, k3, n3⟩, -, X3, ⟨Lc3, hQ3, l3, y3, z3⟩, st3⟩ := X2.virtualBack hx (y := mY1) (z := mY1) hown (mvT hZ (oW hw 48 rfl)) (mvT hZ (oW hw 49 rfl)) (notFace_of_selects (args := #[]) (mvT hZ (oW hw 51 rfl))) (mvT hZ (oW hw 51 rfl)) (mvT hZ (oW hw 50 rfl)) (by decide) (backOf (W := 0) (rm_dd_HERE_STRING l Z a0 hw []  w h0 n0 O0 W ) hZ (oW hw 52 rfl) (oW hw 4 rfl) (by decide) (by decide)) q3a q3c (g := (mkF m 18 #[.val (.ref a1)] [(.ref (w 9))])) rfl (by rw [hml]; rfl) (Steps.refl _) (argsL := []) (rest := []) (lenOf pd_0 rfl) rfl (by show 2 * 0 + _ ≤ _; exact Nat.le_of_eq rfl) (hb hby d3_18) (fun _ _ => ⟨rfl, e2, (by decide : 0 + 0 ≤ _), (by decide : 0 + 0 ≤ _)⟩)
  dsimp only [Pt.U, Pt.locs, Pt.cells, Pt.slots] at X3 l3 y3 z3 st3 hQ3
  rw [l3, y3, z3] at X3
  clear l3 y3 z3
  obtain ⟨rfl, Nq3, e3⟩ := hQ3
  have N3 := Fr.app N0 Nq3
  refine oS (fun t k => st3.trans k) ?_
  show oG _ _ _ _ _ _ _ (T3.setTop (mkF m 21 #[.val (.ref a1)] [(.int 0)]))
  try clear st3 X2 e2
  try clear T2
  exact own_ret (v := some (.int 0)) X3 (fun h => by rw [Bd.returns] at h; cases h) Bd.notSynchronized (fun fs hr => retOut X3 hx (t := .int) Bd.returns rfl (Or.inl ⟨rfl, Or.inl rfl, _, rfl⟩) (hb hby d3_21) hr) (by rw [e3]; exact ⟨rfl, N3, rfl⟩) (by decide) (by decide)
theorem lb_10 : (Int8.ofInt (10)).toInt32 = (10 : Int32) := by decide
theorem li_0 : Int32.ofInt (0) = (0 : Int32) := by decide
theorem li_1 : Int32.ofInt (1) = (1 : Int32) := by decide
theorem li_2 : Int32.ofInt (2) = (2 : Int32) := by decide
theorem li_3 : Int32.ofInt (3) = (3 : Int32) := by decide
theorem li_4 : Int32.ofInt (4) = (4 : Int32) := by decide
theorem li_5 : Int32.ofInt (5) = (5 : Int32) := by decide
theorem lb_6 : (Int8.ofInt (6)).toInt32 = (6 : Int32) := by decide
theorem lb_7 : (Int8.ofInt (7)).toInt32 = (7 : Int32) := by decide
theorem lb_8 : (Int8.ofInt (8)).toInt32 = (8 : Int32) := by decide
theorem lb_9 : (Int8.ofInt (9)).toInt32 = (9 : Int32) := by decide
theorem pd_1 : parseMethodDescriptor "(ILcom/example/lamassu/lamassu/model/Redirection$Operator;Lcom/example/lamassu/lamassu/model/Word;Ljava/lang/String;)V" = some ⟨[.int, (.object "com/example/lamassu/lamassu/model/Redirection$Operator"), (.object "com/example/lamassu/lamassu/model/Word"), (.object "java/lang/String")], none⟩ := by decide +kernel
theorem ef_0_ii (m : MethodId) (x0 : Int32) (x1 : Int32) : entryFrame m #[(.int x0), (.int x1)] maxLocals = mkF m 0 #[.val (.int x0), .val (.int x1), .unset, .unset, .unset, .unset, .unset] [] := by first | (simp [entryFrame, mkF, argsToLocals, Value.category, maxLocals]; done) | rfl
theorem pn_2 : plainName "com/example/lamassu/lamassu/model/RedirectionDescriptorPinLaw" = true := by first | (simp [plainName, overriddenIn]; done) | decide +kernel
def Q_law (Z : State) (p1 : Int32) (p2 : Int32) (w : Nat → Addr) (h0 : Heap) (n0 : Nat) (v : Option Value) (h : Heap) (L : List Loc) : Prop := v = some (.int 1) ∧ Fr n0 L
set_option maxRecDepth 65536 in
set_option maxHeartbeats 40000000 in
theorem rm_law (l : Launch) (Z : State) (a0 : Array Value) (hw : ∀ d ∈ tables_1, d.before a0 Z = true) (ws : List Jvm.Cond) (p1 : Int32) (p2 : Int32) (w : Nat → Addr) (h0 : Heap) (n0 : Nat) (O0 : Old Z n0 h0) (W : own_World Z w) :
    MetFree l x (head1 (Jvm.Cond.code x code maxLocals ret :: ws) room_1) (fun a U => a = #[(.int p1), (.int p2)] ∧ Z.Warmed39 U.vm ∧ U.heap = h0) (fun _ _ _ _ _ => True) (fun _ U o U' => ∃ v L, o = .returned v ∧ Q_law Z p1 p2 w h0 n0 v U'.heap L ∧ FrameEnd U o U' L room_1.cells room_1.slots) := by
  refine MetFree.of_bodySF (plainFor_of_name pn_2) hisR ?_
  intro p e s m args below meth c s₁ Bd hml0 hP hK
  obtain ⟨rfl, hZ, hh⟩ := hP
  have hx := Bd.exec
  have hby := Bd.bytes
  have hml : c.maxLocals = 7 := hml0
  have hown : s.vm.findClass "com/example/lamassu/lamassu/model/RedirectionDescriptorPinLaw" = some m.cls := findClass_of_methodNamed Bd.named
  have hnm := (name_of_methodNamed Bd.named Bd.method).1
  have X0 : Stand p l e room_1 s m #[(.int p1), (.int p2)] below meth c s₁ [] 0 0 := Stand.of_body Bd
  have e0 : s₁.heap = h0 := by rw [← hh, Bd.state]; rfl
  have N0 := Fr.nil n0
  show oG p e below s (Q_law Z p1 p2 w h0 n0) room_1.cells room_1.slots _
  refine oS (fun t k => castTop (ef_0_ii m p1 p2) k) ?_
  show oG _ _ _ _ _ _ _ (s₁.setTop (mkF m 0 #[.val (.int p1), .val (.int p2), .unset, .unset, .unset, .unset, .unset] []))
  refine oS (fun t k => XS.iloadN X0.here hx rfl (hb hby at_0) rfl k) ?_
  refine oS (fun t k => X0.ldcInt hx hown (mvT hZ (oW hw 0 rfl)) (g := (mkF m 1 #[.val (.int p1), .val (.int p2), .unset, .unset, .unset, .unset, .unset] [(.int p2)])) rfl (hb hby at_1) t k) ?_
  refine oS (fun t k => XS.iand X0.here hx rfl (hb hby at_3) rfl k) ?_
  show oG _ _ _ _ _ _ _ (s₁.setTop (mkF m 4 #[.val (.int p1), .val (.int p2), .unset, .unset, .unset, .unset, .unset] [(.int (p2 &&& (2147483647 : Int32)))]))
  refine oS (fun t k => oBp lb_10 X0.here hx rfl (hb hby at_4) k) ?_
  refine oS (fun t k => iremM X0 hx rfl (hb hby at_6) rfl (by decide) k) ?_
  refine oS (fun t k => XS.istoreN X0.here hx rfl (hb hby at_7) rfl (l' := #[.val (.int p1), .val (.int p2), .val (.int ((p2 &&& (2147483647 : Int32)) % (10 : Int32))), .unset, .unset, .unset, .unset]) rfl k) ?_
  show oG _ _ _ _ _ _ _ (s₁.setTop (mkF m 8 #[.val (.int p1), .val (.int p2), .val (.int ((p2 &&& (2147483647 : Int32)) % (10 : Int32))), .unset, .unset, .unset, .unset] []))
  refine oS (fun t k => oBp lb_10 X0.here hx rfl (hb hby at_8) k) ?_
  obtain ⟨T1, h1, k1, X1, e1, E1, A1, O1v, st1⟩ := newR X0 hx hZ hown (oW hw 1 rfl) (oW hw 2 rfl) e0 (g := (mkF m 10 #[.val (.int p1), .val (.int p2), .val (.int ((p2 &&& (2147483647 : Int32)) % (10 : Int32))), .unset, .unset, .unset, .unset] [(.int 10)])) rfl (hb hby at_10) rfl (by decide) (cap := 10) (by decide) (by decide) (by decide) (by decide)
  obtain ⟨b1, g1⟩ : ∃ z, z = h0.size := ⟨_, rfl⟩
  rw [← g1] at A1 st1
  have V1 : Arv Z h1 b1 k1 (.object "com/example/lamassu/lamassu/model/Redirection$Operator") (10 : Int32) [.null, .null, .null, .null, .null, .null, .null, .null, .null, .null] .null := (Arv.new A1 (by decide)).pad (pad_rep [] .null 10)
  have gx1 : n0 ≤ b1 := Nat.le_trans (O0.1 ▸ O0.2.1) (Nat.le_of_eq g1.symm)
  have O1 := O0.ext E1
  refine oS (fun t k => st1 t k) ?_
  try clear st1
  refine oS (fun t k => XS.dup X1.here hx rfl (hb hby at_13) rfl rfl k) ?_
  show oG _ _ _ _ _ _ _ (T1.setTop (mkF m 14 #[.val (.int p1), .val (.int p2), .val (.int ((p2 &&& (2147483647 : Int32)) % (10 : Int32))), .unset, .unset, .unset, .unset] [(.ref b1), (.ref b1)]))
  refine oS (fun t k => oIc li_0 X1.here hx rfl (hb hby at_14) k) ?_
  obtain ⟨T2, X2, e2, st2⟩ := getS2 X1 hx hZ hown (host := "") (Or.inl (oW hw 3 rfl)) Via.refl e1 ((wS0 W).ext O1.2) (g := (mkF m 15 #[.val (.int p1), .val (.int p2), .val (.int ((p2 &&& (2147483647 : Int32)) % (10 : Int32))), .unset, .unset, .unset, .unset] [(.int 0), (.ref b1), (.ref b1)])) rfl (hb hby at_15)
  refine oS (fun t k => st2 t k) ?_
  try clear st2 X1 e1
  try clear T1
  obtain ⟨cl3, Ar3, qk3, Sz3, Ng3, Ha3, Gf3⟩ := id V1
  have hin3 : ¬ ((0 : Int32) < 0 ∨ cl3.slots.size ≤ ((0 : Int32)).toNatClampNeg) := inb_of Sz3 ⟨by decide, by decide⟩
  obtain ⟨T4, h4, X4, e4, W4, st4⟩ := stR X2 hx hZ e2 Ar3 (j := (0 : Int32)) hin3 rfl (Sto.ofV Ar3 qk3 O1v (Ins.self ((wE0 W).ext O1.2))) (g := (mkF m 18 #[.val (.int p1), .val (.int p2), .val (.int ((p2 &&& (2147483647 : Int32)) % (10 : Int32))), .unset, .unset, .unset, .unset] [(.ref (w 0)), (.int 0), (.ref b1), (.ref b1)])) rfl rfl (hb hby at_18)
  have O4 := O1.wr W4 gx1
  have N4 := Fr.snoc X4 N0 gx1
  have V4 : Arv Z h4 b1 k1 (.object "com/example/lamassu/lamassu/model/Redirection$Operator") (10 : Int32) [(.ref (w 0)), .null, .null, .null, .null, .null, .null, .null, .null, .null] .null := Arv.set Ar3 qk3 Sz3 Ng3 Ha3 Gf3 rfl W4 0 rfl (Nat.le_of_ble_eq_true rfl)
  clear hin3 Gf3 Ha3 Ng3 Sz3 qk3 Ar3 cl3
  refine oS (fun t k => st4 t k) ?_
  show oG _ _ _ _ _ _ _ (T4.setTop (mkF m 19 #[.val (.int p1), .val (.int p2), .val (.int ((p2 &&& (2147483647 : Int32)) % (10 : Int32))), .unset, .unset, .unset, .unset] [(.ref b1)]))
  try clear st4 X2 e2
  try clear T2
  refine oS (fun t k => XS.dup X4.here hx rfl (hb hby at_19) rfl rfl k) ?_
  refine oS (fun t k => oIc li_1 X4.here hx rfl (hb hby at_20) k) ?_
  obtain ⟨T5, X5, e5, st5⟩ := getS2 X4 hx hZ hown (host := "") (Or.inl (oW hw 7 rfl)) Via.refl e4 ((wS1 W).ext O4.2) (g := (mkF m 21 #[.val (.int p1), .val (.int p2), .val (.int ((p2 &&& (2147483647 : Int32)) % (10 : Int32))), .unset, .unset, .unset, .unset] [(.int 1), (.ref b1), (.ref b1)])) rfl (hb hby at_21)
  refine oS (fun t k => st5 t k) ?_
  show oG _ _ _ _ _ _ _ (T5.setTop (mkF m 24 #[.val (.int p1), .val (.int p2), .val (.int ((p2 &&& (2147483647 : Int32)) % (10 : Int32))), .unset, .unset, .unset, .unset] [(.ref (w 1)), (.int 1), (.ref b1), (.ref b1)]))
  try clear st5 X4 e4
  try clear T4
  obtain ⟨cl6, Ar6, qk6, Sz6, Ng6, Ha6, Gf6⟩ := id V4
  have hin6 : ¬ ((1 : Int32) < 0 ∨ cl6.slots.size ≤ ((1 : Int32)).toNatClampNeg) := inb_of Sz6 ⟨by decide, by decide⟩
  obtain ⟨T7, h7, X7, e7, W7, st7⟩ := stR X5 hx hZ e5 Ar6 (j := (1 : Int32)) hin6 rfl (Sto.ofV Ar6 qk6 O1v (Ins.self ((wE1 W).ext O4.2))) (g := (mkF m 24 #[.val (.int p1), .val (.int p2), .val (.int ((p2 &&& (2147483647 : Int32)) % (10 : Int32))), .unset, .unset, .unset, .unset] [(.ref (w 1)), (.int 1), (.ref b1), (.ref b1)])) rfl rfl (hb hby at_24)
  have O7 := O4.wr W7 gx1
  have N7 := Fr.snoc X7 N4 gx1
  have V7 : Arv Z h7 b1 k1 (.object "com/example/lamassu/lamassu/model/Redirection$Operator") (10 : Int32) [(.ref (w 0)), (.ref (w 1)), .null, .null, .null, .null, .null, .null, .null, .null] .null := Arv.set Ar6 qk6 Sz6 Ng6 Ha6 Gf6 rfl W7 1 rfl (Nat.le_of_ble_eq_true rfl)
  clear hin6 Gf6 Ha6 Ng6 Sz6 qk6 Ar6 cl6
  refine oS (fun t k => st7 t k) ?_
  try clear st7 X5 e5
  try clear T5
  refine oS (fun t k => XS.dup X7.here hx rfl (hb hby at_25) rfl rfl k) ?_
  refine oS (fun t k => oIc li_2 X7.here hx rfl (hb hby at_26) k) ?_
  show oG _ _ _ _ _ _ _ (T7.setTop (mkF m 27 #[.val (.int p1), .val (.int p2), .val (.int ((p2 &&& (2147483647 : Int32)) % (10 : Int32))), .unset, .unset, .unset, .unset] [(.int 2), (.ref b1), (.ref b1)]))
  obtain ⟨T8, X8, e8, st8⟩ := getS2 X7 hx hZ hown (host := "") (Or.inl (oW hw 9 rfl)) Via.refl e7 ((wS2 W).ext O7.2) (g := (mkF m 27 #[.val (.int p1), .val (.int p2), .val (.int ((p2 &&& (2147483647 : Int32)) % (10 : Int32))), .unset, .unset, .unset, .unset] [(.int 2), (.ref b1), (.ref b1)])) rfl (hb hby at_27)
  refine oS (fun t k => st8 t k) ?_
  try clear st8 X7 e7
  try clear T7
  obtain ⟨cl9, Ar9, qk9, Sz9, Ng9, Ha9, Gf9⟩ := id V7
  have hin9 : ¬ ((2 : Int32) < 0 ∨ cl9.slots.size ≤ ((2 : Int32)).toNatClampNeg) := inb_of Sz9 ⟨by decide, by decide⟩
  obtain ⟨T10, h10, X10, e10, W10, st10⟩ := stR X8 hx hZ e8 Ar9 (j := (2 : Int32)) hin9 rfl (Sto.ofV Ar9 qk9 O1v (Ins.self ((wE2 W).ext O7.2))) (g := (mkF m 30 #[.val (.int p1), .val (.int p2), .val (.int ((p2 &&& (2147483647 : Int32)) % (10 : Int32))), .unset, .unset, .unset, .unset] [(.ref (w 2)), (.int 2), (.ref b1), (.ref b1)])) rfl rfl (hb hby at_30)
  have O10 := O7.wr W10 gx1
  have N10 := Fr.snoc X10 N7 gx1
  have V10 : Arv Z h10 b1 k1 (.object "com/example/lamassu/lamassu/model/Redirection$Operator") (10 : Int32) [(.ref (w 0)), (.ref (w 1)), (.ref (w 2)), .null, .null, .null, .null, .null, .null, .null] .null := Arv.set Ar9 qk9 Sz9 Ng9 Ha9 Gf9 rfl W10 2 rfl (Nat.le_of_ble_eq_true rfl)
  clear hin9 Gf9 Ha9 Ng9 Sz9 qk9 Ar9 cl9
  refine oS (fun t k => st10 t k) ?_
  try clear st10 X8 e8
  try clear T8
  refine oS (fun t k => XS.dup X10.here hx rfl (hb hby at_31) rfl rfl k) ?_
  show oG _ _ _ _ _ _ _ (T10.setTop (mkF m 32 #[.val (.int p1), .val (.int p2), .val (.int ((p2 &&& (2147483647 : Int32)) % (10 : Int32))), .unset, .unset, .unset, .unset] [(.ref b1), (.ref b1)]))
  refine oS (fun t k => oIc li_3 X10.here hx rfl (hb hby at_32) k) ?_
  obtain ⟨T11, X11, e11, st11⟩ := getS2 X10 hx hZ hown (host := "") (Or.inl (oW hw 11 rfl)) Via.refl e10 ((wS3 W).ext O10.2) (g := (mkF m 33 #[.val (.int p1), .val (.int p2), .val (.int ((p2 &&& (2147483647 : Int32)) % (10 : Int32))), .unset, .unset, .unset, .unset] [(.int 3), (.ref b1), (.ref b1)])) rfl (hb hby at_33)
  refine oS (fun t k => st11 t k) ?_
  try clear st11 X10 e10
  try clear T10
  obtain ⟨cl12, Ar12, qk12, Sz12, Ng12, Ha12, Gf12⟩ := id V10
  have hin12 : ¬ ((3 : Int32) < 0 ∨ cl12.slots.size ≤ ((3 : Int32)).toNatClampNeg) := inb_of Sz12 ⟨by decide, by decide⟩
  obtain ⟨T13, h13, X13, e13, W13, st13⟩ := stR X11 hx hZ e11 Ar12 (j := (3 : Int32)) hin12 rfl (Sto.ofV Ar12 qk12 O1v (Ins.self ((wE3 W).ext O10.2))) (g := (mkF m 36 #[.val (.int p1), .val (.int p2), .val (.int ((p2 &&& (2147483647 : Int32)) % (10 : Int32))), .unset, .unset, .unset, .unset] [(.ref (w 3)), (.int 3), (.ref b1), (.ref b1)])) rfl rfl (hb hby at_36)
  have O13 := O10.wr W13 gx1
  have N13 := Fr.snoc X13 N10 gx1
  have V13 : Arv Z h13 b1 k1 (.object "com/example/lamassu/lamassu/model/Redirection$Operator") (10 : Int32) [(.ref (w 0)), (.ref (w 1)), (.ref (w 2)), (.ref (w 3)), .null, .null, .null, .null, .null, .null] .null := Arv.set Ar12 qk12 Sz12 Ng12 Ha12 Gf12 rfl W13 3 rfl (Nat.le_of_ble_eq_true rfl)
  clear hin12 Gf12 Ha12 Ng12 Sz12 qk12 Ar12 cl12
  refine oS (fun t k => st13 t k) ?_
  show oG _ _ _ _ _ _ _ (T13.setTop (mkF m 37 #[.val (.int p1), .val (.int p2), .val (.int ((p2 &&& (2147483647 : Int32)) % (10 : Int32))), .unset, .unset, .unset, .unset] [(.ref b1)]))
  try clear st13 X11 e11
  try clear T11
  refine oS (fun t k => XS.dup X13.here hx rfl (hb hby at_37) rfl rfl k) ?_
  refine oS (fun t k => oIc li_4 X13.here hx rfl (hb hby at_38) k) ?_
  obtain ⟨T14, X14, e14, st14⟩ := getS2 X13 hx hZ hown (host := "") (Or.inl (oW hw 13 rfl)) Via.refl e13 ((wS4 W).ext O13.2) (g := (mkF m 39 #[.val (.int p1), .val (.int p2), .val (.int ((p2 &&& (2147483647 : Int32)) % (10 : Int32))), .unset, .unset, .unset, .unset] [(.int 4), (.ref b1), (.ref b1)])) rfl (hb hby at_39)
  refine oS (fun t k => st14 t k) ?_
  show oG _ _ _ _ _ _ _ (T14.setTop (mkF m 42 #[.val (.int p1), .val (.int p2), .val (.int ((p2 &&& (2147483647 : Int32)) % (10 : Int32))), .unset, .unset, .unset, .unset] [(.ref (w 4)), (.int 4), (.ref b1), (.ref b1)]))
  try clear st14 X13 e13
  try clear T13
  obtain ⟨cl15, Ar15, qk15, Sz15, Ng15, Ha15, Gf15⟩ := id V13
  have hin15 : ¬ ((4 : Int32) < 0 ∨ cl15.slots.size ≤ ((4 : Int32)).toNatClampNeg) := inb_of Sz15 ⟨by decide, by decide⟩
  obtain ⟨T16, h16, X16, e16, W16, st16⟩ := stR X14 hx hZ e14 Ar15 (j := (4 : Int32)) hin15 rfl (Sto.ofV Ar15 qk15 O1v (Ins.self ((wE4 W).ext O13.2))) (g := (mkF m 42 #[.val (.int p1), .val (.int p2), .val (.int ((p2 &&& (2147483647 : Int32)) % (10 : Int32))), .unset, .unset, .unset, .unset] [(.ref (w 4)), (.int 4), (.ref b1), (.ref b1)])) rfl rfl (hb hby at_42)
  have O16 := O13.wr W16 gx1
  have N16 := Fr.snoc X16 N13 gx1
  have V16 : Arv Z h16 b1 k1 (.object "com/example/lamassu/lamassu/model/Redirection$Operator") (10 : Int32) [(.ref (w 0)), (.ref (w 1)), (.ref (w 2)), (.ref (w 3)), (.ref (w 4)), .null, .null, .null, .null, .null] .null := Arv.set Ar15 qk15 Sz15 Ng15 Ha15 Gf15 rfl W16 4 rfl (Nat.le_of_ble_eq_true rfl)
  clear hin15 Gf15 Ha15 Ng15 Sz15 qk15 Ar15 cl15
  refine oS (fun t k => st16 t k) ?_
  try clear st16 X14 e14
  try clear T14
  refine oS (fun t k => XS.dup X16.here hx rfl (hb hby at_43) rfl rfl k) ?_
  refine oS (fun t k => oIc li_5 X16.here hx rfl (hb hby at_44) k) ?_
  show oG _ _ _ _ _ _ _ (T16.setTop (mkF m 45 #[.val (.int p1), .val (.int p2), .val (.int ((p2 &&& (2147483647 : Int32)) % (10 : Int32))), .unset, .unset, .unset, .unset] [(.int 5), (.ref b1), (.ref b1)]))
  obtain ⟨T17, X17, e17, st17⟩ := getS2 X16 hx hZ hown (host := "") (Or.inl (oW hw 15 rfl)) Via.refl e16 ((wS5 W).ext O16.2) (g := (mkF m 45 #[.val (.int p1), .val (.int p2), .val (.int ((p2 &&& (2147483647 : Int32)) % (10 : Int32))), .unset, .unset, .unset, .unset] [(.int 5), (.ref b1), (.ref b1)])) rfl (hb hby at_45)
  refine oS (fun t k => st17 t k) ?_
  try clear st17 X16 e16
  try clear T16
  obtain ⟨cl18, Ar18, qk18, Sz18, Ng18, Ha18, Gf18⟩ := id V16
  have hin18 : ¬ ((5 : Int32) < 0 ∨ cl18.slots.size ≤ ((5 : Int32)).toNatClampNeg) := inb_of Sz18 ⟨by decide, by decide⟩
  obtain ⟨T19, h19, X19, e19, W19, st19⟩ := stR X17 hx hZ e17 Ar18 (j := (5 : Int32)) hin18 rfl (Sto.ofV Ar18 qk18 O1v (Ins.self ((wE5 W).ext O16.2))) (g := (mkF m 48 #[.val (.int p1), .val (.int p2), .val (.int ((p2 &&& (2147483647 : Int32)) % (10 : Int32))), .unset, .unset, .unset, .unset] [(.ref (w 5)), (.int 5), (.ref b1), (.ref b1)])) rfl rfl (hb hby at_48)
  have O19 := O16.wr W19 gx1
  have N19 := Fr.snoc X19 N16 gx1
  have V19 : Arv Z h19 b1 k1 (.object "com/example/lamassu/lamassu/model/Redirection$Operator") (10 : Int32) [(.ref (w 0)), (.ref (w 1)), (.ref (w 2)), (.ref (w 3)), (.ref (w 4)), (.ref (w 5)), .null, .null, .null, .null] .null := Arv.set Ar18 qk18 Sz18 Ng18 Ha18 Gf18 rfl W19 5 rfl (Nat.le_of_ble_eq_true rfl)
  clear hin18 Gf18 Ha18 Ng18 Sz18 qk18 Ar18 cl18
  refine oS (fun t k => st19 t k) ?_
  try clear st19 X17 e17
  try clear T17
  refine oS (fun t k => XS.dup X19.here hx rfl (hb hby at_49) rfl rfl k) ?_
  show oG _ _ _ _ _ _ _ (T19.setTop (mkF m 50 #[.val (.int p1), .val (.int p2), .val (.int ((p2 &&& (2147483647 : Int32)) % (10 : Int32))), .unset, .unset, .unset, .unset] [(.ref b1), (.ref b1)]))
  refine oS (fun t k => oBp lb_6 X19.here hx rfl (hb hby at_50) k) ?_
  obtain ⟨T20, X20, e20, st20⟩ := getS2 X19 hx hZ hown (host := "") (Or.inl (oW hw 17 rfl)) Via.refl e19 ((wS6 W).ext O19.2) (g := (mkF m 52 #[.val (.int p1), .val (.int p2), .val (.int ((p2 &&& (2147483647 : Int32)) % (10 : Int32))), .unset, .unset, .unset, .unset] [(.int 6), (.ref b1), (.ref b1)])) rfl (hb hby at_52)
  refine oS (fun t k => st20 t k) ?_
  try clear st20 X19 e19
  try clear T19
  obtain ⟨cl21, Ar21, qk21, Sz21, Ng21, Ha21, Gf21⟩ := id V19
  have hin21 : ¬ ((6 : Int32) < 0 ∨ cl21.slots.size ≤ ((6 : Int32)).toNatClampNeg) := inb_of Sz21 ⟨by decide, by decide⟩
  obtain ⟨T22, h22, X22, e22, W22, st22⟩ := stR X20 hx hZ e20 Ar21 (j := (6 : Int32)) hin21 rfl (Sto.ofV Ar21 qk21 O1v (Ins.self ((wE6 W).ext O19.2))) (g := (mkF m 55 #[.val (.int p1), .val (.int p2), .val (.int ((p2 &&& (2147483647 : Int32)) % (10 : Int32))), .unset, .unset, .unset, .unset] [(.ref (w 6)), (.int 6), (.ref b1), (.ref b1)])) rfl rfl (hb hby at_55)
  have O22 := O19.wr W22 gx1
  have N22 := Fr.snoc X22 N19 gx1
  have V22 : Arv Z h22 b1 k1 (.object "com/example/lamassu/lamassu/model/Redirection$Operator") (10 : Int32) [(.ref (w 0)), (.ref (w 1)), (.ref (w 2)), (.ref (w 3)), (.ref (w 4)), (.ref (w 5)), (.ref (w 6)), .null, .null, .null] .null := Arv.set Ar21 qk21 Sz21 Ng21 Ha21 Gf21 rfl W22 6 rfl (Nat.le_of_ble_eq_true rfl)
  clear hin21 Gf21 Ha21 Ng21 Sz21 qk21 Ar21 cl21
  refine oS (fun t k => st22 t k) ?_
  show oG _ _ _ _ _ _ _ (T22.setTop (mkF m 56 #[.val (.int p1), .val (.int p2), .val (.int ((p2 &&& (2147483647 : Int32)) % (10 : Int32))), .unset, .unset, .unset, .unset] [(.ref b1)]))
  try clear st22 X20 e20
  try clear T20
  refine oS (fun t k => XS.dup X22.here hx rfl (hb hby at_56) rfl rfl k) ?_
  refine oS (fun t k => oBp lb_7 X22.here hx rfl (hb hby at_57) k) ?_
  obtain ⟨T23, X23, e23, st23⟩ := getS2 X22 hx hZ hown (host := "") (Or.inl (oW hw 19 rfl)) Via.refl e22 ((wS7 W).ext O22.2) (g := (mkF m 59 #[.val (.int p1), .val (.int p2), .val (.int ((p2 &&& (2147483647 : Int32)) % (10 : Int32))), .unset, .unset, .unset, .unset] [(.int 7), (.ref b1), (.ref b1)])) rfl (hb hby at_59)
  refine oS (fun t k => st23 t k) ?_
  show oG _ _ _ _ _ _ _ (T23.setTop (mkF m 62 #[.val (.int p1), .val (.int p2), .val (.int ((p2 &&& (2147483647 : Int32)) % (10 : Int32))), .unset, .unset, .unset, .unset] [(.ref (w 7)), (.int 7), (.ref b1), (.ref b1)]))
  try clear st23 X22 e22
  try clear T22
  obtain ⟨cl24, Ar24, qk24, Sz24, Ng24, Ha24, Gf24⟩ := id V22
  have hin24 : ¬ ((7 : Int32) < 0 ∨ cl24.slots.size ≤ ((7 : Int32)).toNatClampNeg) := inb_of Sz24 ⟨by decide, by decide⟩
  obtain ⟨T25, h25, X25, e25, W25, st25⟩ := stR X23 hx hZ e23 Ar24 (j := (7 : Int32)) hin24 rfl (Sto.ofV Ar24 qk24 O1v (Ins.self ((wE7 W).ext O22.2))) (g := (mkF m 62 #[.val (.int p1), .val (.int p2), .val (.int ((p2 &&& (2147483647 : Int32)) % (10 : Int32))), .unset, .unset, .unset, .unset] [(.ref (w 7)), (.int 7), (.ref b1), (.ref b1)])) rfl rfl (hb hby at_62)
  have O25 := O22.wr W25 gx1
  have N25 := Fr.snoc X25 N22 gx1
  have V25 : Arv Z h25 b1 k1 (.object "com/example/lamassu/lamassu/model/Redirection$Operator") (10 : Int32) [(.ref (w 0)), (.ref (w 1)), (.ref (w 2)), (.ref (w 3)), (.ref (w 4)), (.ref (w 5)), (.ref (w 6)), (.ref (w 7)), .null, .null] .null := Arv.set Ar24 qk24 Sz24 Ng24 Ha24 Gf24 rfl W25 7 rfl (Nat.le_of_ble_eq_true rfl)
  clear hin24 Gf24 Ha24 Ng24 Sz24 qk24 Ar24 cl24
  refine oS (fun t k => st25 t k) ?_
  try clear st25 X23 e23
  try clear T23
  refine oS (fun t k => XS.dup X25.here hx rfl (hb hby at_63) rfl rfl k) ?_
  refine oS (fun t k => oBp lb_8 X25.here hx rfl (hb hby at_64) k) ?_
  show oG _ _ _ _ _ _ _ (T25.setTop (mkF m 66 #[.val (.int p1), .val (.int p2), .val (.int ((p2 &&& (2147483647 : Int32)) % (10 : Int32))), .unset, .unset, .unset, .unset] [(.int 8), (.ref b1), (.ref b1)]))
  obtain ⟨T26, X26, e26, st26⟩ := getS2 X25 hx hZ hown (host := "") (Or.inl (oW hw 21 rfl)) Via.refl e25 ((wS8 W).ext O25.2) (g := (mkF m 66 #[.val (.int p1), .val (.int p2), .val (.int ((p2 &&& (2147483647 : Int32)) % (10 : Int32))), .unset, .unset, .unset, .unset] [(.int 8), (.ref b1), (.ref b1)])) rfl (hb hby at_66)
  refine oS (fun t k => st26 t k) ?_
  try clear st26 X25 e25
  try clear T25
  obtain ⟨cl27, Ar27, qk27, Sz27, Ng27, Ha27, Gf27⟩ := id V25
  have hin27 : ¬ ((8 : Int32) < 0 ∨ cl27.slots.size ≤ ((8 : Int32)).toNatClampNeg) := inb_of Sz27 ⟨by decide, by decide⟩
  obtain ⟨T28, h28, X28, e28, W28, st28⟩ := stR X26 hx hZ e26 Ar27 (j := (8 : Int32)) hin27 rfl (Sto.ofV Ar27 qk27 O1v (Ins.self ((wE8 W).ext O25.2))) (g := (mkF m 69 #[.val (.int p1), .val (.int p2), .val (.int ((p2 &&& (2147483647 : Int32)) % (10 : Int32))), .unset, .unset, .unset, .unset] [(.ref (w 8)), (.int 8), (.ref b1), (.ref b1)])) rfl rfl (hb hby at_69)
  have O28 := O25.wr W28 gx1
  have N28 := Fr.snoc X28 N25 gx1
  have V28 : Arv Z h28 b1 k1 (.object "com/example/lamassu/lamassu/model/Redirection$Operator") (10 : Int32) [(.ref (w 0)), (.ref (w 1)), (.ref (w 2)), (.ref (w 3)), (.ref (w 4)), (.ref (w 5)), (.ref (w 6)), (.ref (w 7)), (.ref (w 8)), .null] .null := Arv.set Ar27 qk27 Sz27 Ng27 Ha27 Gf27 rfl W28 8 rfl (Nat.le_of_ble_eq_true rfl)
  clear hin27 Gf27 Ha27 Ng27 Sz27 qk27 Ar27 cl27
  refine oS (fun t k => st28 t k) ?_
  try clear st28 X26 e26
  try clear T26
  refine oS (fun t k => XS.dup X28.here hx rfl (hb hby at_70) rfl rfl k) ?_
  show oG _ _ _ _ _ _ _ (T28.setTop (mkF m 71 #[.val (.int p1), .val (.int p2), .val (.int ((p2 &&& (2147483647 : Int32)) % (10 : Int32))), .unset, .unset, .unset, .unset] [(.ref b1), (.ref b1)]))
  refine oS (fun t k => oBp lb_9 X28.here hx rfl (hb hby at_71) k) ?_
  obtain ⟨T29, X29, e29, st29⟩ := getS2 X28 hx hZ hown (host := "") (Or.inl (oW hw 23 rfl)) Via.refl e28 ((wS9 W).ext O28.2) (g := (mkF m 73 #[.val (.int p1), .val (.int p2), .val (.int ((p2 &&& (2147483647 : Int32)) % (10 : Int32))), .unset, .unset, .unset, .unset] [(.int 9), (.ref b1), (.ref b1)])) rfl (hb hby at_73)
  refine oS (fun t k => st29 t k) ?_
  try clear st29 X28 e28
  try clear T28
  obtain ⟨cl30, Ar30, qk30, Sz30, Ng30, Ha30, Gf30⟩ := id V28
  have hin30 : ¬ ((9 : Int32) < 0 ∨ cl30.slots.size ≤ ((9 : Int32)).toNatClampNeg) := inb_of Sz30 ⟨by decide, by decide⟩
  obtain ⟨T31, h31, X31, e31, W31, st31⟩ := stR X29 hx hZ e29 Ar30 (j := (9 : Int32)) hin30 rfl (Sto.ofV Ar30 qk30 O1v (Ins.self ((wE9 W).ext O28.2))) (g := (mkF m 76 #[.val (.int p1), .val (.int p2), .val (.int ((p2 &&& (2147483647 : Int32)) % (10 : Int32))), .unset, .unset, .unset, .unset] [(.ref (w 9)), (.int 9), (.ref b1), (.ref b1)])) rfl rfl (hb hby at_76)
  have O31 := O28.wr W31 gx1
  have N31 := Fr.snoc X31 N28 gx1
  have V31 : Arv Z h31 b1 k1 (.object "com/example/lamassu/lamassu/model/Redirection$Operator") (10 : Int32) [(.ref (w 0)), (.ref (w 1)), (.ref (w 2)), (.ref (w 3)), (.ref (w 4)), (.ref (w 5)), (.ref (w 6)), (.ref (w 7)), (.ref (w 8)), (.ref (w 9))] .null := Arv.set Ar30 qk30 Sz30 Ng30 Ha30 Gf30 rfl W31 9 rfl (Nat.le_of_ble_eq_true rfl)
  clear hin30 Gf30 Ha30 Ng30 Sz30 qk30 Ar30 cl30
  refine oS (fun t k => st31 t k) ?_
  show oG _ _ _ _ _ _ _ (T31.setTop (mkF m 77 #[.val (.int p1), .val (.int p2), .val (.int ((p2 &&& (2147483647 : Int32)) % (10 : Int32))), .unset, .unset, .unset, .unset] [(.ref b1)]))
  try clear st31 X29 e29
  try clear T29
  refine oS (fun t k => XS.astoreN X31.here hx rfl (hb hby at_77) rfl rfl (l' := #[.val (.int p1), .val (.int p2), .val (.int ((p2 &&& (2147483647 : Int32)) % (10 : Int32))), .val (.ref b1), .unset, .unset, .unset]) rfl k) ?_
  refine oS (fun t k => oBp lb_10 X31.here hx rfl (hb hby at_78) k) ?_
  obtain ⟨T32, h32, k32, X32, e32, E32, A32, st32⟩ := newP X31 hx hZ (oW hw 25 rfl) e31 (g := (mkF m 80 #[.val (.int p1), .val (.int p2), .val (.int ((p2 &&& (2147483647 : Int32)) % (10 : Int32))), .val (.ref b1), .unset, .unset, .unset] [(.int 10)])) rfl (hb hby at_80) rfl (by decide) (cap := 10) (by decide) (by decide) (by decide) (by decide)
  obtain ⟨b32, g32⟩ : ∃ z, z = h31.size := ⟨_, rfl⟩
  rw [← g32] at A32 st32
  have V32 : Arv Z h32 b32 k32 .int (10 : Int32) [(.int 0), (.int 0), (.int 0), (.int 0), (.int 0), (.int 0), (.int 0), (.int 0), (.int 0), (.int 0)] (.int 0) := (Arv.new A32 (by decide)).pad (pad_rep [] (.int 0) 10)
  have gx32 : n0 ≤ b32 := Nat.le_trans (O31.1 ▸ O31.2.1) (Nat.le_of_eq g32.symm)
  have ne_b1_b32 : b1 ≠ b32 := Nat.ne_of_lt (Nat.lt_of_lt_of_le V31.lt (Nat.le_of_eq g32.symm))
  have O32 := O31.ext E32
  refine oS (fun t k => st32 t k) ?_
  show oG _ _ _ _ _ _ _ (T32.setTop (mkF m 82 #[.val (.int p1), .val (.int p2), .val (.int ((p2 &&& (2147483647 : Int32)) % (10 : Int32))), .val (.ref b1), .unset, .unset, .unset] [(.ref b32)]))
  try clear st32 X31 e31
  try clear T31
  refine oS (fun t k => XS.dup X32.here hx rfl (hb hby at_82) rfl rfl k) ?_
  refine oS (fun t k => oIc li_0 X32.here hx rfl (hb hby at_83) k) ?_
  refine oS (fun t k => oIc li_0 X32.here hx rfl (hb hby at_84) k) ?_
  show oG _ _ _ _ _ _ _ (T32.setTop (mkF m 85 #[.val (.int p1), .val (.int p2), .val (.int ((p2 &&& (2147483647 : Int32)) % (10 : Int32))), .val (.ref b1), .unset, .unset, .unset] [(.int 0), (.int 0), (.ref b32), (.ref b32)]))
  obtain ⟨cl33, Ar33, qk33, Sz33, Ng33, Ha33, Gf33⟩ := id V32
  have hin33 : ¬ ((0 : Int32) < 0 ∨ cl33.slots.size ≤ ((0 : Int32)).toNatClampNeg) := inb_of Sz33 ⟨by decide, by decide⟩
  obtain ⟨T34, h34, X34, e34, W34, st34⟩ := stI X32 hx hZ e32 Ar33 (j := (0 : Int32)) hin33 (g := (mkF m 85 #[.val (.int p1), .val (.int p2), .val (.int ((p2 &&& (2147483647 : Int32)) % (10 : Int32))), .val (.ref b1), .unset, .unset, .unset] [(.int 0), (.int 0), (.ref b32), (.ref b32)])) rfl rfl (hb hby at_85)
  have O34 := O32.wr W34 gx32
  have N34 := Fr.snoc X34 N31 gx32
  have V34 : Arv Z h34 b32 k32 .int (10 : Int32) [(.int 0), (.int 0), (.int 0), (.int 0), (.int 0), (.int 0), (.int 0), (.int 0), (.int 0), (.int 0)] (.int 0) := Arv.set Ar33 qk33 Sz33 Ng33 Ha33 Gf33 rfl W34 0 rfl (Nat.le_of_ble_eq_true rfl)
  clear hin33 Gf33 Ha33 Ng33 Sz33 qk33 Ar33 cl33
  refine oS (fun t k => st34 t k) ?_
  try clear st34 X32 e32
  try clear T32
  refine oS (fun t k => XS.dup X34.here hx rfl (hb hby at_86) rfl rfl k) ?_
  refine oS (fun t k => oIc li_1 X34.here hx rfl (hb hby at_87) k) ?_
  show oG _ _ _ _ _ _ _ (T34.setTop (mkF m 88 #[.val (.int p1), .val (.int p2), .val (.int ((p2 &&& (2147483647 : Int32)) % (10 : Int32))), .val (.ref b1), .unset, .unset, .unset] [(.int 1), (.ref b32), (.ref b32)]))
  refine oS (fun t k => oIc li_1 X34.here hx rfl (hb hby at_88) k) ?_
  obtain ⟨cl35, Ar35, qk35, Sz35, Ng35, Ha35, Gf35⟩ := id V34
  have hin35 : ¬ ((1 : Int32) < 0 ∨ cl35.slots.size ≤ ((1 : Int32)).toNatClampNeg) := inb_of Sz35 ⟨by decide, by decide⟩
  obtain ⟨T36, h36, X36, e36, W36, st36⟩ := stI X34 hx hZ e34 Ar35 (j := (1 : Int32)) hin35 (g := (mkF m 89 #[.val (.int p1), .val (.int p2), .val (.int ((p2 &&& (2147483647 : Int32)) % (10 : Int32))), .val (.ref b1), .unset, .unset, .unset] [(.int 1), (.int 1), (.ref b32), (.ref b32)])) rfl rfl (hb hby at_89)
  have O36 := O34.wr W36 gx32
  have N36 := Fr.snoc X36 N34 gx32
  have V36 : Arv Z h36 b32 k32 .int (10 : Int32) [(.int 0), (.int 1), (.int 0), (.int 0), (.int 0), (.int 0), (.int 0), (.int 0), (.int 0), (.int 0)] (.int 0) := Arv.set Ar35 qk35 Sz35 Ng35 Ha35 Gf35 rfl W36 1 rfl (Nat.le_of_ble_eq_true rfl)
  clear hin35 Gf35 Ha35 Ng35 Sz35 qk35 Ar35 cl35
  refine oS (fun t k => st36 t k) ?_
  try clear st36 X34 e34
  try clear T34
  refine oS (fun t k => XS.dup X36.here hx rfl (hb hby at_90) rfl rfl k) ?_
  show oG _ _ _ _ _ _ _ (T36.setTop (mkF m 91 #[.val (.int p1), .val (.int p2), .val (.int ((p2 &&& (2147483647 : Int32)) % (10 : Int32))), .val (.ref b1), .unset, .unset, .unset] [(.ref b32), (.ref b32)]))
  refine oS (fun t k => oIc li_2 X36.here hx rfl (hb hby at_91) k) ?_
  refine oS (fun t k => oIc li_1 X36.here hx rfl (hb hby at_92) k) ?_
  obtain ⟨cl37, Ar37, qk37, Sz37, Ng37, Ha37, Gf37⟩ := id V36
  have hin37 : ¬ ((2 : Int32) < 0 ∨ cl37.slots.size ≤ ((2 : Int32)).toNatClampNeg) := inb_of Sz37 ⟨by decide, by decide⟩
  obtain ⟨T38, h38, X38, e38, W38, st38⟩ := stI X36 hx hZ e36 Ar37 (j := (2 : Int32)) hin37 (g := (mkF m 93 #[.val (.int p1), .val (.int p2), .val (.int ((p2 &&& (2147483647 : Int32)) % (10 : Int32))), .val (.ref b1), .unset, .unset, .unset] [(.int 1), (.int 2), (.ref b32), (.ref b32)])) rfl rfl (hb hby at_93)
  have O38 := O36.wr W38 gx32
  have N38 := Fr.snoc X38 N36 gx32
  have V38 : Arv Z h38 b32 k32 .int (10 : Int32) [(.int 0), (.int 1), (.int 1), (.int 0), (.int 0), (.int 0), (.int 0), (.int 0), (.int 0), (.int 0)] (.int 0) := Arv.set Ar37 qk37 Sz37 Ng37 Ha37 Gf37 rfl W38 2 rfl (Nat.le_of_ble_eq_true rfl)
  clear hin37 Gf37 Ha37 Ng37 Sz37 qk37 Ar37 cl37
  refine oS (fun t k => st38 t k) ?_
  show oG _ _ _ _ _ _ _ (T38.setTop (mkF m 94 #[.val (.int p1), .val (.int p2), .val (.int ((p2 &&& (2147483647 : Int32)) % (10 : Int32))), .val (.ref b1), .unset, .unset, .unset] [(.ref b32)]))
  try clear st38 X36 e36
  try clear T36
  refine oS (fun t k => XS.dup X38.here hx rfl (hb hby at_94) rfl rfl k) ?_
  refine oS (fun t k => oIc li_3 X38.here hx rfl (hb hby at_95) k) ?_
  refine oS (fun t k => oIc li_1 X38.here hx rfl (hb hby at_96) k) ?_
  show oG _ _ _ _ _ _ _ (T38.setTop (mkF m 97 #[.val (.int p1), .val (.int p2), .val (.int ((p2 &&& (2147483647 : Int32)) % (10 : Int32))), .val (.ref b1), .unset, .unset, .unset] [(.int 1), (.int 3), (.ref b32), (.ref b32)]))
  obtain ⟨cl39, Ar39, qk39, Sz39, Ng39, Ha39, Gf39⟩ := id V38
  have hin39 : ¬ ((3 : Int32) < 0 ∨ cl39.slots.size ≤ ((3 : Int32)).toNatClampNeg) := inb_of Sz39 ⟨by decide, by decide⟩
  obtain ⟨T40, h40, X40, e40, W40, st40⟩ := stI X38 hx hZ e38 Ar39 (j := (3 : Int32)) hin39 (g := (mkF m 97 #[.val (.int p1), .val (.int p2), .val (.int ((p2 &&& (2147483647 : Int32)) % (10 : Int32))), .val (.ref b1), .unset, .unset, .unset] [(.int 1), (.int 3), (.ref b32), (.ref b32)])) rfl rfl (hb hby at_97)
  have O40 := O38.wr W40 gx32
  have N40 := Fr.snoc X40 N38 gx32
  have V40 : Arv Z h40 b32 k32 .int (10 : Int32) [(.int 0), (.int 1), (.int 1), (.int 1), (.int 0), (.int 0), (.int 0), (.int 0), (.int 0), (.int 0)] (.int 0) := Arv.set Ar39 qk39 Sz39 Ng39 Ha39 Gf39 rfl W40 3 rfl (Nat.le_of_ble_eq_true rfl)
  clear hin39 Gf39 Ha39 Ng39 Sz39 qk39 Ar39 cl39
  refine oS (fun t k => st40 t k) ?_
  try clear st40 X38 e38
  try clear T38
  refine oS (fun t k => XS.dup X40.here hx rfl (hb hby at_98) rfl rfl k) ?_
  refine oS (fun t k => oIc li_4 X40.here hx rfl (hb hby at_99) k) ?_
  show oG _ _ _ _ _ _ _ (T40.setTop (mkF m 100 #[.val (.int p1), .val (.int p2), .val (.int ((p2 &&& (2147483647 : Int32)) % (10 : Int32))), .val (.ref b1), .unset, .unset, .unset] [(.int 4), (.ref b32), (.ref b32)]))
  refine oS (fun t k => oIc li_0 X40.here hx rfl (hb hby at_100) k) ?_
  obtain ⟨cl41, Ar41, qk41, Sz41, Ng41, Ha41, Gf41⟩ := id V40
  have hin41 : ¬ ((4 : Int32) < 0 ∨ cl41.slots.size ≤ ((4 : Int32)).toNatClampNeg) := inb_of Sz41 ⟨by decide, by decide⟩
  obtain ⟨T42, h42, X42, e42, W42, st42⟩ := stI X40 hx hZ e40 Ar41 (j := (4 : Int32)) hin41 (g := (mkF m 101 #[.val (.int p1), .val (.int p2), .val (.int ((p2 &&& (2147483647 : Int32)) % (10 : Int32))), .val (.ref b1), .unset, .unset, .unset] [(.int 0), (.int 4), (.ref b32), (.ref b32)])) rfl rfl (hb hby at_101)
  have O42 := O40.wr W42 gx32
  have N42 := Fr.snoc X42 N40 gx32
  have V42 : Arv Z h42 b32 k32 .int (10 : Int32) [(.int 0), (.int 1), (.int 1), (.int 1), (.int 0), (.int 0), (.int 0), (.int 0), (.int 0), (.int 0)] (.int 0) := Arv.set Ar41 qk41 Sz41 Ng41 Ha41 Gf41 rfl W42 4 rfl (Nat.le_of_ble_eq_true rfl)
  clear hin41 Gf41 Ha41 Ng41 Sz41 qk41 Ar41 cl41
  refine oS (fun t k => st42 t k) ?_
  try clear st42 X40 e40
  try clear T40
  refine oS (fun t k => XS.dup X42.here hx rfl (hb hby at_102) rfl rfl k) ?_
  show oG _ _ _ _ _ _ _ (T42.setTop (mkF m 103 #[.val (.int p1), .val (.int p2), .val (.int ((p2 &&& (2147483647 : Int32)) % (10 : Int32))), .val (.ref b1), .unset, .unset, .unset] [(.ref b32), (.ref b32)]))
  refine oS (fun t k => oIc li_5 X42.here hx rfl (hb hby at_103) k) ?_
  refine oS (fun t k => oIc li_1 X42.here hx rfl (hb hby at_104) k) ?_
  obtain ⟨cl43, Ar43, qk43, Sz43, Ng43, Ha43, Gf43⟩ := id V42
  have hin43 : ¬ ((5 : Int32) < 0 ∨ cl43.slots.size ≤ ((5 : Int32)).toNatClampNeg) := inb_of Sz43 ⟨by decide, by decide⟩
  obtain ⟨T44, h44, X44, e44, W44, st44⟩ := stI X42 hx hZ e42 Ar43 (j := (5 : Int32)) hin43 (g := (mkF m 105 #[.val (.int p1), .val (.int p2), .val (.int ((p2 &&& (2147483647 : Int32)) % (10 : Int32))), .val (.ref b1), .unset, .unset, .unset] [(.int 1), (.int 5), (.ref b32), (.ref b32)])) rfl rfl (hb hby at_105)
  have O44 := O42.wr W44 gx32
  have N44 := Fr.snoc X44 N42 gx32
  have V44 : Arv Z h44 b32 k32 .int (10 : Int32) [(.int 0), (.int 1), (.int 1), (.int 1), (.int 0), (.int 1), (.int 0), (.int 0), (.int 0), (.int 0)] (.int 0) := Arv.set Ar43 qk43 Sz43 Ng43 Ha43 Gf43 rfl W44 5 rfl (Nat.le_of_ble_eq_true rfl)
  clear hin43 Gf43 Ha43 Ng43 Sz43 qk43 Ar43 cl43
  refine oS (fun t k => st44 t k) ?_
  show oG _ _ _ _ _ _ _ (T44.setTop (mkF m 106 #[.val (.int p1), .val (.int p2), .val (.int ((p2 &&& (2147483647 : Int32)) % (10 : Int32))), .val (.ref b1), .unset, .unset, .unset] [(.ref b32)]))
  try clear st44 X42 e42
  try clear T42
  refine oS (fun t k => XS.dup X44.here hx rfl (hb hby at_106) rfl rfl k) ?_
  refine oS (fun t k => oBp lb_6 X44.here hx rfl (hb hby at_107) k) ?_
  refine oS (fun t k => oIc li_1 X44.here hx rfl (hb hby at_109) k) ?_
  show oG _ _ _ _ _ _ _ (T44.setTop (mkF m 110 #[.val (.int p1), .val (.int p2), .val (.int ((p2 &&& (2147483647 : Int32)) % (10 : Int32))), .val (.ref b1), .unset, .unset, .unset] [(.int 1), (.int 6), (.ref b32), (.ref b32)]))
  obtain ⟨cl45, Ar45, qk45, Sz45, Ng45, Ha45, Gf45⟩ := id V44
  have hin45 : ¬ ((6 : Int32) < 0 ∨ cl45.slots.size ≤ ((6 : Int32)).toNatClampNeg) := inb_of Sz45 ⟨by decide, by decide⟩
  obtain ⟨T46, h46, X46, e46, W46, st46⟩ := stI X44 hx hZ e44 Ar45 (j := (6 : Int32)) hin45 (g := (mkF m 110 #[.val (.int p1), .val (.int p2), .val (.int ((p2 &&& (2147483647 : Int32)) % (10 : Int32))), .val (.ref b1), .unset, .unset, .unset] [(.int 1), (.int 6), (.ref b32), (.ref b32)])) rfl rfl (hb hby at_110)
  have O46 := O44.wr W46 gx32
  have N46 := Fr.snoc X46 N44 gx32
  have V46 : Arv Z h46 b32 k32 .int (10 : Int32) [(.int 0), (.int 1), (.int 1), (.int 1), (.int 0), (.int 1), (.int 1), (.int 0), (.int 0), (.int 0)] (.int 0) := Arv.set Ar45 qk45 Sz45 Ng45 Ha45 Gf45 rfl W46 6 rfl (Nat.le_of_ble_eq_true rfl)
  clear hin45 Gf45 Ha45 Ng45 Sz45 qk45 Ar45 cl45
  refine oS (fun t k => st46 t k) ?_
  try clear st46 X44 e44
  try clear T44
  refine oS (fun t k => XS.dup X46.here hx rfl (hb hby at_111) rfl rfl k) ?_
  refine oS (fun t k => oBp lb_7 X46.here hx rfl (hb hby at_112) k) ?_
  show oG _ _ _ _ _ _ _ (T46.setTop (mkF m 114 #[.val (.int p1), .val (.int p2), .val (.int ((p2 &&& (2147483647 : Int32)) % (10 : Int32))), .val (.ref b1), .unset, .unset, .unset] [(.int 7), (.ref b32), (.ref b32)]))
  refine oS (fun t k => oIc li_1 X46.here hx rfl (hb hby at_114) k) ?_
  obtain ⟨cl47, Ar47, qk47, Sz47, Ng47, Ha47, Gf47⟩ := id V46
  have hin47 : ¬ ((7 : Int32) < 0 ∨ cl47.slots.size ≤ ((7 : Int32)).toNatClampNeg) := inb_of Sz47 ⟨by decide, by decide⟩
  obtain ⟨T48, h48, X48, e48, W48, st48⟩ := stI X46 hx hZ e46 Ar47 (j := (7 : Int32)) hin47 (g := (mkF m 115 #[.val (.int p1), .val (.int p2), .val (.int ((p2 &&& (2147483647 : Int32)) % (10 : Int32))), .val (.ref b1), .unset, .unset, .unset] [(.int 1), (.int 7), (.ref b32), (.ref b32)])) rfl rfl (hb hby at_115)
  have O48 := O46.wr W48 gx32
  have N48 := Fr.snoc X48 N46 gx32
  have V48 : Arv Z h48 b32 k32 .int (10 : Int32) [(.int 0), (.int 1), (.int 1), (.int 1), (.int 0), (.int 1), (.int 1), (.int 1), (.int 0), (.int 0)] (.int 0) := Arv.set Ar47 qk47 Sz47 Ng47 Ha47 Gf47 rfl W48 7 rfl (Nat.le_of_ble_eq_true rfl)
  clear hin47 Gf47 Ha47 Ng47 Sz47 qk47 Ar47 cl47
  refine oS (fun t k => st48 t k) ?_
  try clear st48 X46 e46
  try clear T46
  refine oS (fun t k => XS.dup X48.here hx rfl (hb hby at_116) rfl rfl k) ?_
  show oG _ _ _ _ _ _ _ (T48.setTop (mkF m 117 #[.val (.int p1), .val (.int p2), .val (.int ((p2 &&& (2147483647 : Int32)) % (10 : Int32))), .val (.ref b1), .unset, .unset, .unset] [(.ref b32), (.ref b32)]))
  refine oS (fun t k => oBp lb_8 X48.here hx rfl (hb hby at_117) k) ?_
  refine oS (fun t k => oIc li_0 X48.here hx rfl (hb hby at_119) k) ?_
  obtain ⟨cl49, Ar49, qk49, Sz49, Ng49, Ha49, Gf49⟩ := id V48
  have hin49 : ¬ ((8 : Int32) < 0 ∨ cl49.slots.size ≤ ((8 : Int32)).toNatClampNeg) := inb_of Sz49 ⟨by decide, by decide⟩
  obtain ⟨T50, h50, X50, e50, W50, st50⟩ := stI X48 hx hZ e48 Ar49 (j := (8 : Int32)) hin49 (g := (mkF m 120 #[.val (.int p1), .val (.int p2), .val (.int ((p2 &&& (2147483647 : Int32)) % (10 : Int32))), .val (.ref b1), .unset, .unset, .unset] [(.int 0), (.int 8), (.ref b32), (.ref b32)])) rfl rfl (hb hby at_120)
  have O50 := O48.wr W50 gx32
  have N50 := Fr.snoc X50 N48 gx32
  have V50 : Arv Z h50 b32 k32 .int (10 : Int32) [(.int 0), (.int 1), (.int 1), (.int 1), (.int 0), (.int 1), (.int 1), (.int 1), (.int 0), (.int 0)] (.int 0) := Arv.set Ar49 qk49 Sz49 Ng49 Ha49 Gf49 rfl W50 8 rfl (Nat.le_of_ble_eq_true rfl)
  clear hin49 Gf49 Ha49 Ng49 Sz49 qk49 Ar49 cl49
  refine oS (fun t k => st50 t k) ?_
  show oG _ _ _ _ _ _ _ (T50.setTop (mkF m 121 #[.val (.int p1), .val (.int p2), .val (.int ((p2 &&& (2147483647 : Int32)) % (10 : Int32))), .val (.ref b1), .unset, .unset, .unset] [(.ref b32)]))
  try clear st50 X48 e48
  try clear T48
  refine oS (fun t k => XS.dup X50.here hx rfl (hb hby at_121) rfl rfl k) ?_
  refine oS (fun t k => oBp lb_9 X50.here hx rfl (hb hby at_122) k) ?_
  refine oS (fun t k => oIc li_0 X50.here hx rfl (hb hby at_124) k) ?_
  show oG _ _ _ _ _ _ _ (T50.setTop (mkF m 125 #[.val (.int p1), .val (.int p2), .val (.int ((p2 &&& (2147483647 : Int32)) % (10 : Int32))), .val (.ref b1), .unset, .unset, .unset] [(.int 0), (.int 9), (.ref b32), (.ref b32)]))
  obtain ⟨cl51, Ar51, qk51, Sz51, Ng51, Ha51, Gf51⟩ := id V50
  have hin51 : ¬ ((9 : Int32) < 0 ∨ cl51.slots.size ≤ ((9 : Int32)).toNatClampNeg) := inb_of Sz51 ⟨by decide, by decide⟩
  obtain ⟨T52, h52, X52, e52, W52, st52⟩ := stI X50 hx hZ e50 Ar51 (j := (9 : Int32)) hin51 (g := (mkF m 125 #[.val (.int p1), .val (.int p2), .val (.int ((p2 &&& (2147483647 : Int32)) % (10 : Int32))), .val (.ref b1), .unset, .unset, .unset] [(.int 0), (.int 9), (.ref b32), (.ref b32)])) rfl rfl (hb hby at_125)
  have O52 := O50.wr W52 gx32
  have N52 := Fr.snoc X52 N50 gx32
  have V52 : Arv Z h52 b32 k32 .int (10 : Int32) [(.int 0), (.int 1), (.int 1), (.int 1), (.int 0), (.int 1), (.int 1), (.int 1), (.int 0), (.int 0)] (.int 0) := Arv.set Ar51 qk51 Sz51 Ng51 Ha51 Gf51 rfl W52 9 rfl (Nat.le_of_ble_eq_true rfl)
  clear hin51 Gf51 Ha51 Ng51 Sz51 qk51 Ar51 cl51
  refine oS (fun t k => st52 t k) ?_
  try clear st52 X50 e50
  try clear T50
  refine oS (fun t k => XS.astore X52.here hx rfl (hb hby at_126) rfl rfl (l' := #[.val (.int p1), .val (.int p2), .val (.int ((p2 &&& (2147483647 : Int32)) % (10 : Int32))), .val (.ref b1), .val (.ref b32), .unset, .unset]) rfl k) ?_
  obtain ⟨T53, h53, X53, e53, E53, A53, D53, -, st53⟩ := newO X52 hx hZ hown (oW hw 26 rfl) (oW hw 27 rfl) (oW hw 28 rfl) e52 (g := (mkF m 128 #[.val (.int p1), .val (.int p2), .val (.int ((p2 &&& (2147483647 : Int32)) % (10 : Int32))), .val (.ref b1), .val (.ref b32), .unset, .unset] [])) rfl (hb hby at_128) (by decide) (by decide)
  obtain ⟨b53, g53⟩ : ∃ z, z = h52.size := ⟨_, rfl⟩
  rw [← g53] at A53 D53 st53
  have gx53 : n0 ≤ b53 := Nat.le_trans (O52.1 ▸ O52.2.1) (Nat.le_of_eq g53.symm)
  have ne_b1_b53 : b1 ≠ b53 := Nat.ne_of_lt (Nat.lt_of_lt_of_le (((((((((((V31.ext E32).other W34 ne_b1_b32).other W36 ne_b1_b32).other W38 ne_b1_b32).other W40 ne_b1_b32).other W42 ne_b1_b32).other W44 ne_b1_b32).other W46 ne_b1_b32).other W48 ne_b1_b32).other W50 ne_b1_b32).other W52 ne_b1_b32).lt (Nat.le_of_eq g53.symm))
  have ne_b32_b53 : b32 ≠ b53 := Nat.ne_of_lt (Nat.lt_of_lt_of_le V52.lt (Nat.le_of_eq g53.symm))
  have O53 := O52.ext E53
  have F_number_b53 : Fld Z h53 b53 "com/example/lamassu/lamassu/model/Redirection" "number" "I" (.int 0) := D53 (Or.inr (oW hw 36 rfl)) (ty := .int) (by decide)
  have F_operator_b53 : Fld Z h53 b53 "com/example/lamassu/lamassu/model/Redirection" "operator" "Lcom/example/lamassu/lamassu/model/Redirection$Operator;" .null := D53 (Or.inr (oW hw 38 rfl)) (ty := (.object "com/example/lamassu/lamassu/model/Redirection$Operator")) (by decide)
  have F_word_b53 : Fld Z h53 b53 "com/example/lamassu/lamassu/model/Redirection" "word" "Lcom/example/lamassu/lamassu/model/Word;" .null := D53 (Or.inr (oW hw 40 rfl)) (ty := (.object "com/example/lamassu/lamassu/model/Word")) (by decide)
  have F_written_b53 : Fld Z h53 b53 "com/example/lamassu/lamassu/model/Redirection" "written" "Ljava/lang/String;" .null := D53 (Or.inr (oW hw 42 rfl)) (ty := (.object "java/lang/String")) (by decide)
  refine oS (fun t k => st53 t k) ?_
  show oG _ _ _ _ _ _ _ (T53.setTop (mkF m 131 #[.val (.int p1), .val (.int p2), .val (.int ((p2 &&& (2147483647 : Int32)) % (10 : Int32))), .val (.ref b1), .val (.ref b32), .unset, .unset] [(.ref b53)]))
  try clear st53 X52 e52
  try clear T52
  refine oS (fun t k => XS.dup X53.here hx rfl (hb hby at_131) rfl rfl k) ?_
  refine oS (fun t k => XS.iloadN X53.here hx rfl (hb hby at_132) rfl k) ?_
  refine oS (fun t k => XS.aloadN X53.here hx rfl (hb hby at_133) rfl rfl k) ?_
  show oG _ _ _ _ _ _ _ (T53.setTop (mkF m 134 #[.val (.int p1), .val (.int p2), .val (.int ((p2 &&& (2147483647 : Int32)) % (10 : Int32))), .val (.ref b1), .val (.ref b32), .unset, .unset] [(.ref b1), (.int p1), (.ref b53), (.ref b53)]))
  refine oS (fun t k => XS.iloadN X53.here hx rfl (hb hby at_134) rfl k) ?_
  show oG _ _ _ _ _ _ _ (T53.setTop (mkF m 135 #[.val (.int p1), .val (.int p2), .val (.int ((p2 &&& (2147483647 : Int32)) % (10 : Int32))), .val (.ref b1), .val (.ref b32), .unset, .unset] [(.int ((p2 &&& (2147483647 : Int32)) % (10 : Int32))), (.ref b1), (.int p1), (.ref b53), (.ref b53)]))
  rcases own_ten p2 with hs54 | hs54 | hs54 | hs54 | hs54 | hs54 | hs54 | hs54 | hs54 | hs54
  · rw [hs54]
    show oG _ _ _ _ _ _ _ (T53.setTop (mkF m 135 #[.val (.int p1), .val (.int p2), .val (.int 0), .val (.ref b1), .val (.ref b32), .unset, .unset] [(.int 0), (.ref b1), (.int p1), (.ref b53), (.ref b53)]))
    obtain ⟨cl55, Ar55, qk55, Sz55, Ng55, Ha55, Gf55⟩ := id ((((((((((((V31.ext E32).other W34 ne_b1_b32).other W36 ne_b1_b32).other W38 ne_b1_b32).other W40 ne_b1_b32).other W42 ne_b1_b32).other W44 ne_b1_b32).other W46 ne_b1_b32).other W48 ne_b1_b32).other W50 ne_b1_b32).other W52 ne_b1_b32).ext E53)
    have hin55 : ¬ ((0 : Int32) < 0 ∨ cl55.slots.size ≤ ((0 : Int32)).toNatClampNeg) := (inb_of Sz55 ⟨by decide, by decide⟩)
    have hat55 : cl55.slots[((0 : Int32)).toNatClampNeg]? = some (.ref (w 0)) := Ha55.at hin55 rfl
    refine oS (fun t k => X53.aaload hx (j := (0 : Int32)) (v := (.ref (w 0))) (by rw [e53]; exact Ar55.1) (State.isArrayOf_alike hZ.alike Ar55.2.1) rfl Ar55.2.2 hin55 hat55 (g := (mkF m 135 #[.val (.int p1), .val (.int p2), .val (.int 0), .val (.ref b1), .val (.ref b32), .unset, .unset] [(.int 0), (.ref b1), (.int p1), (.ref b53), (.ref b53)])) rfl rfl (hb hby at_135) t k) ?_
    refine oS (fun t k => XS.aconstNull X53.here hx rfl (hb hby at_136) k) ?_
    show oG _ _ _ _ _ _ _ (T53.setTop (mkF m 137 #[.val (.int p1), .val (.int p2), .val (.int 0), .val (.ref b1), .val (.ref b32), .unset, .unset] [.null, (.ref (w 0)), (.int p1), (.ref b53), (.ref b53)]))
    refine oS (fun t k => XS.aconstNull X53.here hx rfl (hb hby at_137) k) ?_
    obtain ⟨_, _, ⟨T56, L56, k56, n56⟩, -, X56, ⟨Lc56, hQ56, l56, y56, z56⟩, st56⟩ := X53.specialBack hx (y := mY0) rfl hown (mvT hZ (oW hw 29 rfl)) (mvT hZ (oW hw 30 rfl)) (mvT hZ (oW hw 31 rfl)) (by decide) (backOf (W := 1) (rm_init l Z a0 hw [] b53 p1 (w 0) (.int 0) .null .null .null w h53 n0 O53 W A53 gx53 F_number_b53 F_operator_b53 F_word_b53 F_written_b53) hZ (oW hw 31 rfl) (oW hw 28 rfl) (by decide) (by decide)) (g := (mkF m 138 #[.val (.int p1), .val (.int p2), .val (.int 0), .val (.ref b1), .val (.ref b32), .unset, .unset] [.null, .null, (.ref (w 0)), (.int p1), (.ref b53), (.ref b53)])) rfl (by rw [hml]; rfl) (Steps.refl _) (a := b53) (argsL := [(.int p1), (.ref (w 0)), .null, .null]) (rest := [(.ref b53)]) (lenOf pd_1 rfl) rfl (by show 2 * 0 + _ ≤ _; exact Nat.le_of_eq rfl) (hb hby at_138) (fun _ _ => ⟨rfl, e53, (by decide : 3 + 0 ≤ _), (by decide : 24 + 0 ≤ _)⟩)
    dsimp only [Pt.U, Pt.locs, Pt.cells, Pt.slots] at X56 l56 y56 z56 st56 hQ56
    rw [l56, y56, z56] at X56
    clear l56 y56 z56
    obtain ⟨rfl, Nq56, K56, P56_0, P56_1, P56_2, P56_3, P56_4⟩ := hQ56
    have N56 := Fr.app N52 Nq56
    have O56 := O53.keep K56 (allS gx53 all0)
    refine oS (fun t k => st56.trans k) ?_
    show oG _ _ _ _ _ _ _ (T56.setTop (mkF m 141 #[.val (.int p1), .val (.int p2), .val (.int 0), .val (.ref b1), .val (.ref b32), .unset, .unset] [(.ref b53)]))
    try clear st56 X53 e53
    try clear T53
    refine oS (fun t k => XS.astore X56.here hx rfl (hb hby at_141) rfl rfl (l' := #[.val (.int p1), .val (.int p2), .val (.int 0), .val (.ref b1), .val (.ref b32), .val (.ref b53), .unset]) rfl k) ?_
    refine oS (fun t k => XS.iloadN X56.here hx rfl (hb hby at_143) rfl k) ?_
    by_cases hc144 : p1 < (0 : Int32)
    · refine oS (fun t k => XS.ifYes X56.here hx rfl (pc0 := 144) (pc' := 153) rfl (hb hby at_144) rfl ((if0 _ _).trans (tlt hc144).1) (by decide) (by decide) k) ?_
      show oG _ _ _ _ _ _ _ (T56.setTop (mkF m 153 #[.val (.int p1), .val (.int p2), .val (.int 0), .val (.ref b1), .val (.ref b32), .val (.ref b53), .unset] []))
      refine oS (fun t k => XS.aload X56.here hx rfl (hb hby at_153) rfl rfl k) ?_
      refine oS (fun t k => XS.iloadN X56.here hx rfl (hb hby at_155) rfl k) ?_
      obtain ⟨cl57, Ar57, qk57, Sz57, Ng57, Ha57, Gf57⟩ := id ((V52.ext E53).keep K56 (fun q => ne_b32_b53 (List.mem_singleton.mp q)))
      have hin57 : ¬ ((0 : Int32) < 0 ∨ cl57.slots.size ≤ ((0 : Int32)).toNatClampNeg) := (inb_of Sz57 ⟨by decide, by decide⟩)
      have hat57 : cl57.slots[((0 : Int32)).toNatClampNeg]? = some (.int 0) := Ha57.at hin57 rfl
      refine oS (fun t k => X56.iaload hx (j := (0 : Int32)) (v := (.int 0)) Ar57.1 (State.isArrayOf_alike hZ.alike Ar57.2.1) Ar57.2.2 hin57 hat57 (g := (mkF m 156 #[.val (.int p1), .val (.int p2), .val (.int 0), .val (.ref b1), .val (.ref b32), .val (.ref b53), .unset] [(.int 0), (.ref b32)])) rfl rfl (hb hby at_156) t k) ?_
      show oG _ _ _ _ _ _ _ (T56.setTop (mkF m 157 #[.val (.int p1), .val (.int p2), .val (.int 0), .val (.ref b1), .val (.ref b32), .val (.ref b53), .unset] [(.int 0)]))
      refine oS (fun t k => XS.istore X56.here hx rfl (hb hby at_157) rfl (l' := #[.val (.int p1), .val (.int p2), .val (.int 0), .val (.ref b1), .val (.ref b32), .val (.ref b53), .val (.int 0)]) rfl k) ?_
      refine oS (fun t k => XS.aload X56.here hx rfl (hb hby at_159) rfl rfl k) ?_
      obtain ⟨cq58, kq58, q58a, q58b, q58c⟩ := isOf hZ rfl P56_0
      obtain ⟨_, _, ⟨T58, L58, k58, n58⟩, -, X58, ⟨Lc58, hQ58, l58, y58, z58⟩, st58⟩ := X56.virtualBack hx (y := mY2) (z := mY2) hown (mvT hZ (oW hw 43 rfl)) (mvT hZ (oW hw 44 rfl)) (notFace_of_selects (args := #[]) (mvT hZ (oW hw 46 rfl))) (mvT hZ (oW hw 46 rfl)) (mvT hZ (oW hw 45 rfl)) (by decide) (backOf (W := 0) (rm_desc_INPUT l Z a0 hw [] b53 p1 w T56.heap n0 O56 W P56_1 P56_2 hc144) hZ (oW hw 47 rfl) (oW hw 28 rfl) (by decide) (by decide)) q58a q58c (g := (mkF m 161 #[.val (.int p1), .val (.int p2), .val (.int 0), .val (.ref b1), .val (.ref b32), .val (.ref b53), .val (.int 0)] [(.ref b53)])) rfl (by rw [hml]; rfl) (Steps.refl _) (argsL := []) (rest := []) (lenOf pd_0 rfl) rfl (by show 2 * 0 + _ ≤ _; exact Nat.le_of_eq rfl) (hb hby at_161) (fun _ _ => ⟨rfl, rfl, (by decide : 3 + 0 ≤ _), (by decide : 24 + 0 ≤ _)⟩)
      dsimp only [Pt.U, Pt.locs, Pt.cells, Pt.slots] at X58 l58 y58 z58 st58 hQ58
      rw [l58, y58, z58] at X58
      clear l58 y58 z58
      obtain ⟨rfl, Nq58, e58⟩ := hQ58
      have N58 := Fr.app N56 Nq58
      refine oS (fun t k => st58.trans k) ?_
      show oG _ _ _ _ _ _ _ (T58.setTop (mkF m 164 #[.val (.int p1), .val (.int p2), .val (.int 0), .val (.ref b1), .val (.ref b32), .val (.ref b53), .val (.int 0)] [(.int 0)]))
      try clear st58 X56 e56
      refine oS (fun t k => XS.iload X58.here hx rfl (hb hby at_164) rfl k) ?_
      refine oS (fun t k => XS.icmpNo X58.here hx rfl (hb hby at_166) rfl (teq (by decide)).2 k) ?_
      refine oS (fun t k => oIc li_1 X58.here hx rfl (hb hby at_169) k) ?_
      show oG _ _ _ _ _ _ _ (T58.setTop (mkF m 170 #[.val (.int p1), .val (.int p2), .val (.int 0), .val (.ref b1), .val (.ref b32), .val (.ref b53), .val (.int 0)] [(.int 1)]))
      refine oS (fun t k => XS.goto X58.here hx rfl (pc0 := 170) (pc' := 174) rfl (hb hby at_170) (by decide) (by decide) k) ?_
      exact own_ret (v := some (.int 1)) X58 (fun h => by rw [Bd.returns] at h; cases h) Bd.notSynchronized (fun fs hr => retN X58 hx (t := .boolean) Bd.returns (by simp) (hb hby at_174) hr) (by rw [e58]; exact ⟨rfl, N58⟩) (by decide) (by decide)
    · refine oS (fun t k => XS.ifNo X56.here hx rfl (hb hby at_144) rfl ((if0 _ _).trans (flt hc144).1) k) ?_
      show oG _ _ _ _ _ _ _ (T56.setTop (mkF m 147 #[.val (.int p1), .val (.int p2), .val (.int 0), .val (.ref b1), .val (.ref b32), .val (.ref b53), .unset] []))
      refine oS (fun t k => XS.iloadN X56.here hx rfl (hb hby at_147) rfl k) ?_
      refine oS (fun t k => XS.istore X56.here hx rfl (hb hby at_148) rfl (l' := #[.val (.int p1), .val (.int p2), .val (.int 0), .val (.ref b1), .val (.ref b32), .val (.ref b53), .val (.int p1)]) rfl k) ?_
      refine oS (fun t k => XS.goto X56.here hx rfl (pc0 := 150) (pc' := 159) rfl (hb hby at_150) (by decide) (by decide) k) ?_
      show oG _ _ _ _ _ _ _ (T56.setTop (mkF m 159 #[.val (.int p1), .val (.int p2), .val (.int 0), .val (.ref b1), .val (.ref b32), .val (.ref b53), .val (.int p1)] []))
      refine oS (fun t k => XS.aload X56.here hx rfl (hb hby at_159) rfl rfl k) ?_
      obtain ⟨cq59, kq59, q59a, q59b, q59c⟩ := isOf hZ rfl P56_0
      obtain ⟨_, _, ⟨T59, L59, k59, n59⟩, -, X59, ⟨Lc59, hQ59, l59, y59, z59⟩, st59⟩ := X56.virtualBack hx (y := mY2) (z := mY2) hown (mvT hZ (oW hw 43 rfl)) (mvT hZ (oW hw 44 rfl)) (notFace_of_selects (args := #[]) (mvT hZ (oW hw 46 rfl))) (mvT hZ (oW hw 46 rfl)) (mvT hZ (oW hw 45 rfl)) (by decide) (backOf (W := 0) (rm_desc_n l Z a0 hw [] b53 p1 w T56.heap n0 O56 W P56_1 hc144) hZ (oW hw 47 rfl) (oW hw 28 rfl) (by decide) (by decide)) q59a q59c (g := (mkF m 161 #[.val (.int p1), .val (.int p2), .val (.int 0), .val (.ref b1), .val (.ref b32), .val (.ref b53), .val (.int p1)] [(.ref b53)])) rfl (by rw [hml]; rfl) (Steps.refl _) (argsL := []) (rest := []) (lenOf pd_0 rfl) rfl (by show 2 * 0 + _ ≤ _; exact Nat.le_of_eq rfl) (hb hby at_161) (fun _ _ => ⟨rfl, rfl, (by decide : 3 + 0 ≤ _), (by decide : 24 + 0 ≤ _)⟩)
      dsimp only [Pt.U, Pt.locs, Pt.cells, Pt.slots] at X59 l59 y59 z59 st59 hQ59
      rw [l59, y59, z59] at X59
      clear l59 y59 z59
      obtain ⟨rfl, Nq59, e59⟩ := hQ59
      have N59 := Fr.app N56 Nq59
      refine oS (fun t k => st59.trans k) ?_
      show oG _ _ _ _ _ _ _ (T59.setTop (mkF m 164 #[.val (.int p1), .val (.int p2), .val (.int 0), .val (.ref b1), .val (.ref b32), .val (.ref b53), .val (.int p1)] [(.int p1)]))
      try clear st59 X56 e56
      refine oS (fun t k => XS.iload X59.here hx rfl (hb hby at_164) rfl k) ?_
      refine oS (fun t k => XS.icmpNo X59.here hx rfl (hb hby at_166) rfl (teq rfl).2 k) ?_
      refine oS (fun t k => oIc li_1 X59.here hx rfl (hb hby at_169) k) ?_
      show oG _ _ _ _ _ _ _ (T59.setTop (mkF m 170 #[.val (.int p1), .val (.int p2), .val (.int 0), .val (.ref b1), .val (.ref b32), .val (.ref b53), .val (.int p1)] [(.int 1)]))
      refine oS (fun t k => XS.goto X59.here hx rfl (pc0 := 170) (pc' := 174) rfl (hb hby at_170) (by decide) (by decide) k) ?_
      exact own_ret (v := some (.int 1)) X59 (fun h => by rw [Bd.returns] at h; cases h) Bd.notSynchronized (fun fs hr => retN X59 hx (t := .boolean) Bd.returns (by simp) (hb hby at_174) hr) (by rw [e59]; exact ⟨rfl, N59⟩) (by decide) (by decide)
  · rw [hs54]
    show oG _ _ _ _ _ _ _ (T53.setTop (mkF m 135 #[.val (.int p1), .val (.int p2), .val (.int 1), .val (.ref b1), .val (.ref b32), .unset, .unset] [(.int 1), (.ref b1), (.int p1), (.ref b53), (.ref b53)]))
    obtain ⟨cl60, Ar60, qk60, Sz60, Ng60, Ha60, Gf60⟩ := id ((((((((((((V31.ext E32).other W34 ne_b1_b32).other W36 ne_b1_b32).other W38 ne_b1_b32).other W40 ne_b1_b32).other W42 ne_b1_b32).other W44 ne_b1_b32).other W46 ne_b1_b32).other W48 ne_b1_b32).other W50 ne_b1_b32).other W52 ne_b1_b32).ext E53)
    have hin60 : ¬ ((1 : Int32) < 0 ∨ cl60.slots.size ≤ ((1 : Int32)).toNatClampNeg) := (inb_of Sz60 ⟨by decide, by decide⟩)
    have hat60 : cl60.slots[((1 : Int32)).toNatClampNeg]? = some (.ref (w 1)) := Ha60.at hin60 rfl
    refine oS (fun t k => X53.aaload hx (j := (1 : Int32)) (v := (.ref (w 1))) (by rw [e53]; exact Ar60.1) (State.isArrayOf_alike hZ.alike Ar60.2.1) rfl Ar60.2.2 hin60 hat60 (g := (mkF m 135 #[.val (.int p1), .val (.int p2), .val (.int 1), .val (.ref b1), .val (.ref b32), .unset, .unset] [(.int 1), (.ref b1), (.int p1), (.ref b53), (.ref b53)])) rfl rfl (hb hby at_135) t k) ?_
    refine oS (fun t k => XS.aconstNull X53.here hx rfl (hb hby at_136) k) ?_
    show oG _ _ _ _ _ _ _ (T53.setTop (mkF m 137 #[.val (.int p1), .val (.int p2), .val (.int 1), .val (.ref b1), .val (.ref b32), .unset, .unset] [.null, (.ref (w 1)), (.int p1), (.ref b53), (.ref b53)]))
    refine oS (fun t k => XS.aconstNull X53.here hx rfl (hb hby at_137) k) ?_
    obtain ⟨_, _, ⟨T61, L61, k61, n61⟩, -, X61, ⟨Lc61, hQ61, l61, y61, z61⟩, st61⟩ := X53.specialBack hx (y := mY0) rfl hown (mvT hZ (oW hw 29 rfl)) (mvT hZ (oW hw 30 rfl)) (mvT hZ (oW hw 31 rfl)) (by decide) (backOf (W := 1) (rm_init l Z a0 hw [] b53 p1 (w 1) (.int 0) .null .null .null w h53 n0 O53 W A53 gx53 F_number_b53 F_operator_b53 F_word_b53 F_written_b53) hZ (oW hw 31 rfl) (oW hw 28 rfl) (by decide) (by decide)) (g := (mkF m 138 #[.val (.int p1), .val (.int p2), .val (.int 1), .val (.ref b1), .val (.ref b32), .unset, .unset] [.null, .null, (.ref (w 1)), (.int p1), (.ref b53), (.ref b53)])) rfl (by rw [hml]; rfl) (Steps.refl _) (a := b53) (argsL := [(.int p1), (.ref (w 1)), .null, .null]) (rest := [(.ref b53)]) (lenOf pd_1 rfl) rfl (by show 2 * 0 + _ ≤ _; exact Nat.le_of_eq rfl) (hb hby at_138) (fun _ _ => ⟨rfl, e53, (by decide : 3 + 0 ≤ _), (by decide : 24 + 0 ≤ _)⟩)
    dsimp only [Pt.U, Pt.locs, Pt.cells, Pt.slots] at X61 l61 y61 z61 st61 hQ61
    rw [l61, y61, z61] at X61
    clear l61 y61 z61
    obtain ⟨rfl, Nq61, K61, P61_0, P61_1, P61_2, P61_3, P61_4⟩ := hQ61
    have N61 := Fr.app N52 Nq61
    have O61 := O53.keep K61 (allS gx53 all0)
    refine oS (fun t k => st61.trans k) ?_
    show oG _ _ _ _ _ _ _ (T61.setTop (mkF m 141 #[.val (.int p1), .val (.int p2), .val (.int 1), .val (.ref b1), .val (.ref b32), .unset, .unset] [(.ref b53)]))
    try clear st61 X53 e53
    try clear T53
    refine oS (fun t k => XS.astore X61.here hx rfl (hb hby at_141) rfl rfl (l' := #[.val (.int p1), .val (.int p2), .val (.int 1), .val (.ref b1), .val (.ref b32), .val (.ref b53), .unset]) rfl k) ?_
    refine oS (fun t k => XS.iloadN X61.here hx rfl (hb hby at_143) rfl k) ?_
    by_cases hc144 : p1 < (0 : Int32)
    · refine oS (fun t k => XS.ifYes X61.here hx rfl (pc0 := 144) (pc' := 153) rfl (hb hby at_144) rfl ((if0 _ _).trans (tlt hc144).1) (by decide) (by decide) k) ?_
      show oG _ _ _ _ _ _ _ (T61.setTop (mkF m 153 #[.val (.int p1), .val (.int p2), .val (.int 1), .val (.ref b1), .val (.ref b32), .val (.ref b53), .unset] []))
      refine oS (fun t k => XS.aload X61.here hx rfl (hb hby at_153) rfl rfl k) ?_
      refine oS (fun t k => XS.iloadN X61.here hx rfl (hb hby at_155) rfl k) ?_
      obtain ⟨cl62, Ar62, qk62, Sz62, Ng62, Ha62, Gf62⟩ := id ((V52.ext E53).keep K61 (fun q => ne_b32_b53 (List.mem_singleton.mp q)))
      have hin62 : ¬ ((1 : Int32) < 0 ∨ cl62.slots.size ≤ ((1 : Int32)).toNatClampNeg) := (inb_of Sz62 ⟨by decide, by decide⟩)
      have hat62 : cl62.slots[((1 : Int32)).toNatClampNeg]? = some (.int 1) := Ha62.at hin62 rfl
      refine oS (fun t k => X61.iaload hx (j := (1 : Int32)) (v := (.int 1)) Ar62.1 (State.isArrayOf_alike hZ.alike Ar62.2.1) Ar62.2.2 hin62 hat62 (g := (mkF m 156 #[.val (.int p1), .val (.int p2), .val (.int 1), .val (.ref b1), .val (.ref b32), .val (.ref b53), .unset] [(.int 1), (.ref b32)])) rfl rfl (hb hby at_156) t k) ?_
      show oG _ _ _ _ _ _ _ (T61.setTop (mkF m 157 #[.val (.int p1), .val (.int p2), .val (.int 1), .val (.ref b1), .val (.ref b32), .val (.ref b53), .unset] [(.int 1)]))
      refine oS (fun t k => XS.istore X61.here hx rfl (hb hby at_157) rfl (l' := #[.val (.int p1), .val (.int p2), .val (.int 1), .val (.ref b1), .val (.ref b32), .val (.ref b53), .val (.int 1)]) rfl k) ?_
      refine oS (fun t k => XS.aload X61.here hx rfl (hb hby at_159) rfl rfl k) ?_
      obtain ⟨cq63, kq63, q63a, q63b, q63c⟩ := isOf hZ rfl P61_0
      obtain ⟨_, _, ⟨T63, L63, k63, n63⟩, -, X63, ⟨Lc63, hQ63, l63, y63, z63⟩, st63⟩ := X61.virtualBack hx (y := mY2) (z := mY2) hown (mvT hZ (oW hw 43 rfl)) (mvT hZ (oW hw 44 rfl)) (notFace_of_selects (args := #[]) (mvT hZ (oW hw 46 rfl))) (mvT hZ (oW hw 46 rfl)) (mvT hZ (oW hw 45 rfl)) (by decide) (backOf (W := 0) (rm_desc_OUTPUT l Z a0 hw [] b53 p1 w T61.heap n0 O61 W P61_1 P61_2 hc144) hZ (oW hw 47 rfl) (oW hw 28 rfl) (by decide) (by decide)) q63a q63c (g := (mkF m 161 #[.val (.int p1), .val (.int p2), .val (.int 1), .val (.ref b1), .val (.ref b32), .val (.ref b53), .val (.int 1)] [(.ref b53)])) rfl (by rw [hml]; rfl) (Steps.refl _) (argsL := []) (rest := []) (lenOf pd_0 rfl) rfl (by show 2 * 0 + _ ≤ _; exact Nat.le_of_eq rfl) (hb hby at_161) (fun _ _ => ⟨rfl, rfl, (by decide : 3 + 0 ≤ _), (by decide : 24 + 0 ≤ _)⟩)
      dsimp only [Pt.U, Pt.locs, Pt.cells, Pt.slots] at X63 l63 y63 z63 st63 hQ63
      rw [l63, y63, z63] at X63
      clear l63 y63 z63
      obtain ⟨rfl, Nq63, e63⟩ := hQ63
      have N63 := Fr.app N61 Nq63
      refine oS (fun t k => st63.trans k) ?_
      show oG _ _ _ _ _ _ _ (T63.setTop (mkF m 164 #[.val (.int p1), .val (.int p2), .val (.int 1), .val (.ref b1), .val (.ref b32), .val (.ref b53), .val (.int 1)] [(.int 1)]))
      try clear st63 X61 e61
      refine oS (fun t k => XS.iload X63.here hx rfl (hb hby at_164) rfl k) ?_
      refine oS (fun t k => XS.icmpNo X63.here hx rfl (hb hby at_166) rfl (teq (by decide)).2 k) ?_
      refine oS (fun t k => oIc li_1 X63.here hx rfl (hb hby at_169) k) ?_
      show oG _ _ _ _ _ _ _ (T63.setTop (mkF m 170 #[.val (.int p1), .val (.int p2), .val (.int 1), .val (.ref b1), .val (.ref b32), .val (.ref b53), .val (.int 1)] [(.int 1)]))
      refine oS (fun t k => XS.goto X63.here hx rfl (pc0 := 170) (pc' := 174) rfl (hb hby at_170) (by decide) (by decide) k) ?_
      exact own_ret (v := some (.int 1)) X63 (fun h => by rw [Bd.returns] at h; cases h) Bd.notSynchronized (fun fs hr => retN X63 hx (t := .boolean) Bd.returns (by simp) (hb hby at_174) hr) (by rw [e63]; exact ⟨rfl, N63⟩) (by decide) (by decide)
    · refine oS (fun t k => XS.ifNo X61.here hx rfl (hb hby at_144) rfl ((if0 _ _).trans (flt hc144).1) k) ?_
      show oG _ _ _ _ _ _ _ (T61.setTop (mkF m 147 #[.val (.int p1), .val (.int p2), .val (.int 1), .val (.ref b1), .val (.ref b32), .val (.ref b53), .unset] []))
      refine oS (fun t k => XS.iloadN X61.here hx rfl (hb hby at_147) rfl k) ?_
      refine oS (fun t k => XS.istore X61.here hx rfl (hb hby at_148) rfl (l' := #[.val (.int p1), .val (.int p2), .val (.int 1), .val (.ref b1), .val (.ref b32), .val (.ref b53), .val (.int p1)]) rfl k) ?_
      refine oS (fun t k => XS.goto X61.here hx rfl (pc0 := 150) (pc' := 159) rfl (hb hby at_150) (by decide) (by decide) k) ?_
      show oG _ _ _ _ _ _ _ (T61.setTop (mkF m 159 #[.val (.int p1), .val (.int p2), .val (.int 1), .val (.ref b1), .val (.ref b32), .val (.ref b53), .val (.int p1)] []))
      refine oS (fun t k => XS.aload X61.here hx rfl (hb hby at_159) rfl rfl k) ?_
      obtain ⟨cq64, kq64, q64a, q64b, q64c⟩ := isOf hZ rfl P61_0
      obtain ⟨_, _, ⟨T64, L64, k64, n64⟩, -, X64, ⟨Lc64, hQ64, l64, y64, z64⟩, st64⟩ := X61.virtualBack hx (y := mY2) (z := mY2) hown (mvT hZ (oW hw 43 rfl)) (mvT hZ (oW hw 44 rfl)) (notFace_of_selects (args := #[]) (mvT hZ (oW hw 46 rfl))) (mvT hZ (oW hw 46 rfl)) (mvT hZ (oW hw 45 rfl)) (by decide) (backOf (W := 0) (rm_desc_n l Z a0 hw [] b53 p1 w T61.heap n0 O61 W P61_1 hc144) hZ (oW hw 47 rfl) (oW hw 28 rfl) (by decide) (by decide)) q64a q64c (g := (mkF m 161 #[.val (.int p1), .val (.int p2), .val (.int 1), .val (.ref b1), .val (.ref b32), .val (.ref b53), .val (.int p1)] [(.ref b53)])) rfl (by rw [hml]; rfl) (Steps.refl _) (argsL := []) (rest := []) (lenOf pd_0 rfl) rfl (by show 2 * 0 + _ ≤ _; exact Nat.le_of_eq rfl) (hb hby at_161) (fun _ _ => ⟨rfl, rfl, (by decide : 3 + 0 ≤ _), (by decide : 24 + 0 ≤ _)⟩)
      dsimp only [Pt.U, Pt.locs, Pt.cells, Pt.slots] at X64 l64 y64 z64 st64 hQ64
      rw [l64, y64, z64] at X64
      clear l64 y64 z64
      obtain ⟨rfl, Nq64, e64⟩ := hQ64
      have N64 := Fr.app N61 Nq64
      refine oS (fun t k => st64.trans k) ?_
      show oG _ _ _ _ _ _ _ (T64.setTop (mkF m 164 #[.val (.int p1), .val (.int p2), .val (.int 1), .val (.ref b1), .val (.ref b32), .val (.ref b53), .val (.int p1)] [(.int p1)]))
      try clear st64 X61 e61
      refine oS (fun t k => XS.iload X64.here hx rfl (hb hby at_164) rfl k) ?_
      refine oS (fun t k => XS.icmpNo X64.here hx rfl (hb hby at_166) rfl (teq rfl).2 k) ?_
      refine oS (fun t k => oIc li_1 X64.here hx rfl (hb hby at_169) k) ?_
      show oG _ _ _ _ _ _ _ (T64.setTop (mkF m 170 #[.val (.int p1), .val (.int p2), .val (.int 1), .val (.ref b1), .val (.ref b32), .val (.ref b53), .val (.int p1)] [(.int 1)]))
      refine oS (fun t k => XS.goto X64.here hx rfl (pc0 := 170) (pc' := 174) rfl (hb hby at_170) (by decide) (by decide) k) ?_
      exact own_ret (v := some (.int 1)) X64 (fun h => by rw [Bd.returns] at h; cases h) Bd.notSynchronized (fun fs hr => retN X64 hx (t := .boolean) Bd.returns (by simp) (hb hby at_174) hr) (by rw [e64]; exact ⟨rfl, N64⟩) (by decide) (by decide)
  · rw [hs54]
    show oG _ _ _ _ _ _ _ (T53.setTop (mkF m 135 #[.val (.int p1), .val (.int p2), .val (.int 2), .val (.ref b1), .val (.ref b32), .unset, .unset] [(.int 2), (.ref b1), (.int p1), (.ref b53), (.ref b53)]))
    obtain ⟨cl65, Ar65, qk65, Sz65, Ng65, Ha65, Gf65⟩ := id ((((((((((((V31.ext E32).other W34 ne_b1_b32).other W36 ne_b1_b32).other W38 ne_b1_b32).other W40 ne_b1_b32).other W42 ne_b1_b32).other W44 ne_b1_b32).other W46 ne_b1_b32).other W48 ne_b1_b32).other W50 ne_b1_b32).other W52 ne_b1_b32).ext E53)
    have hin65 : ¬ ((2 : Int32) < 0 ∨ cl65.slots.size ≤ ((2 : Int32)).toNatClampNeg) := (inb_of Sz65 ⟨by decide, by decide⟩)
    have hat65 : cl65.slots[((2 : Int32)).toNatClampNeg]? = some (.ref (w 2)) := Ha65.at hin65 rfl
    refine oS (fun t k => X53.aaload hx (j := (2 : Int32)) (v := (.ref (w 2))) (by rw [e53]; exact Ar65.1) (State.isArrayOf_alike hZ.alike Ar65.2.1) rfl Ar65.2.2 hin65 hat65 (g := (mkF m 135 #[.val (.int p1), .val (.int p2), .val (.int 2), .val (.ref b1), .val (.ref b32), .unset, .unset] [(.int 2), (.ref b1), (.int p1), (.ref b53), (.ref b53)])) rfl rfl (hb hby at_135) t k) ?_
    refine oS (fun t k => XS.aconstNull X53.here hx rfl (hb hby at_136) k) ?_
    show oG _ _ _ _ _ _ _ (T53.setTop (mkF m 137 #[.val (.int p1), .val (.int p2), .val (.int 2), .val (.ref b1), .val (.ref b32), .unset, .unset] [.null, (.ref (w 2)), (.int p1), (.ref b53), (.ref b53)]))
    refine oS (fun t k => XS.aconstNull X53.here hx rfl (hb hby at_137) k) ?_
    obtain ⟨_, _, ⟨T66, L66, k66, n66⟩, -, X66, ⟨Lc66, hQ66, l66, y66, z66⟩, st66⟩ := X53.specialBack hx (y := mY0) rfl hown (mvT hZ (oW hw 29 rfl)) (mvT hZ (oW hw 30 rfl)) (mvT hZ (oW hw 31 rfl)) (by decide) (backOf (W := 1) (rm_init l Z a0 hw [] b53 p1 (w 2) (.int 0) .null .null .null w h53 n0 O53 W A53 gx53 F_number_b53 F_operator_b53 F_word_b53 F_written_b53) hZ (oW hw 31 rfl) (oW hw 28 rfl) (by decide) (by decide)) (g := (mkF m 138 #[.val (.int p1), .val (.int p2), .val (.int 2), .val (.ref b1), .val (.ref b32), .unset, .unset] [.null, .null, (.ref (w 2)), (.int p1), (.ref b53), (.ref b53)])) rfl (by rw [hml]; rfl) (Steps.refl _) (a := b53) (argsL := [(.int p1), (.ref (w 2)), .null, .null]) (rest := [(.ref b53)]) (lenOf pd_1 rfl) rfl (by show 2 * 0 + _ ≤ _; exact Nat.le_of_eq rfl) (hb hby at_138) (fun _ _ => ⟨rfl, e53, (by decide : 3 + 0 ≤ _), (by decide : 24 + 0 ≤ _)⟩)
    dsimp only [Pt.U, Pt.locs, Pt.cells, Pt.slots] at X66 l66 y66 z66 st66 hQ66
    rw [l66, y66, z66] at X66
    clear l66 y66 z66
    obtain ⟨rfl, Nq66, K66, P66_0, P66_1, P66_2, P66_3, P66_4⟩ := hQ66
    have N66 := Fr.app N52 Nq66
    have O66 := O53.keep K66 (allS gx53 all0)
    refine oS (fun t k => st66.trans k) ?_
    show oG _ _ _ _ _ _ _ (T66.setTop (mkF m 141 #[.val (.int p1), .val (.int p2), .val (.int 2), .val (.ref b1), .val (.ref b32), .unset, .unset] [(.ref b53)]))
    try clear st66 X53 e53
    try clear T53
    refine oS (fun t k => XS.astore X66.here hx rfl (hb hby at_141) rfl rfl (l' := #[.val (.int p1), .val (.int p2), .val (.int 2), .val (.ref b1), .val (.ref b32), .val (.ref b53), .unset]) rfl k) ?_
    refine oS (fun t k => XS.iloadN X66.here hx rfl (hb hby at_143) rfl k) ?_
    by_cases hc144 : p1 < (0 : Int32)
    · refine oS (fun t k => XS.ifYes X66.here hx rfl (pc0 := 144) (pc' := 153) rfl (hb hby at_144) rfl ((if0 _ _).trans (tlt hc144).1) (by decide) (by decide) k) ?_
      show oG _ _ _ _ _ _ _ (T66.setTop (mkF m 153 #[.val (.int p1), .val (.int p2), .val (.int 2), .val (.ref b1), .val (.ref b32), .val (.ref b53), .unset] []))
      refine oS (fun t k => XS.aload X66.here hx rfl (hb hby at_153) rfl rfl k) ?_
      refine oS (fun t k => XS.iloadN X66.here hx rfl (hb hby at_155) rfl k) ?_
      obtain ⟨cl67, Ar67, qk67, Sz67, Ng67, Ha67, Gf67⟩ := id ((V52.ext E53).keep K66 (fun q => ne_b32_b53 (List.mem_singleton.mp q)))
      have hin67 : ¬ ((2 : Int32) < 0 ∨ cl67.slots.size ≤ ((2 : Int32)).toNatClampNeg) := (inb_of Sz67 ⟨by decide, by decide⟩)
      have hat67 : cl67.slots[((2 : Int32)).toNatClampNeg]? = some (.int 1) := Ha67.at hin67 rfl
      refine oS (fun t k => X66.iaload hx (j := (2 : Int32)) (v := (.int 1)) Ar67.1 (State.isArrayOf_alike hZ.alike Ar67.2.1) Ar67.2.2 hin67 hat67 (g := (mkF m 156 #[.val (.int p1), .val (.int p2), .val (.int 2), .val (.ref b1), .val (.ref b32), .val (.ref b53), .unset] [(.int 2), (.ref b32)])) rfl rfl (hb hby at_156) t k) ?_
      show oG _ _ _ _ _ _ _ (T66.setTop (mkF m 157 #[.val (.int p1), .val (.int p2), .val (.int 2), .val (.ref b1), .val (.ref b32), .val (.ref b53), .unset] [(.int 1)]))
      refine oS (fun t k => XS.istore X66.here hx rfl (hb hby at_157) rfl (l' := #[.val (.int p1), .val (.int p2), .val (.int 2), .val (.ref b1), .val (.ref b32), .val (.ref b53), .val (.int 1)]) rfl k) ?_
      refine oS (fun t k => XS.aload X66.here hx rfl (hb hby at_159) rfl rfl k) ?_
      obtain ⟨cq68, kq68, q68a, q68b, q68c⟩ := isOf hZ rfl P66_0
      obtain ⟨_, _, ⟨T68, L68, k68, n68⟩, -, X68, ⟨Lc68, hQ68, l68, y68, z68⟩, st68⟩ := X66.virtualBack hx (y := mY2) (z := mY2) hown (mvT hZ (oW hw 43 rfl)) (mvT hZ (oW hw 44 rfl)) (notFace_of_selects (args := #[]) (mvT hZ (oW hw 46 rfl))) (mvT hZ (oW hw 46 rfl)) (mvT hZ (oW hw 45 rfl)) (by decide) (backOf (W := 0) (rm_desc_CLOBBER l Z a0 hw [] b53 p1 w T66.heap n0 O66 W P66_1 P66_2 hc144) hZ (oW hw 47 rfl) (oW hw 28 rfl) (by decide) (by decide)) q68a q68c (g := (mkF m 161 #[.val (.int p1), .val (.int p2), .val (.int 2), .val (.ref b1), .val (.ref b32), .val (.ref b53), .val (.int 1)] [(.ref b53)])) rfl (by rw [hml]; rfl) (Steps.refl _) (argsL := []) (rest := []) (lenOf pd_0 rfl) rfl (by show 2 * 0 + _ ≤ _; exact Nat.le_of_eq rfl) (hb hby at_161) (fun _ _ => ⟨rfl, rfl, (by decide : 3 + 0 ≤ _), (by decide : 24 + 0 ≤ _)⟩)
      dsimp only [Pt.U, Pt.locs, Pt.cells, Pt.slots] at X68 l68 y68 z68 st68 hQ68
      rw [l68, y68, z68] at X68
      clear l68 y68 z68
      obtain ⟨rfl, Nq68, e68⟩ := hQ68
      have N68 := Fr.app N66 Nq68
      refine oS (fun t k => st68.trans k) ?_
      show oG _ _ _ _ _ _ _ (T68.setTop (mkF m 164 #[.val (.int p1), .val (.int p2), .val (.int 2), .val (.ref b1), .val (.ref b32), .val (.ref b53), .val (.int 1)] [(.int 1)]))
      try clear st68 X66 e66
      refine oS (fun t k => XS.iload X68.here hx rfl (hb hby at_164) rfl k) ?_
      refine oS (fun t k => XS.icmpNo X68.here hx rfl (hb hby at_166) rfl (teq (by decide)).2 k) ?_
      refine oS (fun t k => oIc li_1 X68.here hx rfl (hb hby at_169) k) ?_
      show oG _ _ _ _ _ _ _ (T68.setTop (mkF m 170 #[.val (.int p1), .val (.int p2), .val (.int 2), .val (.ref b1), .val (.ref b32), .val (.ref b53), .val (.int 1)] [(.int 1)]))
      refine oS (fun t k => XS.goto X68.here hx rfl (pc0 := 170) (pc' := 174) rfl (hb hby at_170) (by decide) (by decide) k) ?_
      exact own_ret (v := some (.int 1)) X68 (fun h => by rw [Bd.returns] at h; cases h) Bd.notSynchronized (fun fs hr => retN X68 hx (t := .boolean) Bd.returns (by simp) (hb hby at_174) hr) (by rw [e68]; exact ⟨rfl, N68⟩) (by decide) (by decide)
    · refine oS (fun t k => XS.ifNo X66.here hx rfl (hb hby at_144) rfl ((if0 _ _).trans (flt hc144).1) k) ?_
      show oG _ _ _ _ _ _ _ (T66.setTop (mkF m 147 #[.val (.int p1), .val (.int p2), .val (.int 2), .val (.ref b1), .val (.ref b32), .val (.ref b53), .unset] []))
      refine oS (fun t k => XS.iloadN X66.here hx rfl (hb hby at_147) rfl k) ?_
      refine oS (fun t k => XS.istore X66.here hx rfl (hb hby at_148) rfl (l' := #[.val (.int p1), .val (.int p2), .val (.int 2), .val (.ref b1), .val (.ref b32), .val (.ref b53), .val (.int p1)]) rfl k) ?_
      refine oS (fun t k => XS.goto X66.here hx rfl (pc0 := 150) (pc' := 159) rfl (hb hby at_150) (by decide) (by decide) k) ?_
      show oG _ _ _ _ _ _ _ (T66.setTop (mkF m 159 #[.val (.int p1), .val (.int p2), .val (.int 2), .val (.ref b1), .val (.ref b32), .val (.ref b53), .val (.int p1)] []))
      refine oS (fun t k => XS.aload X66.here hx rfl (hb hby at_159) rfl rfl k) ?_
      obtain ⟨cq69, kq69, q69a, q69b, q69c⟩ := isOf hZ rfl P66_0
      obtain ⟨_, _, ⟨T69, L69, k69, n69⟩, -, X69, ⟨Lc69, hQ69, l69, y69, z69⟩, st69⟩ := X66.virtualBack hx (y := mY2) (z := mY2) hown (mvT hZ (oW hw 43 rfl)) (mvT hZ (oW hw 44 rfl)) (notFace_of_selects (args := #[]) (mvT hZ (oW hw 46 rfl))) (mvT hZ (oW hw 46 rfl)) (mvT hZ (oW hw 45 rfl)) (by decide) (backOf (W := 0) (rm_desc_n l Z a0 hw [] b53 p1 w T66.heap n0 O66 W P66_1 hc144) hZ (oW hw 47 rfl) (oW hw 28 rfl) (by decide) (by decide)) q69a q69c (g := (mkF m 161 #[.val (.int p1), .val (.int p2), .val (.int 2), .val (.ref b1), .val (.ref b32), .val (.ref b53), .val (.int p1)] [(.ref b53)])) rfl (by rw [hml]; rfl) (Steps.refl _) (argsL := []) (rest := []) (lenOf pd_0 rfl) rfl (by show 2 * 0 + _ ≤ _; exact Nat.le_of_eq rfl) (hb hby at_161) (fun _ _ => ⟨rfl, rfl, (by decide : 3 + 0 ≤ _), (by decide : 24 + 0 ≤ _)⟩)
      dsimp only [Pt.U, Pt.locs, Pt.cells, Pt.slots] at X69 l69 y69 z69 st69 hQ69
      rw [l69, y69, z69] at X69
      clear l69 y69 z69
      obtain ⟨rfl, Nq69, e69⟩ := hQ69
      have N69 := Fr.app N66 Nq69
      refine oS (fun t k => st69.trans k) ?_
      show oG _ _ _ _ _ _ _ (T69.setTop (mkF m 164 #[.val (.int p1), .val (.int p2), .val (.int 2), .val (.ref b1), .val (.ref b32), .val (.ref b53), .val (.int p1)] [(.int p1)]))
      try clear st69 X66 e66
      refine oS (fun t k => XS.iload X69.here hx rfl (hb hby at_164) rfl k) ?_
      refine oS (fun t k => XS.icmpNo X69.here hx rfl (hb hby at_166) rfl (teq rfl).2 k) ?_
      refine oS (fun t k => oIc li_1 X69.here hx rfl (hb hby at_169) k) ?_
      show oG _ _ _ _ _ _ _ (T69.setTop (mkF m 170 #[.val (.int p1), .val (.int p2), .val (.int 2), .val (.ref b1), .val (.ref b32), .val (.ref b53), .val (.int p1)] [(.int 1)]))
      refine oS (fun t k => XS.goto X69.here hx rfl (pc0 := 170) (pc' := 174) rfl (hb hby at_170) (by decide) (by decide) k) ?_
      exact own_ret (v := some (.int 1)) X69 (fun h => by rw [Bd.returns] at h; cases h) Bd.notSynchronized (fun fs hr => retN X69 hx (t := .boolean) Bd.returns (by simp) (hb hby at_174) hr) (by rw [e69]; exact ⟨rfl, N69⟩) (by decide) (by decide)
  · rw [hs54]
    show oG _ _ _ _ _ _ _ (T53.setTop (mkF m 135 #[.val (.int p1), .val (.int p2), .val (.int 3), .val (.ref b1), .val (.ref b32), .unset, .unset] [(.int 3), (.ref b1), (.int p1), (.ref b53), (.ref b53)]))
    obtain ⟨cl70, Ar70, qk70, Sz70, Ng70, Ha70, Gf70⟩ := id ((((((((((((V31.ext E32).other W34 ne_b1_b32).other W36 ne_b1_b32).other W38 ne_b1_b32).other W40 ne_b1_b32).other W42 ne_b1_b32).other W44 ne_b1_b32).other W46 ne_b1_b32).other W48 ne_b1_b32).other W50 ne_b1_b32).other W52 ne_b1_b32).ext E53)
    have hin70 : ¬ ((3 : Int32) < 0 ∨ cl70.slots.size ≤ ((3 : Int32)).toNatClampNeg) := (inb_of Sz70 ⟨by decide, by decide⟩)
    have hat70 : cl70.slots[((3 : Int32)).toNatClampNeg]? = some (.ref (w 3)) := Ha70.at hin70 rfl
    refine oS (fun t k => X53.aaload hx (j := (3 : Int32)) (v := (.ref (w 3))) (by rw [e53]; exact Ar70.1) (State.isArrayOf_alike hZ.alike Ar70.2.1) rfl Ar70.2.2 hin70 hat70 (g := (mkF m 135 #[.val (.int p1), .val (.int p2), .val (.int 3), .val (.ref b1), .val (.ref b32), .unset, .unset] [(.int 3), (.ref b1), (.int p1), (.ref b53), (.ref b53)])) rfl rfl (hb hby at_135) t k) ?_
    refine oS (fun t k => XS.aconstNull X53.here hx rfl (hb hby at_136) k) ?_
    show oG _ _ _ _ _ _ _ (T53.setTop (mkF m 137 #[.val (.int p1), .val (.int p2), .val (.int 3), .val (.ref b1), .val (.ref b32), .unset, .unset] [.null, (.ref (w 3)), (.int p1), (.ref b53), (.ref b53)]))
    refine oS (fun t k => XS.aconstNull X53.here hx rfl (hb hby at_137) k) ?_
    obtain ⟨_, _, ⟨T71, L71, k71, n71⟩, -, X71, ⟨Lc71, hQ71, l71, y71, z71⟩, st71⟩ := X53.specialBack hx (y := mY0) rfl hown (mvT hZ (oW hw 29 rfl)) (mvT hZ (oW hw 30 rfl)) (mvT hZ (oW hw 31 rfl)) (by decide) (backOf (W := 1) (rm_init l Z a0 hw [] b53 p1 (w 3) (.int 0) .null .null .null w h53 n0 O53 W A53 gx53 F_number_b53 F_operator_b53 F_word_b53 F_written_b53) hZ (oW hw 31 rfl) (oW hw 28 rfl) (by decide) (by decide)) (g := (mkF m 138 #[.val (.int p1), .val (.int p2), .val (.int 3), .val (.ref b1), .val (.ref b32), .unset, .unset] [.null, .null, (.ref (w 3)), (.int p1), (.ref b53), (.ref b53)])) rfl (by rw [hml]; rfl) (Steps.refl _) (a := b53) (argsL := [(.int p1), (.ref (w 3)), .null, .null]) (rest := [(.ref b53)]) (lenOf pd_1 rfl) rfl (by show 2 * 0 + _ ≤ _; exact Nat.le_of_eq rfl) (hb hby at_138) (fun _ _ => ⟨rfl, e53, (by decide : 3 + 0 ≤ _), (by decide : 24 + 0 ≤ _)⟩)
    dsimp only [Pt.U, Pt.locs, Pt.cells, Pt.slots] at X71 l71 y71 z71 st71 hQ71
    rw [l71, y71, z71] at X71
    clear l71 y71 z71
    obtain ⟨rfl, Nq71, K71, P71_0, P71_1, P71_2, P71_3, P71_4⟩ := hQ71
    have N71 := Fr.app N52 Nq71
    have O71 := O53.keep K71 (allS gx53 all0)
    refine oS (fun t k => st71.trans k) ?_
    show oG _ _ _ _ _ _ _ (T71.setTop (mkF m 141 #[.val (.int p1), .val (.int p2), .val (.int 3), .val (.ref b1), .val (.ref b32), .unset, .unset] [(.ref b53)]))
    try clear st71 X53 e53
    try clear T53
    refine oS (fun t k => XS.astore X71.here hx rfl (hb hby at_141) rfl rfl (l' := #[.val (.int p1), .val (.int p2), .val (.int 3), .val (.ref b1), .val (.ref b32), .val (.ref b53), .unset]) rfl k) ?_
    refine oS (fun t k => XS.iloadN X71.here hx rfl (hb hby at_143) rfl k) ?_
    by_cases hc144 : p1 < (0 : Int32)
    · refine oS (fun t k => XS.ifYes X71.here hx rfl (pc0 := 144) (pc' := 153) rfl (hb hby at_144) rfl ((if0 _ _).trans (tlt hc144).1) (by decide) (by decide) k) ?_
      show oG _ _ _ _ _ _ _ (T71.setTop (mkF m 153 #[.val (.int p1), .val (.int p2), .val (.int 3), .val (.ref b1), .val (.ref b32), .val (.ref b53), .unset] []))
      refine oS (fun t k => XS.aload X71.here hx rfl (hb hby at_153) rfl rfl k) ?_
      refine oS (fun t k => XS.iloadN X71.here hx rfl (hb hby at_155) rfl k) ?_
      obtain ⟨cl72, Ar72, qk72, Sz72, Ng72, Ha72, Gf72⟩ := id ((V52.ext E53).keep K71 (fun q => ne_b32_b53 (List.mem_singleton.mp q)))
      have hin72 : ¬ ((3 : Int32) < 0 ∨ cl72.slots.size ≤ ((3 : Int32)).toNatClampNeg) := (inb_of Sz72 ⟨by decide, by decide⟩)
      have hat72 : cl72.slots[((3 : Int32)).toNatClampNeg]? = some (.int 1) := Ha72.at hin72 rfl
      refine oS (fun t k => X71.iaload hx (j := (3 : Int32)) (v := (.int 1)) Ar72.1 (State.isArrayOf_alike hZ.alike Ar72.2.1) Ar72.2.2 hin72 hat72 (g := (mkF m 156 #[.val (.int p1), .val (.int p2), .val (.int 3), .val (.ref b1), .val (.ref b32), .val (.ref b53), .unset] [(.int 3), (.ref b32)])) rfl rfl (hb hby at_156) t k) ?_
      show oG _ _ _ _ _ _ _ (T71.setTop (mkF m 157 #[.val (.int p1), .val (.int p2), .val (.int 3), .val (.ref b1), .val (.ref b32), .val (.ref b53), .unset] [(.int 1)]))
      refine oS (fun t k => XS.istore X71.here hx rfl (hb hby at_157) rfl (l' := #[.val (.int p1), .val (.int p2), .val (.int 3), .val (.ref b1), .val (.ref b32), .val (.ref b53), .val (.int 1)]) rfl k) ?_
      refine oS (fun t k => XS.aload X71.here hx rfl (hb hby at_159) rfl rfl k) ?_
      obtain ⟨cq73, kq73, q73a, q73b, q73c⟩ := isOf hZ rfl P71_0
      obtain ⟨_, _, ⟨T73, L73, k73, n73⟩, -, X73, ⟨Lc73, hQ73, l73, y73, z73⟩, st73⟩ := X71.virtualBack hx (y := mY2) (z := mY2) hown (mvT hZ (oW hw 43 rfl)) (mvT hZ (oW hw 44 rfl)) (notFace_of_selects (args := #[]) (mvT hZ (oW hw 46 rfl))) (mvT hZ (oW hw 46 rfl)) (mvT hZ (oW hw 45 rfl)) (by decide) (backOf (W := 0) (rm_desc_APPEND l Z a0 hw [] b53 p1 w T71.heap n0 O71 W P71_1 P71_2 hc144) hZ (oW hw 47 rfl) (oW hw 28 rfl) (by decide) (by decide)) q73a q73c (g := (mkF m 161 #[.val (.int p1), .val (.int p2), .val (.int 3), .val (.ref b1), .val (.ref b32), .val (.ref b53), .val (.int 1)] [(.ref b53)])) rfl (by rw [hml]; rfl) (Steps.refl _) (argsL := []) (rest := []) (lenOf pd_0 rfl) rfl (by show 2 * 0 + _ ≤ _; exact Nat.le_of_eq rfl) (hb hby at_161) (fun _ _ => ⟨rfl, rfl, (by decide : 3 + 0 ≤ _), (by decide : 24 + 0 ≤ _)⟩)
      dsimp only [Pt.U, Pt.locs, Pt.cells, Pt.slots] at X73 l73 y73 z73 st73 hQ73
      rw [l73, y73, z73] at X73
      clear l73 y73 z73
      obtain ⟨rfl, Nq73, e73⟩ := hQ73
      have N73 := Fr.app N71 Nq73
      refine oS (fun t k => st73.trans k) ?_
      show oG _ _ _ _ _ _ _ (T73.setTop (mkF m 164 #[.val (.int p1), .val (.int p2), .val (.int 3), .val (.ref b1), .val (.ref b32), .val (.ref b53), .val (.int 1)] [(.int 1)]))
      try clear st73 X71 e71
      refine oS (fun t k => XS.iload X73.here hx rfl (hb hby at_164) rfl k) ?_
      refine oS (fun t k => XS.icmpNo X73.here hx rfl (hb hby at_166) rfl (teq (by decide)).2 k) ?_
      refine oS (fun t k => oIc li_1 X73.here hx rfl (hb hby at_169) k) ?_
      show oG _ _ _ _ _ _ _ (T73.setTop (mkF m 170 #[.val (.int p1), .val (.int p2), .val (.int 3), .val (.ref b1), .val (.ref b32), .val (.ref b53), .val (.int 1)] [(.int 1)]))
      refine oS (fun t k => XS.goto X73.here hx rfl (pc0 := 170) (pc' := 174) rfl (hb hby at_170) (by decide) (by decide) k) ?_
      exact own_ret (v := some (.int 1)) X73 (fun h => by rw [Bd.returns] at h; cases h) Bd.notSynchronized (fun fs hr => retN X73 hx (t := .boolean) Bd.returns (by simp) (hb hby at_174) hr) (by rw [e73]; exact ⟨rfl, N73⟩) (by decide) (by decide)
    · refine oS (fun t k => XS.ifNo X71.here hx rfl (hb hby at_144) rfl ((if0 _ _).trans (flt hc144).1) k) ?_
      show oG _ _ _ _ _ _ _ (T71.setTop (mkF m 147 #[.val (.int p1), .val (.int p2), .val (.int 3), .val (.ref b1), .val (.ref b32), .val (.ref b53), .unset] []))
      refine oS (fun t k => XS.iloadN X71.here hx rfl (hb hby at_147) rfl k) ?_
      refine oS (fun t k => XS.istore X71.here hx rfl (hb hby at_148) rfl (l' := #[.val (.int p1), .val (.int p2), .val (.int 3), .val (.ref b1), .val (.ref b32), .val (.ref b53), .val (.int p1)]) rfl k) ?_
      refine oS (fun t k => XS.goto X71.here hx rfl (pc0 := 150) (pc' := 159) rfl (hb hby at_150) (by decide) (by decide) k) ?_
      show oG _ _ _ _ _ _ _ (T71.setTop (mkF m 159 #[.val (.int p1), .val (.int p2), .val (.int 3), .val (.ref b1), .val (.ref b32), .val (.ref b53), .val (.int p1)] []))
      refine oS (fun t k => XS.aload X71.here hx rfl (hb hby at_159) rfl rfl k) ?_
      obtain ⟨cq74, kq74, q74a, q74b, q74c⟩ := isOf hZ rfl P71_0
      obtain ⟨_, _, ⟨T74, L74, k74, n74⟩, -, X74, ⟨Lc74, hQ74, l74, y74, z74⟩, st74⟩ := X71.virtualBack hx (y := mY2) (z := mY2) hown (mvT hZ (oW hw 43 rfl)) (mvT hZ (oW hw 44 rfl)) (notFace_of_selects (args := #[]) (mvT hZ (oW hw 46 rfl))) (mvT hZ (oW hw 46 rfl)) (mvT hZ (oW hw 45 rfl)) (by decide) (backOf (W := 0) (rm_desc_n l Z a0 hw [] b53 p1 w T71.heap n0 O71 W P71_1 hc144) hZ (oW hw 47 rfl) (oW hw 28 rfl) (by decide) (by decide)) q74a q74c (g := (mkF m 161 #[.val (.int p1), .val (.int p2), .val (.int 3), .val (.ref b1), .val (.ref b32), .val (.ref b53), .val (.int p1)] [(.ref b53)])) rfl (by rw [hml]; rfl) (Steps.refl _) (argsL := []) (rest := []) (lenOf pd_0 rfl) rfl (by show 2 * 0 + _ ≤ _; exact Nat.le_of_eq rfl) (hb hby at_161) (fun _ _ => ⟨rfl, rfl, (by decide : 3 + 0 ≤ _), (by decide : 24 + 0 ≤ _)⟩)
      dsimp only [Pt.U, Pt.locs, Pt.cells, Pt.slots] at X74 l74 y74 z74 st74 hQ74
      rw [l74, y74, z74] at X74
      clear l74 y74 z74
      obtain ⟨rfl, Nq74, e74⟩ := hQ74
      have N74 := Fr.app N71 Nq74
      refine oS (fun t k => st74.trans k) ?_
      show oG _ _ _ _ _ _ _ (T74.setTop (mkF m 164 #[.val (.int p1), .val (.int p2), .val (.int 3), .val (.ref b1), .val (.ref b32), .val (.ref b53), .val (.int p1)] [(.int p1)]))
      try clear st74 X71 e71
      refine oS (fun t k => XS.iload X74.here hx rfl (hb hby at_164) rfl k) ?_
      refine oS (fun t k => XS.icmpNo X74.here hx rfl (hb hby at_166) rfl (teq rfl).2 k) ?_
      refine oS (fun t k => oIc li_1 X74.here hx rfl (hb hby at_169) k) ?_
      show oG _ _ _ _ _ _ _ (T74.setTop (mkF m 170 #[.val (.int p1), .val (.int p2), .val (.int 3), .val (.ref b1), .val (.ref b32), .val (.ref b53), .val (.int p1)] [(.int 1)]))
      refine oS (fun t k => XS.goto X74.here hx rfl (pc0 := 170) (pc' := 174) rfl (hb hby at_170) (by decide) (by decide) k) ?_
      exact own_ret (v := some (.int 1)) X74 (fun h => by rw [Bd.returns] at h; cases h) Bd.notSynchronized (fun fs hr => retN X74 hx (t := .boolean) Bd.returns (by simp) (hb hby at_174) hr) (by rw [e74]; exact ⟨rfl, N74⟩) (by decide) (by decide)
  · rw [hs54]
    show oG _ _ _ _ _ _ _ (T53.setTop (mkF m 135 #[.val (.int p1), .val (.int p2), .val (.int 4), .val (.ref b1), .val (.ref b32), .unset, .unset] [(.int 4), (.ref b1), (.int p1), (.ref b53), (.ref b53)]))
    obtain ⟨cl75, Ar75, qk75, Sz75, Ng75, Ha75, Gf75⟩ := id ((((((((((((V31.ext E32).other W34 ne_b1_b32).other W36 ne_b1_b32).other W38 ne_b1_b32).other W40 ne_b1_b32).other W42 ne_b1_b32).other W44 ne_b1_b32).other W46 ne_b1_b32).other W48 ne_b1_b32).other W50 ne_b1_b32).other W52 ne_b1_b32).ext E53)
    have hin75 : ¬ ((4 : Int32) < 0 ∨ cl75.slots.size ≤ ((4 : Int32)).toNatClampNeg) := (inb_of Sz75 ⟨by decide, by decide⟩)
    have hat75 : cl75.slots[((4 : Int32)).toNatClampNeg]? = some (.ref (w 4)) := Ha75.at hin75 rfl
    refine oS (fun t k => X53.aaload hx (j := (4 : Int32)) (v := (.ref (w 4))) (by rw [e53]; exact Ar75.1) (State.isArrayOf_alike hZ.alike Ar75.2.1) rfl Ar75.2.2 hin75 hat75 (g := (mkF m 135 #[.val (.int p1), .val (.int p2), .val (.int 4), .val (.ref b1), .val (.ref b32), .unset, .unset] [(.int 4), (.ref b1), (.int p1), (.ref b53), (.ref b53)])) rfl rfl (hb hby at_135) t k) ?_
    refine oS (fun t k => XS.aconstNull X53.here hx rfl (hb hby at_136) k) ?_
    show oG _ _ _ _ _ _ _ (T53.setTop (mkF m 137 #[.val (.int p1), .val (.int p2), .val (.int 4), .val (.ref b1), .val (.ref b32), .unset, .unset] [.null, (.ref (w 4)), (.int p1), (.ref b53), (.ref b53)]))
    refine oS (fun t k => XS.aconstNull X53.here hx rfl (hb hby at_137) k) ?_
    obtain ⟨_, _, ⟨T76, L76, k76, n76⟩, -, X76, ⟨Lc76, hQ76, l76, y76, z76⟩, st76⟩ := X53.specialBack hx (y := mY0) rfl hown (mvT hZ (oW hw 29 rfl)) (mvT hZ (oW hw 30 rfl)) (mvT hZ (oW hw 31 rfl)) (by decide) (backOf (W := 1) (rm_init l Z a0 hw [] b53 p1 (w 4) (.int 0) .null .null .null w h53 n0 O53 W A53 gx53 F_number_b53 F_operator_b53 F_word_b53 F_written_b53) hZ (oW hw 31 rfl) (oW hw 28 rfl) (by decide) (by decide)) (g := (mkF m 138 #[.val (.int p1), .val (.int p2), .val (.int 4), .val (.ref b1), .val (.ref b32), .unset, .unset] [.null, .null, (.ref (w 4)), (.int p1), (.ref b53), (.ref b53)])) rfl (by rw [hml]; rfl) (Steps.refl _) (a := b53) (argsL := [(.int p1), (.ref (w 4)), .null, .null]) (rest := [(.ref b53)]) (lenOf pd_1 rfl) rfl (by show 2 * 0 + _ ≤ _; exact Nat.le_of_eq rfl) (hb hby at_138) (fun _ _ => ⟨rfl, e53, (by decide : 3 + 0 ≤ _), (by decide : 24 + 0 ≤ _)⟩)
    dsimp only [Pt.U, Pt.locs, Pt.cells, Pt.slots] at X76 l76 y76 z76 st76 hQ76
    rw [l76, y76, z76] at X76
    clear l76 y76 z76
    obtain ⟨rfl, Nq76, K76, P76_0, P76_1, P76_2, P76_3, P76_4⟩ := hQ76
    have N76 := Fr.app N52 Nq76
    have O76 := O53.keep K76 (allS gx53 all0)
    refine oS (fun t k => st76.trans k) ?_
    show oG _ _ _ _ _ _ _ (T76.setTop (mkF m 141 #[.val (.int p1), .val (.int p2), .val (.int 4), .val (.ref b1), .val (.ref b32), .unset, .unset] [(.ref b53)]))
    try clear st76 X53 e53
    try clear T53
    refine oS (fun t k => XS.astore X76.here hx rfl (hb hby at_141) rfl rfl (l' := #[.val (.int p1), .val (.int p2), .val (.int 4), .val (.ref b1), .val (.ref b32), .val (.ref b53), .unset]) rfl k) ?_
    refine oS (fun t k => XS.iloadN X76.here hx rfl (hb hby at_143) rfl k) ?_
    by_cases hc144 : p1 < (0 : Int32)
    · refine oS (fun t k => XS.ifYes X76.here hx rfl (pc0 := 144) (pc' := 153) rfl (hb hby at_144) rfl ((if0 _ _).trans (tlt hc144).1) (by decide) (by decide) k) ?_
      show oG _ _ _ _ _ _ _ (T76.setTop (mkF m 153 #[.val (.int p1), .val (.int p2), .val (.int 4), .val (.ref b1), .val (.ref b32), .val (.ref b53), .unset] []))
      refine oS (fun t k => XS.aload X76.here hx rfl (hb hby at_153) rfl rfl k) ?_
      refine oS (fun t k => XS.iloadN X76.here hx rfl (hb hby at_155) rfl k) ?_
      obtain ⟨cl77, Ar77, qk77, Sz77, Ng77, Ha77, Gf77⟩ := id ((V52.ext E53).keep K76 (fun q => ne_b32_b53 (List.mem_singleton.mp q)))
      have hin77 : ¬ ((4 : Int32) < 0 ∨ cl77.slots.size ≤ ((4 : Int32)).toNatClampNeg) := (inb_of Sz77 ⟨by decide, by decide⟩)
      have hat77 : cl77.slots[((4 : Int32)).toNatClampNeg]? = some (.int 0) := Ha77.at hin77 rfl
      refine oS (fun t k => X76.iaload hx (j := (4 : Int32)) (v := (.int 0)) Ar77.1 (State.isArrayOf_alike hZ.alike Ar77.2.1) Ar77.2.2 hin77 hat77 (g := (mkF m 156 #[.val (.int p1), .val (.int p2), .val (.int 4), .val (.ref b1), .val (.ref b32), .val (.ref b53), .unset] [(.int 4), (.ref b32)])) rfl rfl (hb hby at_156) t k) ?_
      show oG _ _ _ _ _ _ _ (T76.setTop (mkF m 157 #[.val (.int p1), .val (.int p2), .val (.int 4), .val (.ref b1), .val (.ref b32), .val (.ref b53), .unset] [(.int 0)]))
      refine oS (fun t k => XS.istore X76.here hx rfl (hb hby at_157) rfl (l' := #[.val (.int p1), .val (.int p2), .val (.int 4), .val (.ref b1), .val (.ref b32), .val (.ref b53), .val (.int 0)]) rfl k) ?_
      refine oS (fun t k => XS.aload X76.here hx rfl (hb hby at_159) rfl rfl k) ?_
      obtain ⟨cq78, kq78, q78a, q78b, q78c⟩ := isOf hZ rfl P76_0
      obtain ⟨_, _, ⟨T78, L78, k78, n78⟩, -, X78, ⟨Lc78, hQ78, l78, y78, z78⟩, st78⟩ := X76.virtualBack hx (y := mY2) (z := mY2) hown (mvT hZ (oW hw 43 rfl)) (mvT hZ (oW hw 44 rfl)) (notFace_of_selects (args := #[]) (mvT hZ (oW hw 46 rfl))) (mvT hZ (oW hw 46 rfl)) (mvT hZ (oW hw 45 rfl)) (by decide) (backOf (W := 0) (rm_desc_DUPLICATE_INPUT l Z a0 hw [] b53 p1 w T76.heap n0 O76 W P76_1 P76_2 hc144) hZ (oW hw 47 rfl) (oW hw 28 rfl) (by decide) (by decide)) q78a q78c (g := (mkF m 161 #[.val (.int p1), .val (.int p2), .val (.int 4), .val (.ref b1), .val (.ref b32), .val (.ref b53), .val (.int 0)] [(.ref b53)])) rfl (by rw [hml]; rfl) (Steps.refl _) (argsL := []) (rest := []) (lenOf pd_0 rfl) rfl (by show 2 * 0 + _ ≤ _; exact Nat.le_of_eq rfl) (hb hby at_161) (fun _ _ => ⟨rfl, rfl, (by decide : 3 + 0 ≤ _), (by decide : 24 + 0 ≤ _)⟩)
      dsimp only [Pt.U, Pt.locs, Pt.cells, Pt.slots] at X78 l78 y78 z78 st78 hQ78
      rw [l78, y78, z78] at X78
      clear l78 y78 z78
      obtain ⟨rfl, Nq78, e78⟩ := hQ78
      have N78 := Fr.app N76 Nq78
      refine oS (fun t k => st78.trans k) ?_
      show oG _ _ _ _ _ _ _ (T78.setTop (mkF m 164 #[.val (.int p1), .val (.int p2), .val (.int 4), .val (.ref b1), .val (.ref b32), .val (.ref b53), .val (.int 0)] [(.int 0)]))
      try clear st78 X76 e76
      refine oS (fun t k => XS.iload X78.here hx rfl (hb hby at_164) rfl k) ?_
      refine oS (fun t k => XS.icmpNo X78.here hx rfl (hb hby at_166) rfl (teq (by decide)).2 k) ?_
      refine oS (fun t k => oIc li_1 X78.here hx rfl (hb hby at_169) k) ?_
      show oG _ _ _ _ _ _ _ (T78.setTop (mkF m 170 #[.val (.int p1), .val (.int p2), .val (.int 4), .val (.ref b1), .val (.ref b32), .val (.ref b53), .val (.int 0)] [(.int 1)]))
      refine oS (fun t k => XS.goto X78.here hx rfl (pc0 := 170) (pc' := 174) rfl (hb hby at_170) (by decide) (by decide) k) ?_
      exact own_ret (v := some (.int 1)) X78 (fun h => by rw [Bd.returns] at h; cases h) Bd.notSynchronized (fun fs hr => retN X78 hx (t := .boolean) Bd.returns (by simp) (hb hby at_174) hr) (by rw [e78]; exact ⟨rfl, N78⟩) (by decide) (by decide)
    · refine oS (fun t k => XS.ifNo X76.here hx rfl (hb hby at_144) rfl ((if0 _ _).trans (flt hc144).1) k) ?_
      show oG _ _ _ _ _ _ _ (T76.setTop (mkF m 147 #[.val (.int p1), .val (.int p2), .val (.int 4), .val (.ref b1), .val (.ref b32), .val (.ref b53), .unset] []))
      refine oS (fun t k => XS.iloadN X76.here hx rfl (hb hby at_147) rfl k) ?_
      refine oS (fun t k => XS.istore X76.here hx rfl (hb hby at_148) rfl (l' := #[.val (.int p1), .val (.int p2), .val (.int 4), .val (.ref b1), .val (.ref b32), .val (.ref b53), .val (.int p1)]) rfl k) ?_
      refine oS (fun t k => XS.goto X76.here hx rfl (pc0 := 150) (pc' := 159) rfl (hb hby at_150) (by decide) (by decide) k) ?_
      show oG _ _ _ _ _ _ _ (T76.setTop (mkF m 159 #[.val (.int p1), .val (.int p2), .val (.int 4), .val (.ref b1), .val (.ref b32), .val (.ref b53), .val (.int p1)] []))
      refine oS (fun t k => XS.aload X76.here hx rfl (hb hby at_159) rfl rfl k) ?_
      obtain ⟨cq79, kq79, q79a, q79b, q79c⟩ := isOf hZ rfl P76_0
      obtain ⟨_, _, ⟨T79, L79, k79, n79⟩, -, X79, ⟨Lc79, hQ79, l79, y79, z79⟩, st79⟩ := X76.virtualBack hx (y := mY2) (z := mY2) hown (mvT hZ (oW hw 43 rfl)) (mvT hZ (oW hw 44 rfl)) (notFace_of_selects (args := #[]) (mvT hZ (oW hw 46 rfl))) (mvT hZ (oW hw 46 rfl)) (mvT hZ (oW hw 45 rfl)) (by decide) (backOf (W := 0) (rm_desc_n l Z a0 hw [] b53 p1 w T76.heap n0 O76 W P76_1 hc144) hZ (oW hw 47 rfl) (oW hw 28 rfl) (by decide) (by decide)) q79a q79c (g := (mkF m 161 #[.val (.int p1), .val (.int p2), .val (.int 4), .val (.ref b1), .val (.ref b32), .val (.ref b53), .val (.int p1)] [(.ref b53)])) rfl (by rw [hml]; rfl) (Steps.refl _) (argsL := []) (rest := []) (lenOf pd_0 rfl) rfl (by show 2 * 0 + _ ≤ _; exact Nat.le_of_eq rfl) (hb hby at_161) (fun _ _ => ⟨rfl, rfl, (by decide : 3 + 0 ≤ _), (by decide : 24 + 0 ≤ _)⟩)
      dsimp only [Pt.U, Pt.locs, Pt.cells, Pt.slots] at X79 l79 y79 z79 st79 hQ79
      rw [l79, y79, z79] at X79
      clear l79 y79 z79
      obtain ⟨rfl, Nq79, e79⟩ := hQ79
      have N79 := Fr.app N76 Nq79
      refine oS (fun t k => st79.trans k) ?_
      show oG _ _ _ _ _ _ _ (T79.setTop (mkF m 164 #[.val (.int p1), .val (.int p2), .val (.int 4), .val (.ref b1), .val (.ref b32), .val (.ref b53), .val (.int p1)] [(.int p1)]))
      try clear st79 X76 e76
      refine oS (fun t k => XS.iload X79.here hx rfl (hb hby at_164) rfl k) ?_
      refine oS (fun t k => XS.icmpNo X79.here hx rfl (hb hby at_166) rfl (teq rfl).2 k) ?_
      refine oS (fun t k => oIc li_1 X79.here hx rfl (hb hby at_169) k) ?_
      show oG _ _ _ _ _ _ _ (T79.setTop (mkF m 170 #[.val (.int p1), .val (.int p2), .val (.int 4), .val (.ref b1), .val (.ref b32), .val (.ref b53), .val (.int p1)] [(.int 1)]))
      refine oS (fun t k => XS.goto X79.here hx rfl (pc0 := 170) (pc' := 174) rfl (hb hby at_170) (by decide) (by decide) k) ?_
      exact own_ret (v := some (.int 1)) X79 (fun h => by rw [Bd.returns] at h; cases h) Bd.notSynchronized (fun fs hr => retN X79 hx (t := .boolean) Bd.returns (by simp) (hb hby at_174) hr) (by rw [e79]; exact ⟨rfl, N79⟩) (by decide) (by decide)
  · rw [hs54]
    show oG _ _ _ _ _ _ _ (T53.setTop (mkF m 135 #[.val (.int p1), .val (.int p2), .val (.int 5), .val (.ref b1), .val (.ref b32), .unset, .unset] [(.int 5), (.ref b1), (.int p1), (.ref b53), (.ref b53)]))
    obtain ⟨cl80, Ar80, qk80, Sz80, Ng80, Ha80, Gf80⟩ := id ((((((((((((V31.ext E32).other W34 ne_b1_b32).other W36 ne_b1_b32).other W38 ne_b1_b32).other W40 ne_b1_b32).other W42 ne_b1_b32).other W44 ne_b1_b32).other W46 ne_b1_b32).other W48 ne_b1_b32).other W50 ne_b1_b32).other W52 ne_b1_b32).ext E53)
    have hin80 : ¬ ((5 : Int32) < 0 ∨ cl80.slots.size ≤ ((5 : Int32)).toNatClampNeg) := (inb_of Sz80 ⟨by decide, by decide⟩)
    have hat80 : cl80.slots[((5 : Int32)).toNatClampNeg]? = some (.ref (w 5)) := Ha80.at hin80 rfl
    refine oS (fun t k => X53.aaload hx (j := (5 : Int32)) (v := (.ref (w 5))) (by rw [e53]; exact Ar80.1) (State.isArrayOf_alike hZ.alike Ar80.2.1) rfl Ar80.2.2 hin80 hat80 (g := (mkF m 135 #[.val (.int p1), .val (.int p2), .val (.int 5), .val (.ref b1), .val (.ref b32), .unset, .unset] [(.int 5), (.ref b1), (.int p1), (.ref b53), (.ref b53)])) rfl rfl (hb hby at_135) t k) ?_
    refine oS (fun t k => XS.aconstNull X53.here hx rfl (hb hby at_136) k) ?_
    show oG _ _ _ _ _ _ _ (T53.setTop (mkF m 137 #[.val (.int p1), .val (.int p2), .val (.int 5), .val (.ref b1), .val (.ref b32), .unset, .unset] [.null, (.ref (w 5)), (.int p1), (.ref b53), (.ref b53)]))
    refine oS (fun t k => XS.aconstNull X53.here hx rfl (hb hby at_137) k) ?_
    obtain ⟨_, _, ⟨T81, L81, k81, n81⟩, -, X81, ⟨Lc81, hQ81, l81, y81, z81⟩, st81⟩ := X53.specialBack hx (y := mY0) rfl hown (mvT hZ (oW hw 29 rfl)) (mvT hZ (oW hw 30 rfl)) (mvT hZ (oW hw 31 rfl)) (by decide) (backOf (W := 1) (rm_init l Z a0 hw [] b53 p1 (w 5) (.int 0) .null .null .null w h53 n0 O53 W A53 gx53 F_number_b53 F_operator_b53 F_word_b53 F_written_b53) hZ (oW hw 31 rfl) (oW hw 28 rfl) (by decide) (by decide)) (g := (mkF m 138 #[.val (.int p1), .val (.int p2), .val (.int 5), .val (.ref b1), .val (.ref b32), .unset, .unset] [.null, .null, (.ref (w 5)), (.int p1), (.ref b53), (.ref b53)])) rfl (by rw [hml]; rfl) (Steps.refl _) (a := b53) (argsL := [(.int p1), (.ref (w 5)), .null, .null]) (rest := [(.ref b53)]) (lenOf pd_1 rfl) rfl (by show 2 * 0 + _ ≤ _; exact Nat.le_of_eq rfl) (hb hby at_138) (fun _ _ => ⟨rfl, e53, (by decide : 3 + 0 ≤ _), (by decide : 24 + 0 ≤ _)⟩)
    dsimp only [Pt.U, Pt.locs, Pt.cells, Pt.slots] at X81 l81 y81 z81 st81 hQ81
    rw [l81, y81, z81] at X81
    clear l81 y81 z81
    obtain ⟨rfl, Nq81, K81, P81_0, P81_1, P81_2, P81_3, P81_4⟩ := hQ81
    have N81 := Fr.app N52 Nq81
    have O81 := O53.keep K81 (allS gx53 all0)
    refine oS (fun t k => st81.trans k) ?_
    show oG _ _ _ _ _ _ _ (T81.setTop (mkF m 141 #[.val (.int p1), .val (.int p2), .val (.int 5), .val (.ref b1), .val (.ref b32), .unset, .unset] [(.ref b53)]))
    try clear st81 X53 e53
    try clear T53
    refine oS (fun t k => XS.astore X81.here hx rfl (hb hby at_141) rfl rfl (l' := #[.val (.int p1), .val (.int p2), .val (.int 5), .val (.ref b1), .val (.ref b32), .val (.ref b53), .unset]) rfl k) ?_
    refine oS (fun t k => XS.iloadN X81.here hx rfl (hb hby at_143) rfl k) ?_
    by_cases hc144 : p1 < (0 : Int32)
    · refine oS (fun t k => XS.ifYes X81.here hx rfl (pc0 := 144) (pc' := 153) rfl (hb hby at_144) rfl ((if0 _ _).trans (tlt hc144).1) (by decide) (by decide) k) ?_
      show oG _ _ _ _ _ _ _ (T81.setTop (mkF m 153 #[.val (.int p1), .val (.int p2), .val (.int 5), .val (.ref b1), .val (.ref b32), .val (.ref b53), .unset] []))
      refine oS (fun t k => XS.aload X81.here hx rfl (hb hby at_153) rfl rfl k) ?_
      refine oS (fun t k => XS.iloadN X81.here hx rfl (hb hby at_155) rfl k) ?_
      obtain ⟨cl82, Ar82, qk82, Sz82, Ng82, Ha82, Gf82⟩ := id ((V52.ext E53).keep K81 (fun q => ne_b32_b53 (List.mem_singleton.mp q)))
      have hin82 : ¬ ((5 : Int32) < 0 ∨ cl82.slots.size ≤ ((5 : Int32)).toNatClampNeg) := (inb_of Sz82 ⟨by decide, by decide⟩)
      have hat82 : cl82.slots[((5 : Int32)).toNatClampNeg]? = some (.int 1) := Ha82.at hin82 rfl
      refine oS (fun t k => X81.iaload hx (j := (5 : Int32)) (v := (.int 1)) Ar82.1 (State.isArrayOf_alike hZ.alike Ar82.2.1) Ar82.2.2 hin82 hat82 (g := (mkF m 156 #[.val (.int p1), .val (.int p2), .val (.int 5), .val (.ref b1), .val (.ref b32), .val (.ref b53), .unset] [(.int 5), (.ref b32)])) rfl rfl (hb hby at_156) t k) ?_
      show oG _ _ _ _ _ _ _ (T81.setTop (mkF m 157 #[.val (.int p1), .val (.int p2), .val (.int 5), .val (.ref b1), .val (.ref b32), .val (.ref b53), .unset] [(.int 1)]))
      refine oS (fun t k => XS.istore X81.here hx rfl (hb hby at_157) rfl (l' := #[.val (.int p1), .val (.int p2), .val (.int 5), .val (.ref b1), .val (.ref b32), .val (.ref b53), .val (.int 1)]) rfl k) ?_
      refine oS (fun t k => XS.aload X81.here hx rfl (hb hby at_159) rfl rfl k) ?_
      obtain ⟨cq83, kq83, q83a, q83b, q83c⟩ := isOf hZ rfl P81_0
      obtain ⟨_, _, ⟨T83, L83, k83, n83⟩, -, X83, ⟨Lc83, hQ83, l83, y83, z83⟩, st83⟩ := X81.virtualBack hx (y := mY2) (z := mY2) hown (mvT hZ (oW hw 43 rfl)) (mvT hZ (oW hw 44 rfl)) (notFace_of_selects (args := #[]) (mvT hZ (oW hw 46 rfl))) (mvT hZ (oW hw 46 rfl)) (mvT hZ (oW hw 45 rfl)) (by decide) (backOf (W := 0) (rm_desc_DUPLICATE_OUTPUT l Z a0 hw [] b53 p1 w T81.heap n0 O81 W P81_1 P81_2 hc144) hZ (oW hw 47 rfl) (oW hw 28 rfl) (by decide) (by decide)) q83a q83c (g := (mkF m 161 #[.val (.int p1), .val (.int p2), .val (.int 5), .val (.ref b1), .val (.ref b32), .val (.ref b53), .val (.int 1)] [(.ref b53)])) rfl (by rw [hml]; rfl) (Steps.refl _) (argsL := []) (rest := []) (lenOf pd_0 rfl) rfl (by show 2 * 0 + _ ≤ _; exact Nat.le_of_eq rfl) (hb hby at_161) (fun _ _ => ⟨rfl, rfl, (by decide : 3 + 0 ≤ _), (by decide : 24 + 0 ≤ _)⟩)
      dsimp only [Pt.U, Pt.locs, Pt.cells, Pt.slots] at X83 l83 y83 z83 st83 hQ83
      rw [l83, y83, z83] at X83
      clear l83 y83 z83
      obtain ⟨rfl, Nq83, e83⟩ := hQ83
      have N83 := Fr.app N81 Nq83
      refine oS (fun t k => st83.trans k) ?_
      show oG _ _ _ _ _ _ _ (T83.setTop (mkF m 164 #[.val (.int p1), .val (.int p2), .val (.int 5), .val (.ref b1), .val (.ref b32), .val (.ref b53), .val (.int 1)] [(.int 1)]))
      try clear st83 X81 e81
      refine oS (fun t k => XS.iload X83.here hx rfl (hb hby at_164) rfl k) ?_
      refine oS (fun t k => XS.icmpNo X83.here hx rfl (hb hby at_166) rfl (teq (by decide)).2 k) ?_
      refine oS (fun t k => oIc li_1 X83.here hx rfl (hb hby at_169) k) ?_
      show oG _ _ _ _ _ _ _ (T83.setTop (mkF m 170 #[.val (.int p1), .val (.int p2), .val (.int 5), .val (.ref b1), .val (.ref b32), .val (.ref b53), .val (.int 1)] [(.int 1)]))
      refine oS (fun t k => XS.goto X83.here hx rfl (pc0 := 170) (pc' := 174) rfl (hb hby at_170) (by decide) (by decide) k) ?_
      exact own_ret (v := some (.int 1)) X83 (fun h => by rw [Bd.returns] at h; cases h) Bd.notSynchronized (fun fs hr => retN X83 hx (t := .boolean) Bd.returns (by simp) (hb hby at_174) hr) (by rw [e83]; exact ⟨rfl, N83⟩) (by decide) (by decide)
    · refine oS (fun t k => XS.ifNo X81.here hx rfl (hb hby at_144) rfl ((if0 _ _).trans (flt hc144).1) k) ?_
      show oG _ _ _ _ _ _ _ (T81.setTop (mkF m 147 #[.val (.int p1), .val (.int p2), .val (.int 5), .val (.ref b1), .val (.ref b32), .val (.ref b53), .unset] []))
      refine oS (fun t k => XS.iloadN X81.here hx rfl (hb hby at_147) rfl k) ?_
      refine oS (fun t k => XS.istore X81.here hx rfl (hb hby at_148) rfl (l' := #[.val (.int p1), .val (.int p2), .val (.int 5), .val (.ref b1), .val (.ref b32), .val (.ref b53), .val (.int p1)]) rfl k) ?_
      refine oS (fun t k => XS.goto X81.here hx rfl (pc0 := 150) (pc' := 159) rfl (hb hby at_150) (by decide) (by decide) k) ?_
      show oG _ _ _ _ _ _ _ (T81.setTop (mkF m 159 #[.val (.int p1), .val (.int p2), .val (.int 5), .val (.ref b1), .val (.ref b32), .val (.ref b53), .val (.int p1)] []))
      refine oS (fun t k => XS.aload X81.here hx rfl (hb hby at_159) rfl rfl k) ?_
      obtain ⟨cq84, kq84, q84a, q84b, q84c⟩ := isOf hZ rfl P81_0
      obtain ⟨_, _, ⟨T84, L84, k84, n84⟩, -, X84, ⟨Lc84, hQ84, l84, y84, z84⟩, st84⟩ := X81.virtualBack hx (y := mY2) (z := mY2) hown (mvT hZ (oW hw 43 rfl)) (mvT hZ (oW hw 44 rfl)) (notFace_of_selects (args := #[]) (mvT hZ (oW hw 46 rfl))) (mvT hZ (oW hw 46 rfl)) (mvT hZ (oW hw 45 rfl)) (by decide) (backOf (W := 0) (rm_desc_n l Z a0 hw [] b53 p1 w T81.heap n0 O81 W P81_1 hc144) hZ (oW hw 47 rfl) (oW hw 28 rfl) (by decide) (by decide)) q84a q84c (g := (mkF m 161 #[.val (.int p1), .val (.int p2), .val (.int 5), .val (.ref b1), .val (.ref b32), .val (.ref b53), .val (.int p1)] [(.ref b53)])) rfl (by rw [hml]; rfl) (Steps.refl _) (argsL := []) (rest := []) (lenOf pd_0 rfl) rfl (by show 2 * 0 + _ ≤ _; exact Nat.le_of_eq rfl) (hb hby at_161) (fun _ _ => ⟨rfl, rfl, (by decide : 3 + 0 ≤ _), (by decide : 24 + 0 ≤ _)⟩)
      dsimp only [Pt.U, Pt.locs, Pt.cells, Pt.slots] at X84 l84 y84 z84 st84 hQ84
      rw [l84, y84, z84] at X84
      clear l84 y84 z84
      obtain ⟨rfl, Nq84, e84⟩ := hQ84
      have N84 := Fr.app N81 Nq84
      refine oS (fun t k => st84.trans k) ?_
      show oG _ _ _ _ _ _ _ (T84.setTop (mkF m 164 #[.val (.int p1), .val (.int p2), .val (.int 5), .val (.ref b1), .val (.ref b32), .val (.ref b53), .val (.int p1)] [(.int p1)]))
      try clear st84 X81 e81
      refine oS (fun t k => XS.iload X84.here hx rfl (hb hby at_164) rfl k) ?_
      refine oS (fun t k => XS.icmpNo X84.here hx rfl (hb hby at_166) rfl (teq rfl).2 k) ?_
      refine oS (fun t k => oIc li_1 X84.here hx rfl (hb hby at_169) k) ?_
      show oG _ _ _ _ _ _ _ (T84.setTop (mkF m 170 #[.val (.int p1), .val (.int p2), .val (.int 5), .val (.ref b1), .val (.ref b32), .val (.ref b53), .val (.int p1)] [(.int 1)]))
      refine oS (fun t k => XS.goto X84.here hx rfl (pc0 := 170) (pc' := 174) rfl (hb hby at_170) (by decide) (by decide) k) ?_
      exact own_ret (v := some (.int 1)) X84 (fun h => by rw [Bd.returns] at h; cases h) Bd.notSynchronized (fun fs hr => retN X84 hx (t := .boolean) Bd.returns (by simp) (hb hby at_174) hr) (by rw [e84]; exact ⟨rfl, N84⟩) (by decide) (by decide)
  · rw [hs54]
    show oG _ _ _ _ _ _ _ (T53.setTop (mkF m 135 #[.val (.int p1), .val (.int p2), .val (.int 6), .val (.ref b1), .val (.ref b32), .unset, .unset] [(.int 6), (.ref b1), (.int p1), (.ref b53), (.ref b53)]))
    obtain ⟨cl85, Ar85, qk85, Sz85, Ng85, Ha85, Gf85⟩ := id ((((((((((((V31.ext E32).other W34 ne_b1_b32).other W36 ne_b1_b32).other W38 ne_b1_b32).other W40 ne_b1_b32).other W42 ne_b1_b32).other W44 ne_b1_b32).other W46 ne_b1_b32).other W48 ne_b1_b32).other W50 ne_b1_b32).other W52 ne_b1_b32).ext E53)
    have hin85 : ¬ ((6 : Int32) < 0 ∨ cl85.slots.size ≤ ((6 : Int32)).toNatClampNeg) := (inb_of Sz85 ⟨by decide, by decide⟩)
    have hat85 : cl85.slots[((6 : Int32)).toNatClampNeg]? = some (.ref (w 6)) := Ha85.at hin85 rfl
    refine oS (fun t k => X53.aaload hx (j := (6 : Int32)) (v := (.ref (w 6))) (by rw [e53]; exact Ar85.1) (State.isArrayOf_alike hZ.alike Ar85.2.1) rfl Ar85.2.2 hin85 hat85 (g := (mkF m 135 #[.val (.int p1), .val (.int p2), .val (.int 6), .val (.ref b1), .val (.ref b32), .unset, .unset] [(.int 6), (.ref b1), (.int p1), (.ref b53), (.ref b53)])) rfl rfl (hb hby at_135) t k) ?_
    refine oS (fun t k => XS.aconstNull X53.here hx rfl (hb hby at_136) k) ?_
    show oG _ _ _ _ _ _ _ (T53.setTop (mkF m 137 #[.val (.int p1), .val (.int p2), .val (.int 6), .val (.ref b1), .val (.ref b32), .unset, .unset] [.null, (.ref (w 6)), (.int p1), (.ref b53), (.ref b53)]))
    refine oS (fun t k => XS.aconstNull X53.here hx rfl (hb hby at_137) k) ?_
    obtain ⟨_, _, ⟨T86, L86, k86, n86⟩, -, X86, ⟨Lc86, hQ86, l86, y86, z86⟩, st86⟩ := X53.specialBack hx (y := mY0) rfl hown (mvT hZ (oW hw 29 rfl)) (mvT hZ (oW hw 30 rfl)) (mvT hZ (oW hw 31 rfl)) (by decide) (backOf (W := 1) (rm_init l Z a0 hw [] b53 p1 (w 6) (.int 0) .null .null .null w h53 n0 O53 W A53 gx53 F_number_b53 F_operator_b53 F_word_b53 F_written_b53) hZ (oW hw 31 rfl) (oW hw 28 rfl) (by decide) (by decide)) (g := (mkF m 138 #[.val (.int p1), .val (.int p2), .val (.int 6), .val (.ref b1), .val (.ref b32), .unset, .unset] [.null, .null, (.ref (w 6)), (.int p1), (.ref b53), (.ref b53)])) rfl (by rw [hml]; rfl) (Steps.refl _) (a := b53) (argsL := [(.int p1), (.ref (w 6)), .null, .null]) (rest := [(.ref b53)]) (lenOf pd_1 rfl) rfl (by show 2 * 0 + _ ≤ _; exact Nat.le_of_eq rfl) (hb hby at_138) (fun _ _ => ⟨rfl, e53, (by decide : 3 + 0 ≤ _), (by decide : 24 + 0 ≤ _)⟩)
    dsimp only [Pt.U, Pt.locs, Pt.cells, Pt.slots] at X86 l86 y86 z86 st86 hQ86
    rw [l86, y86, z86] at X86
    clear l86 y86 z86
    obtain ⟨rfl, Nq86, K86, P86_0, P86_1, P86_2, P86_3, P86_4⟩ := hQ86
    have N86 := Fr.app N52 Nq86
    have O86 := O53.keep K86 (allS gx53 all0)
    refine oS (fun t k => st86.trans k) ?_
    show oG _ _ _ _ _ _ _ (T86.setTop (mkF m 141 #[.val (.int p1), .val (.int p2), .val (.int 6), .val (.ref b1), .val (.ref b32), .unset, .unset] [(.ref b53)]))
    try clear st86 X53 e53
    try clear T53
    refine oS (fun t k => XS.astore X86.here hx rfl (hb hby at_141) rfl rfl (l' := #[.val (.int p1), .val (.int p2), .val (.int 6), .val (.ref b1), .val (.ref b32), .val (.ref b53), .unset]) rfl k) ?_
    refine oS (fun t k => XS.iloadN X86.here hx rfl (hb hby at_143) rfl k) ?_
    by_cases hc144 : p1 < (0 : Int32)
    · refine oS (fun t k => XS.ifYes X86.here hx rfl (pc0 := 144) (pc' := 153) rfl (hb hby at_144) rfl ((if0 _ _).trans (tlt hc144).1) (by decide) (by decide) k) ?_
      show oG _ _ _ _ _ _ _ (T86.setTop (mkF m 153 #[.val (.int p1), .val (.int p2), .val (.int 6), .val (.ref b1), .val (.ref b32), .val (.ref b53), .unset] []))
      refine oS (fun t k => XS.aload X86.here hx rfl (hb hby at_153) rfl rfl k) ?_
      refine oS (fun t k => XS.iloadN X86.here hx rfl (hb hby at_155) rfl k) ?_
      obtain ⟨cl87, Ar87, qk87, Sz87, Ng87, Ha87, Gf87⟩ := id ((V52.ext E53).keep K86 (fun q => ne_b32_b53 (List.mem_singleton.mp q)))
      have hin87 : ¬ ((6 : Int32) < 0 ∨ cl87.slots.size ≤ ((6 : Int32)).toNatClampNeg) := (inb_of Sz87 ⟨by decide, by decide⟩)
      have hat87 : cl87.slots[((6 : Int32)).toNatClampNeg]? = some (.int 1) := Ha87.at hin87 rfl
      refine oS (fun t k => X86.iaload hx (j := (6 : Int32)) (v := (.int 1)) Ar87.1 (State.isArrayOf_alike hZ.alike Ar87.2.1) Ar87.2.2 hin87 hat87 (g := (mkF m 156 #[.val (.int p1), .val (.int p2), .val (.int 6), .val (.ref b1), .val (.ref b32), .val (.ref b53), .unset] [(.int 6), (.ref b32)])) rfl rfl (hb hby at_156) t k) ?_
      show oG _ _ _ _ _ _ _ (T86.setTop (mkF m 157 #[.val (.int p1), .val (.int p2), .val (.int 6), .val (.ref b1), .val (.ref b32), .val (.ref b53), .unset] [(.int 1)]))
      refine oS (fun t k => XS.istore X86.here hx rfl (hb hby at_157) rfl (l' := #[.val (.int p1), .val (.int p2), .val (.int 6), .val (.ref b1), .val (.ref b32), .val (.ref b53), .val (.int 1)]) rfl k) ?_
      refine oS (fun t k => XS.aload X86.here hx rfl (hb hby at_159) rfl rfl k) ?_
      obtain ⟨cq88, kq88, q88a, q88b, q88c⟩ := isOf hZ rfl P86_0
      obtain ⟨_, _, ⟨T88, L88, k88, n88⟩, -, X88, ⟨Lc88, hQ88, l88, y88, z88⟩, st88⟩ := X86.virtualBack hx (y := mY2) (z := mY2) hown (mvT hZ (oW hw 43 rfl)) (mvT hZ (oW hw 44 rfl)) (notFace_of_selects (args := #[]) (mvT hZ (oW hw 46 rfl))) (mvT hZ (oW hw 46 rfl)) (mvT hZ (oW hw 45 rfl)) (by decide) (backOf (W := 0) (rm_desc_OUTPUT_AND_ERROR l Z a0 hw [] b53 p1 w T86.heap n0 O86 W P86_1 P86_2 hc144) hZ (oW hw 47 rfl) (oW hw 28 rfl) (by decide) (by decide)) q88a q88c (g := (mkF m 161 #[.val (.int p1), .val (.int p2), .val (.int 6), .val (.ref b1), .val (.ref b32), .val (.ref b53), .val (.int 1)] [(.ref b53)])) rfl (by rw [hml]; rfl) (Steps.refl _) (argsL := []) (rest := []) (lenOf pd_0 rfl) rfl (by show 2 * 0 + _ ≤ _; exact Nat.le_of_eq rfl) (hb hby at_161) (fun _ _ => ⟨rfl, rfl, (by decide : 3 + 0 ≤ _), (by decide : 24 + 0 ≤ _)⟩)
      dsimp only [Pt.U, Pt.locs, Pt.cells, Pt.slots] at X88 l88 y88 z88 st88 hQ88
      rw [l88, y88, z88] at X88
      clear l88 y88 z88
      obtain ⟨rfl, Nq88, e88⟩ := hQ88
      have N88 := Fr.app N86 Nq88
      refine oS (fun t k => st88.trans k) ?_
      show oG _ _ _ _ _ _ _ (T88.setTop (mkF m 164 #[.val (.int p1), .val (.int p2), .val (.int 6), .val (.ref b1), .val (.ref b32), .val (.ref b53), .val (.int 1)] [(.int 1)]))
      try clear st88 X86 e86
      refine oS (fun t k => XS.iload X88.here hx rfl (hb hby at_164) rfl k) ?_
      refine oS (fun t k => XS.icmpNo X88.here hx rfl (hb hby at_166) rfl (teq (by decide)).2 k) ?_
      refine oS (fun t k => oIc li_1 X88.here hx rfl (hb hby at_169) k) ?_
      show oG _ _ _ _ _ _ _ (T88.setTop (mkF m 170 #[.val (.int p1), .val (.int p2), .val (.int 6), .val (.ref b1), .val (.ref b32), .val (.ref b53), .val (.int 1)] [(.int 1)]))
      refine oS (fun t k => XS.goto X88.here hx rfl (pc0 := 170) (pc' := 174) rfl (hb hby at_170) (by decide) (by decide) k) ?_
      exact own_ret (v := some (.int 1)) X88 (fun h => by rw [Bd.returns] at h; cases h) Bd.notSynchronized (fun fs hr => retN X88 hx (t := .boolean) Bd.returns (by simp) (hb hby at_174) hr) (by rw [e88]; exact ⟨rfl, N88⟩) (by decide) (by decide)
    · refine oS (fun t k => XS.ifNo X86.here hx rfl (hb hby at_144) rfl ((if0 _ _).trans (flt hc144).1) k) ?_
      show oG _ _ _ _ _ _ _ (T86.setTop (mkF m 147 #[.val (.int p1), .val (.int p2), .val (.int 6), .val (.ref b1), .val (.ref b32), .val (.ref b53), .unset] []))
      refine oS (fun t k => XS.iloadN X86.here hx rfl (hb hby at_147) rfl k) ?_
      refine oS (fun t k => XS.istore X86.here hx rfl (hb hby at_148) rfl (l' := #[.val (.int p1), .val (.int p2), .val (.int 6), .val (.ref b1), .val (.ref b32), .val (.ref b53), .val (.int p1)]) rfl k) ?_
      refine oS (fun t k => XS.goto X86.here hx rfl (pc0 := 150) (pc' := 159) rfl (hb hby at_150) (by decide) (by decide) k) ?_
      show oG _ _ _ _ _ _ _ (T86.setTop (mkF m 159 #[.val (.int p1), .val (.int p2), .val (.int 6), .val (.ref b1), .val (.ref b32), .val (.ref b53), .val (.int p1)] []))
      refine oS (fun t k => XS.aload X86.here hx rfl (hb hby at_159) rfl rfl k) ?_
      obtain ⟨cq89, kq89, q89a, q89b, q89c⟩ := isOf hZ rfl P86_0
      obtain ⟨_, _, ⟨T89, L89, k89, n89⟩, -, X89, ⟨Lc89, hQ89, l89, y89, z89⟩, st89⟩ := X86.virtualBack hx (y := mY2) (z := mY2) hown (mvT hZ (oW hw 43 rfl)) (mvT hZ (oW hw 44 rfl)) (notFace_of_selects (args := #[]) (mvT hZ (oW hw 46 rfl))) (mvT hZ (oW hw 46 rfl)) (mvT hZ (oW hw 45 rfl)) (by decide) (backOf (W := 0) (rm_desc_n l Z a0 hw [] b53 p1 w T86.heap n0 O86 W P86_1 hc144) hZ (oW hw 47 rfl) (oW hw 28 rfl) (by decide) (by decide)) q89a q89c (g := (mkF m 161 #[.val (.int p1), .val (.int p2), .val (.int 6), .val (.ref b1), .val (.ref b32), .val (.ref b53), .val (.int p1)] [(.ref b53)])) rfl (by rw [hml]; rfl) (Steps.refl _) (argsL := []) (rest := []) (lenOf pd_0 rfl) rfl (by show 2 * 0 + _ ≤ _; exact Nat.le_of_eq rfl) (hb hby at_161) (fun _ _ => ⟨rfl, rfl, (by decide : 3 + 0 ≤ _), (by decide : 24 + 0 ≤ _)⟩)
      dsimp only [Pt.U, Pt.locs, Pt.cells, Pt.slots] at X89 l89 y89 z89 st89 hQ89
      rw [l89, y89, z89] at X89
      clear l89 y89 z89
      obtain ⟨rfl, Nq89, e89⟩ := hQ89
      have N89 := Fr.app N86 Nq89
      refine oS (fun t k => st89.trans k) ?_
      show oG _ _ _ _ _ _ _ (T89.setTop (mkF m 164 #[.val (.int p1), .val (.int p2), .val (.int 6), .val (.ref b1), .val (.ref b32), .val (.ref b53), .val (.int p1)] [(.int p1)]))
      try clear st89 X86 e86
      refine oS (fun t k => XS.iload X89.here hx rfl (hb hby at_164) rfl k) ?_
      refine oS (fun t k => XS.icmpNo X89.here hx rfl (hb hby at_166) rfl (teq rfl).2 k) ?_
      refine oS (fun t k => oIc li_1 X89.here hx rfl (hb hby at_169) k) ?_
      show oG _ _ _ _ _ _ _ (T89.setTop (mkF m 170 #[.val (.int p1), .val (.int p2), .val (.int 6), .val (.ref b1), .val (.ref b32), .val (.ref b53), .val (.int p1)] [(.int 1)]))
      refine oS (fun t k => XS.goto X89.here hx rfl (pc0 := 170) (pc' := 174) rfl (hb hby at_170) (by decide) (by decide) k) ?_
      exact own_ret (v := some (.int 1)) X89 (fun h => by rw [Bd.returns] at h; cases h) Bd.notSynchronized (fun fs hr => retN X89 hx (t := .boolean) Bd.returns (by simp) (hb hby at_174) hr) (by rw [e89]; exact ⟨rfl, N89⟩) (by decide) (by decide)
  · rw [hs54]
    show oG _ _ _ _ _ _ _ (T53.setTop (mkF m 135 #[.val (.int p1), .val (.int p2), .val (.int 7), .val (.ref b1), .val (.ref b32), .unset, .unset] [(.int 7), (.ref b1), (.int p1), (.ref b53), (.ref b53)]))
    obtain ⟨cl90, Ar90, qk90, Sz90, Ng90, Ha90, Gf90⟩ := id ((((((((((((V31.ext E32).other W34 ne_b1_b32).other W36 ne_b1_b32).other W38 ne_b1_b32).other W40 ne_b1_b32).other W42 ne_b1_b32).other W44 ne_b1_b32).other W46 ne_b1_b32).other W48 ne_b1_b32).other W50 ne_b1_b32).other W52 ne_b1_b32).ext E53)
    have hin90 : ¬ ((7 : Int32) < 0 ∨ cl90.slots.size ≤ ((7 : Int32)).toNatClampNeg) := (inb_of Sz90 ⟨by decide, by decide⟩)
    have hat90 : cl90.slots[((7 : Int32)).toNatClampNeg]? = some (.ref (w 7)) := Ha90.at hin90 rfl
    refine oS (fun t k => X53.aaload hx (j := (7 : Int32)) (v := (.ref (w 7))) (by rw [e53]; exact Ar90.1) (State.isArrayOf_alike hZ.alike Ar90.2.1) rfl Ar90.2.2 hin90 hat90 (g := (mkF m 135 #[.val (.int p1), .val (.int p2), .val (.int 7), .val (.ref b1), .val (.ref b32), .unset, .unset] [(.int 7), (.ref b1), (.int p1), (.ref b53), (.ref b53)])) rfl rfl (hb hby at_135) t k) ?_
    refine oS (fun t k => XS.aconstNull X53.here hx rfl (hb hby at_136) k) ?_
    show oG _ _ _ _ _ _ _ (T53.setTop (mkF m 137 #[.val (.int p1), .val (.int p2), .val (.int 7), .val (.ref b1), .val (.ref b32), .unset, .unset] [.null, (.ref (w 7)), (.int p1), (.ref b53), (.ref b53)]))
    refine oS (fun t k => XS.aconstNull X53.here hx rfl (hb hby at_137) k) ?_
    obtain ⟨_, _, ⟨T91, L91, k91, n91⟩, -, X91, ⟨Lc91, hQ91, l91, y91, z91⟩, st91⟩ := X53.specialBack hx (y := mY0) rfl hown (mvT hZ (oW hw 29 rfl)) (mvT hZ (oW hw 30 rfl)) (mvT hZ (oW hw 31 rfl)) (by decide) (backOf (W := 1) (rm_init l Z a0 hw [] b53 p1 (w 7) (.int 0) .null .null .null w h53 n0 O53 W A53 gx53 F_number_b53 F_operator_b53 F_word_b53 F_written_b53) hZ (oW hw 31 rfl) (oW hw 28 rfl) (by decide) (by decide)) (g := (mkF m 138 #[.val (.int p1), .val (.int p2), .val (.int 7), .val (.ref b1), .val (.ref b32), .unset, .unset] [.null, .null, (.ref (w 7)), (.int p1), (.ref b53), (.ref b53)])) rfl (by rw [hml]; rfl) (Steps.refl _) (a := b53) (argsL := [(.int p1), (.ref (w 7)), .null, .null]) (rest := [(.ref b53)]) (lenOf pd_1 rfl) rfl (by show 2 * 0 + _ ≤ _; exact Nat.le_of_eq rfl) (hb hby at_138) (fun _ _ => ⟨rfl, e53, (by decide : 3 + 0 ≤ _), (by decide : 24 + 0 ≤ _)⟩)
    dsimp only [Pt.U, Pt.locs, Pt.cells, Pt.slots] at X91 l91 y91 z91 st91 hQ91
    rw [l91, y91, z91] at X91
    clear l91 y91 z91
    obtain ⟨rfl, Nq91, K91, P91_0, P91_1, P91_2, P91_3, P91_4⟩ := hQ91
    have N91 := Fr.app N52 Nq91
    have O91 := O53.keep K91 (allS gx53 all0)
    refine oS (fun t k => st91.trans k) ?_
    show oG _ _ _ _ _ _ _ (T91.setTop (mkF m 141 #[.val (.int p1), .val (.int p2), .val (.int 7), .val (.ref b1), .val (.ref b32), .unset, .unset] [(.ref b53)]))
    try clear st91 X53 e53
    try clear T53
    refine oS (fun t k => XS.astore X91.here hx rfl (hb hby at_141) rfl rfl (l' := #[.val (.int p1), .val (.int p2), .val (.int 7), .val (.ref b1), .val (.ref b32), .val (.ref b53), .unset]) rfl k) ?_
    refine oS (fun t k => XS.iloadN X91.here hx rfl (hb hby at_143) rfl k) ?_
    by_cases hc144 : p1 < (0 : Int32)
    · refine oS (fun t k => XS.ifYes X91.here hx rfl (pc0 := 144) (pc' := 153) rfl (hb hby at_144) rfl ((if0 _ _).trans (tlt hc144).1) (by decide) (by decide) k) ?_
      show oG _ _ _ _ _ _ _ (T91.setTop (mkF m 153 #[.val (.int p1), .val (.int p2), .val (.int 7), .val (.ref b1), .val (.ref b32), .val (.ref b53), .unset] []))
      refine oS (fun t k => XS.aload X91.here hx rfl (hb hby at_153) rfl rfl k) ?_
      refine oS (fun t k => XS.iloadN X91.here hx rfl (hb hby at_155) rfl k) ?_
      obtain ⟨cl92, Ar92, qk92, Sz92, Ng92, Ha92, Gf92⟩ := id ((V52.ext E53).keep K91 (fun q => ne_b32_b53 (List.mem_singleton.mp q)))
      have hin92 : ¬ ((7 : Int32) < 0 ∨ cl92.slots.size ≤ ((7 : Int32)).toNatClampNeg) := (inb_of Sz92 ⟨by decide, by decide⟩)
      have hat92 : cl92.slots[((7 : Int32)).toNatClampNeg]? = some (.int 1) := Ha92.at hin92 rfl
      refine oS (fun t k => X91.iaload hx (j := (7 : Int32)) (v := (.int 1)) Ar92.1 (State.isArrayOf_alike hZ.alike Ar92.2.1) Ar92.2.2 hin92 hat92 (g := (mkF m 156 #[.val (.int p1), .val (.int p2), .val (.int 7), .val (.ref b1), .val (.ref b32), .val (.ref b53), .unset] [(.int 7), (.ref b32)])) rfl rfl (hb hby at_156) t k) ?_
      show oG _ _ _ _ _ _ _ (T91.setTop (mkF m 157 #[.val (.int p1), .val (.int p2), .val (.int 7), .val (.ref b1), .val (.ref b32), .val (.ref b53), .unset] [(.int 1)]))
      refine oS (fun t k => XS.istore X91.here hx rfl (hb hby at_157) rfl (l' := #[.val (.int p1), .val (.int p2), .val (.int 7), .val (.ref b1), .val (.ref b32), .val (.ref b53), .val (.int 1)]) rfl k) ?_
      refine oS (fun t k => XS.aload X91.here hx rfl (hb hby at_159) rfl rfl k) ?_
      obtain ⟨cq93, kq93, q93a, q93b, q93c⟩ := isOf hZ rfl P91_0
      obtain ⟨_, _, ⟨T93, L93, k93, n93⟩, -, X93, ⟨Lc93, hQ93, l93, y93, z93⟩, st93⟩ := X91.virtualBack hx (y := mY2) (z := mY2) hown (mvT hZ (oW hw 43 rfl)) (mvT hZ (oW hw 44 rfl)) (notFace_of_selects (args := #[]) (mvT hZ (oW hw 46 rfl))) (mvT hZ (oW hw 46 rfl)) (mvT hZ (oW hw 45 rfl)) (by decide) (backOf (W := 0) (rm_desc_APPEND_OUTPUT_AND_ERROR l Z a0 hw [] b53 p1 w T91.heap n0 O91 W P91_1 P91_2 hc144) hZ (oW hw 47 rfl) (oW hw 28 rfl) (by decide) (by decide)) q93a q93c (g := (mkF m 161 #[.val (.int p1), .val (.int p2), .val (.int 7), .val (.ref b1), .val (.ref b32), .val (.ref b53), .val (.int 1)] [(.ref b53)])) rfl (by rw [hml]; rfl) (Steps.refl _) (argsL := []) (rest := []) (lenOf pd_0 rfl) rfl (by show 2 * 0 + _ ≤ _; exact Nat.le_of_eq rfl) (hb hby at_161) (fun _ _ => ⟨rfl, rfl, (by decide : 3 + 0 ≤ _), (by decide : 24 + 0 ≤ _)⟩)
      dsimp only [Pt.U, Pt.locs, Pt.cells, Pt.slots] at X93 l93 y93 z93 st93 hQ93
      rw [l93, y93, z93] at X93
      clear l93 y93 z93
      obtain ⟨rfl, Nq93, e93⟩ := hQ93
      have N93 := Fr.app N91 Nq93
      refine oS (fun t k => st93.trans k) ?_
      show oG _ _ _ _ _ _ _ (T93.setTop (mkF m 164 #[.val (.int p1), .val (.int p2), .val (.int 7), .val (.ref b1), .val (.ref b32), .val (.ref b53), .val (.int 1)] [(.int 1)]))
      try clear st93 X91 e91
      refine oS (fun t k => XS.iload X93.here hx rfl (hb hby at_164) rfl k) ?_
      refine oS (fun t k => XS.icmpNo X93.here hx rfl (hb hby at_166) rfl (teq (by decide)).2 k) ?_
      refine oS (fun t k => oIc li_1 X93.here hx rfl (hb hby at_169) k) ?_
      show oG _ _ _ _ _ _ _ (T93.setTop (mkF m 170 #[.val (.int p1), .val (.int p2), .val (.int 7), .val (.ref b1), .val (.ref b32), .val (.ref b53), .val (.int 1)] [(.int 1)]))
      refine oS (fun t k => XS.goto X93.here hx rfl (pc0 := 170) (pc' := 174) rfl (hb hby at_170) (by decide) (by decide) k) ?_
      exact own_ret (v := some (.int 1)) X93 (fun h => by rw [Bd.returns] at h; cases h) Bd.notSynchronized (fun fs hr => retN X93 hx (t := .boolean) Bd.returns (by simp) (hb hby at_174) hr) (by rw [e93]; exact ⟨rfl, N93⟩) (by decide) (by decide)
    · refine oS (fun t k => XS.ifNo X91.here hx rfl (hb hby at_144) rfl ((if0 _ _).trans (flt hc144).1) k) ?_
      show oG _ _ _ _ _ _ _ (T91.setTop (mkF m 147 #[.val (.int p1), .val (.int p2), .val (.int 7), .val (.ref b1), .val (.ref b32), .val (.ref b53), .unset] []))
      refine oS (fun t k => XS.iloadN X91.here hx rfl (hb hby at_147) rfl k) ?_
      refine oS (fun t k => XS.istore X91.here hx rfl (hb hby at_148) rfl (l' := #[.val (.int p1), .val (.int p2), .val (.int 7), .val (.ref b1), .val (.ref b32), .val (.ref b53), .val (.int p1)]) rfl k) ?_
      refine oS (fun t k => XS.goto X91.here hx rfl (pc0 := 150) (pc' := 159) rfl (hb hby at_150) (by decide) (by decide) k) ?_
      show oG _ _ _ _ _ _ _ (T91.setTop (mkF m 159 #[.val (.int p1), .val (.int p2), .val (.int 7), .val (.ref b1), .val (.ref b32), .val (.ref b53), .val (.int p1)] []))
      refine oS (fun t k => XS.aload X91.here hx rfl (hb hby at_159) rfl rfl k) ?_
      obtain ⟨cq94, kq94, q94a, q94b, q94c⟩ := isOf hZ rfl P91_0
      obtain ⟨_, _, ⟨T94, L94, k94, n94⟩, -, X94, ⟨Lc94, hQ94, l94, y94, z94⟩, st94⟩ := X91.virtualBack hx (y := mY2) (z := mY2) hown (mvT hZ (oW hw 43 rfl)) (mvT hZ (oW hw 44 rfl)) (notFace_of_selects (args := #[]) (mvT hZ (oW hw 46 rfl))) (mvT hZ (oW hw 46 rfl)) (mvT hZ (oW hw 45 rfl)) (by decide) (backOf (W := 0) (rm_desc_n l Z a0 hw [] b53 p1 w T91.heap n0 O91 W P91_1 hc144) hZ (oW hw 47 rfl) (oW hw 28 rfl) (by decide) (by decide)) q94a q94c (g := (mkF m 161 #[.val (.int p1), .val (.int p2), .val (.int 7), .val (.ref b1), .val (.ref b32), .val (.ref b53), .val (.int p1)] [(.ref b53)])) rfl (by rw [hml]; rfl) (Steps.refl _) (argsL := []) (rest := []) (lenOf pd_0 rfl) rfl (by show 2 * 0 + _ ≤ _; exact Nat.le_of_eq rfl) (hb hby at_161) (fun _ _ => ⟨rfl, rfl, (by decide : 3 + 0 ≤ _), (by decide : 24 + 0 ≤ _)⟩)
      dsimp only [Pt.U, Pt.locs, Pt.cells, Pt.slots] at X94 l94 y94 z94 st94 hQ94
      rw [l94, y94, z94] at X94
      clear l94 y94 z94
      obtain ⟨rfl, Nq94, e94⟩ := hQ94
      have N94 := Fr.app N91 Nq94
      refine oS (fun t k => st94.trans k) ?_
      show oG _ _ _ _ _ _ _ (T94.setTop (mkF m 164 #[.val (.int p1), .val (.int p2), .val (.int 7), .val (.ref b1), .val (.ref b32), .val (.ref b53), .val (.int p1)] [(.int p1)]))
      try clear st94 X91 e91
      refine oS (fun t k => XS.iload X94.here hx rfl (hb hby at_164) rfl k) ?_
      refine oS (fun t k => XS.icmpNo X94.here hx rfl (hb hby at_166) rfl (teq rfl).2 k) ?_
      refine oS (fun t k => oIc li_1 X94.here hx rfl (hb hby at_169) k) ?_
      show oG _ _ _ _ _ _ _ (T94.setTop (mkF m 170 #[.val (.int p1), .val (.int p2), .val (.int 7), .val (.ref b1), .val (.ref b32), .val (.ref b53), .val (.int p1)] [(.int 1)]))
      refine oS (fun t k => XS.goto X94.here hx rfl (pc0 := 170) (pc' := 174) rfl (hb hby at_170) (by decide) (by decide) k) ?_
      exact own_ret (v := some (.int 1)) X94 (fun h => by rw [Bd.returns] at h; cases h) Bd.notSynchronized (fun fs hr => retN X94 hx (t := .boolean) Bd.returns (by simp) (hb hby at_174) hr) (by rw [e94]; exact ⟨rfl, N94⟩) (by decide) (by decide)
  · rw [hs54]
    show oG _ _ _ _ _ _ _ (T53.setTop (mkF m 135 #[.val (.int p1), .val (.int p2), .val (.int 8), .val (.ref b1), .val (.ref b32), .unset, .unset] [(.int 8), (.ref b1), (.int p1), (.ref b53), (.ref b53)]))
    obtain ⟨cl95, Ar95, qk95, Sz95, Ng95, Ha95, Gf95⟩ := id ((((((((((((V31.ext E32).other W34 ne_b1_b32).other W36 ne_b1_b32).other W38 ne_b1_b32).other W40 ne_b1_b32).other W42 ne_b1_b32).other W44 ne_b1_b32).other W46 ne_b1_b32).other W48 ne_b1_b32).other W50 ne_b1_b32).other W52 ne_b1_b32).ext E53)
    have hin95 : ¬ ((8 : Int32) < 0 ∨ cl95.slots.size ≤ ((8 : Int32)).toNatClampNeg) := (inb_of Sz95 ⟨by decide, by decide⟩)
    have hat95 : cl95.slots[((8 : Int32)).toNatClampNeg]? = some (.ref (w 8)) := Ha95.at hin95 rfl
    refine oS (fun t k => X53.aaload hx (j := (8 : Int32)) (v := (.ref (w 8))) (by rw [e53]; exact Ar95.1) (State.isArrayOf_alike hZ.alike Ar95.2.1) rfl Ar95.2.2 hin95 hat95 (g := (mkF m 135 #[.val (.int p1), .val (.int p2), .val (.int 8), .val (.ref b1), .val (.ref b32), .unset, .unset] [(.int 8), (.ref b1), (.int p1), (.ref b53), (.ref b53)])) rfl rfl (hb hby at_135) t k) ?_
    refine oS (fun t k => XS.aconstNull X53.here hx rfl (hb hby at_136) k) ?_
    show oG _ _ _ _ _ _ _ (T53.setTop (mkF m 137 #[.val (.int p1), .val (.int p2), .val (.int 8), .val (.ref b1), .val (.ref b32), .unset, .unset] [.null, (.ref (w 8)), (.int p1), (.ref b53), (.ref b53)]))
    refine oS (fun t k => XS.aconstNull X53.here hx rfl (hb hby at_137) k) ?_
    obtain ⟨_, _, ⟨T96, L96, k96, n96⟩, -, X96, ⟨Lc96, hQ96, l96, y96, z96⟩, st96⟩ := X53.specialBack hx (y := mY0) rfl hown (mvT hZ (oW hw 29 rfl)) (mvT hZ (oW hw 30 rfl)) (mvT hZ (oW hw 31 rfl)) (by decide) (backOf (W := 1) (rm_init l Z a0 hw [] b53 p1 (w 8) (.int 0) .null .null .null w h53 n0 O53 W A53 gx53 F_number_b53 F_operator_b53 F_word_b53 F_written_b53) hZ (oW hw 31 rfl) (oW hw 28 rfl) (by decide) (by decide)) (g := (mkF m 138 #[.val (.int p1), .val (.int p2), .val (.int 8), .val (.ref b1), .val (.ref b32), .unset, .unset] [.null, .null, (.ref (w 8)), (.int p1), (.ref b53), (.ref b53)])) rfl (by rw [hml]; rfl) (Steps.refl _) (a := b53) (argsL := [(.int p1), (.ref (w 8)), .null, .null]) (rest := [(.ref b53)]) (lenOf pd_1 rfl) rfl (by show 2 * 0 + _ ≤ _; exact Nat.le_of_eq rfl) (hb hby at_138) (fun _ _ => ⟨rfl, e53, (by decide : 3 + 0 ≤ _), (by decide : 24 + 0 ≤ _)⟩)
    dsimp only [Pt.U, Pt.locs, Pt.cells, Pt.slots] at X96 l96 y96 z96 st96 hQ96
    rw [l96, y96, z96] at X96
    clear l96 y96 z96
    obtain ⟨rfl, Nq96, K96, P96_0, P96_1, P96_2, P96_3, P96_4⟩ := hQ96
    have N96 := Fr.app N52 Nq96
    have O96 := O53.keep K96 (allS gx53 all0)
    refine oS (fun t k => st96.trans k) ?_
    show oG _ _ _ _ _ _ _ (T96.setTop (mkF m 141 #[.val (.int p1), .val (.int p2), .val (.int 8), .val (.ref b1), .val (.ref b32), .unset, .unset] [(.ref b53)]))
    try clear st96 X53 e53
    try clear T53
    refine oS (fun t k => XS.astore X96.here hx rfl (hb hby at_141) rfl rfl (l' := #[.val (.int p1), .val (.int p2), .val (.int 8), .val (.ref b1), .val (.ref b32), .val (.ref b53), .unset]) rfl k) ?_
    refine oS (fun t k => XS.iloadN X96.here hx rfl (hb hby at_143) rfl k) ?_
    by_cases hc144 : p1 < (0 : Int32)
    · refine oS (fun t k => XS.ifYes X96.here hx rfl (pc0 := 144) (pc' := 153) rfl (hb hby at_144) rfl ((if0 _ _).trans (tlt hc144).1) (by decide) (by decide) k) ?_
      show oG _ _ _ _ _ _ _ (T96.setTop (mkF m 153 #[.val (.int p1), .val (.int p2), .val (.int 8), .val (.ref b1), .val (.ref b32), .val (.ref b53), .unset] []))
      refine oS (fun t k => XS.aload X96.here hx rfl (hb hby at_153) rfl rfl k) ?_
      refine oS (fun t k => XS.iloadN X96.here hx rfl (hb hby at_155) rfl k) ?_
      obtain ⟨cl97, Ar97, qk97, Sz97, Ng97, Ha97, Gf97⟩ := id ((V52.ext E53).keep K96 (fun q => ne_b32_b53 (List.mem_singleton.mp q)))
      have hin97 : ¬ ((8 : Int32) < 0 ∨ cl97.slots.size ≤ ((8 : Int32)).toNatClampNeg) := (inb_of Sz97 ⟨by decide, by decide⟩)
      have hat97 : cl97.slots[((8 : Int32)).toNatClampNeg]? = some (.int 0) := Ha97.at hin97 rfl
      refine oS (fun t k => X96.iaload hx (j := (8 : Int32)) (v := (.int 0)) Ar97.1 (State.isArrayOf_alike hZ.alike Ar97.2.1) Ar97.2.2 hin97 hat97 (g := (mkF m 156 #[.val (.int p1), .val (.int p2), .val (.int 8), .val (.ref b1), .val (.ref b32), .val (.ref b53), .unset] [(.int 8), (.ref b32)])) rfl rfl (hb hby at_156) t k) ?_
      show oG _ _ _ _ _ _ _ (T96.setTop (mkF m 157 #[.val (.int p1), .val (.int p2), .val (.int 8), .val (.ref b1), .val (.ref b32), .val (.ref b53), .unset] [(.int 0)]))
      refine oS (fun t k => XS.istore X96.here hx rfl (hb hby at_157) rfl (l' := #[.val (.int p1), .val (.int p2), .val (.int 8), .val (.ref b1), .val (.ref b32), .val (.ref b53), .val (.int 0)]) rfl k) ?_
      refine oS (fun t k => XS.aload X96.here hx rfl (hb hby at_159) rfl rfl k) ?_
      obtain ⟨cq98, kq98, q98a, q98b, q98c⟩ := isOf hZ rfl P96_0
      obtain ⟨_, _, ⟨T98, L98, k98, n98⟩, -, X98, ⟨Lc98, hQ98, l98, y98, z98⟩, st98⟩ := X96.virtualBack hx (y := mY2) (z := mY2) hown (mvT hZ (oW hw 43 rfl)) (mvT hZ (oW hw 44 rfl)) (notFace_of_selects (args := #[]) (mvT hZ (oW hw 46 rfl))) (mvT hZ (oW hw 46 rfl)) (mvT hZ (oW hw 45 rfl)) (by decide) (backOf (W := 0) (rm_desc_HERE_DOCUMENT l Z a0 hw [] b53 p1 w T96.heap n0 O96 W P96_1 P96_2 hc144) hZ (oW hw 47 rfl) (oW hw 28 rfl) (by decide) (by decide)) q98a q98c (g := (mkF m 161 #[.val (.int p1), .val (.int p2), .val (.int 8), .val (.ref b1), .val (.ref b32), .val (.ref b53), .val (.int 0)] [(.ref b53)])) rfl (by rw [hml]; rfl) (Steps.refl _) (argsL := []) (rest := []) (lenOf pd_0 rfl) rfl (by show 2 * 0 + _ ≤ _; exact Nat.le_of_eq rfl) (hb hby at_161) (fun _ _ => ⟨rfl, rfl, (by decide : 3 + 0 ≤ _), (by decide : 24 + 0 ≤ _)⟩)
      dsimp only [Pt.U, Pt.locs, Pt.cells, Pt.slots] at X98 l98 y98 z98 st98 hQ98
      rw [l98, y98, z98] at X98
      clear l98 y98 z98
      obtain ⟨rfl, Nq98, e98⟩ := hQ98
      have N98 := Fr.app N96 Nq98
      refine oS (fun t k => st98.trans k) ?_
      show oG _ _ _ _ _ _ _ (T98.setTop (mkF m 164 #[.val (.int p1), .val (.int p2), .val (.int 8), .val (.ref b1), .val (.ref b32), .val (.ref b53), .val (.int 0)] [(.int 0)]))
      try clear st98 X96 e96
      refine oS (fun t k => XS.iload X98.here hx rfl (hb hby at_164) rfl k) ?_
      refine oS (fun t k => XS.icmpNo X98.here hx rfl (hb hby at_166) rfl (teq (by decide)).2 k) ?_
      refine oS (fun t k => oIc li_1 X98.here hx rfl (hb hby at_169) k) ?_
      show oG _ _ _ _ _ _ _ (T98.setTop (mkF m 170 #[.val (.int p1), .val (.int p2), .val (.int 8), .val (.ref b1), .val (.ref b32), .val (.ref b53), .val (.int 0)] [(.int 1)]))
      refine oS (fun t k => XS.goto X98.here hx rfl (pc0 := 170) (pc' := 174) rfl (hb hby at_170) (by decide) (by decide) k) ?_
      exact own_ret (v := some (.int 1)) X98 (fun h => by rw [Bd.returns] at h; cases h) Bd.notSynchronized (fun fs hr => retN X98 hx (t := .boolean) Bd.returns (by simp) (hb hby at_174) hr) (by rw [e98]; exact ⟨rfl, N98⟩) (by decide) (by decide)
    · refine oS (fun t k => XS.ifNo X96.here hx rfl (hb hby at_144) rfl ((if0 _ _).trans (flt hc144).1) k) ?_
      show oG _ _ _ _ _ _ _ (T96.setTop (mkF m 147 #[.val (.int p1), .val (.int p2), .val (.int 8), .val (.ref b1), .val (.ref b32), .val (.ref b53), .unset] []))
      refine oS (fun t k => XS.iloadN X96.here hx rfl (hb hby at_147) rfl k) ?_
      refine oS (fun t k => XS.istore X96.here hx rfl (hb hby at_148) rfl (l' := #[.val (.int p1), .val (.int p2), .val (.int 8), .val (.ref b1), .val (.ref b32), .val (.ref b53), .val (.int p1)]) rfl k) ?_
      refine oS (fun t k => XS.goto X96.here hx rfl (pc0 := 150) (pc' := 159) rfl (hb hby at_150) (by decide) (by decide) k) ?_
      show oG _ _ _ _ _ _ _ (T96.setTop (mkF m 159 #[.val (.int p1), .val (.int p2), .val (.int 8), .val (.ref b1), .val (.ref b32), .val (.ref b53), .val (.int p1)] []))
      refine oS (fun t k => XS.aload X96.here hx rfl (hb hby at_159) rfl rfl k) ?_
      obtain ⟨cq99, kq99, q99a, q99b, q99c⟩ := isOf hZ rfl P96_0
      obtain ⟨_, _, ⟨T99, L99, k99, n99⟩, -, X99, ⟨Lc99, hQ99, l99, y99, z99⟩, st99⟩ := X96.virtualBack hx (y := mY2) (z := mY2) hown (mvT hZ (oW hw 43 rfl)) (mvT hZ (oW hw 44 rfl)) (notFace_of_selects (args := #[]) (mvT hZ (oW hw 46 rfl))) (mvT hZ (oW hw 46 rfl)) (mvT hZ (oW hw 45 rfl)) (by decide) (backOf (W := 0) (rm_desc_n l Z a0 hw [] b53 p1 w T96.heap n0 O96 W P96_1 hc144) hZ (oW hw 47 rfl) (oW hw 28 rfl) (by decide) (by decide)) q99a q99c (g := (mkF m 161 #[.val (.int p1), .val (.int p2), .val (.int 8), .val (.ref b1), .val (.ref b32), .val (.ref b53), .val (.int p1)] [(.ref b53)])) rfl (by rw [hml]; rfl) (Steps.refl _) (argsL := []) (rest := []) (lenOf pd_0 rfl) rfl (by show 2 * 0 + _ ≤ _; exact Nat.le_of_eq rfl) (hb hby at_161) (fun _ _ => ⟨rfl, rfl, (by decide : 3 + 0 ≤ _), (by decide : 24 + 0 ≤ _)⟩)
      dsimp only [Pt.U, Pt.locs, Pt.cells, Pt.slots] at X99 l99 y99 z99 st99 hQ99
      rw [l99, y99, z99] at X99
      clear l99 y99 z99
      obtain ⟨rfl, Nq99, e99⟩ := hQ99
      have N99 := Fr.app N96 Nq99
      refine oS (fun t k => st99.trans k) ?_
      show oG _ _ _ _ _ _ _ (T99.setTop (mkF m 164 #[.val (.int p1), .val (.int p2), .val (.int 8), .val (.ref b1), .val (.ref b32), .val (.ref b53), .val (.int p1)] [(.int p1)]))
      try clear st99 X96 e96
      refine oS (fun t k => XS.iload X99.here hx rfl (hb hby at_164) rfl k) ?_
      refine oS (fun t k => XS.icmpNo X99.here hx rfl (hb hby at_166) rfl (teq rfl).2 k) ?_
      refine oS (fun t k => oIc li_1 X99.here hx rfl (hb hby at_169) k) ?_
      show oG _ _ _ _ _ _ _ (T99.setTop (mkF m 170 #[.val (.int p1), .val (.int p2), .val (.int 8), .val (.ref b1), .val (.ref b32), .val (.ref b53), .val (.int p1)] [(.int 1)]))
      refine oS (fun t k => XS.goto X99.here hx rfl (pc0 := 170) (pc' := 174) rfl (hb hby at_170) (by decide) (by decide) k) ?_
      exact own_ret (v := some (.int 1)) X99 (fun h => by rw [Bd.returns] at h; cases h) Bd.notSynchronized (fun fs hr => retN X99 hx (t := .boolean) Bd.returns (by simp) (hb hby at_174) hr) (by rw [e99]; exact ⟨rfl, N99⟩) (by decide) (by decide)
  · rw [hs54]
    show oG _ _ _ _ _ _ _ (T53.setTop (mkF m 135 #[.val (.int p1), .val (.int p2), .val (.int 9), .val (.ref b1), .val (.ref b32), .unset, .unset] [(.int 9), (.ref b1), (.int p1), (.ref b53), (.ref b53)]))
    obtain ⟨cl100, Ar100, qk100, Sz100, Ng100, Ha100, Gf100⟩ := id ((((((((((((V31.ext E32).other W34 ne_b1_b32).other W36 ne_b1_b32).other W38 ne_b1_b32).other W40 ne_b1_b32).other W42 ne_b1_b32).other W44 ne_b1_b32).other W46 ne_b1_b32).other W48 ne_b1_b32).other W50 ne_b1_b32).other W52 ne_b1_b32).ext E53)
    have hin100 : ¬ ((9 : Int32) < 0 ∨ cl100.slots.size ≤ ((9 : Int32)).toNatClampNeg) := (inb_of Sz100 ⟨by decide, by decide⟩)
    have hat100 : cl100.slots[((9 : Int32)).toNatClampNeg]? = some (.ref (w 9)) := Ha100.at hin100 rfl
    refine oS (fun t k => X53.aaload hx (j := (9 : Int32)) (v := (.ref (w 9))) (by rw [e53]; exact Ar100.1) (State.isArrayOf_alike hZ.alike Ar100.2.1) rfl Ar100.2.2 hin100 hat100 (g := (mkF m 135 #[.val (.int p1), .val (.int p2), .val (.int 9), .val (.ref b1), .val (.ref b32), .unset, .unset] [(.int 9), (.ref b1), (.int p1), (.ref b53), (.ref b53)])) rfl rfl (hb hby at_135) t k) ?_
    refine oS (fun t k => XS.aconstNull X53.here hx rfl (hb hby at_136) k) ?_
    show oG _ _ _ _ _ _ _ (T53.setTop (mkF m 137 #[.val (.int p1), .val (.int p2), .val (.int 9), .val (.ref b1), .val (.ref b32), .unset, .unset] [.null, (.ref (w 9)), (.int p1), (.ref b53), (.ref b53)]))
    refine oS (fun t k => XS.aconstNull X53.here hx rfl (hb hby at_137) k) ?_
    obtain ⟨_, _, ⟨T101, L101, k101, n101⟩, -, X101, ⟨Lc101, hQ101, l101, y101, z101⟩, st101⟩ := X53.specialBack hx (y := mY0) rfl hown (mvT hZ (oW hw 29 rfl)) (mvT hZ (oW hw 30 rfl)) (mvT hZ (oW hw 31 rfl)) (by decide) (backOf (W := 1) (rm_init l Z a0 hw [] b53 p1 (w 9) (.int 0) .null .null .null w h53 n0 O53 W A53 gx53 F_number_b53 F_operator_b53 F_word_b53 F_written_b53) hZ (oW hw 31 rfl) (oW hw 28 rfl) (by decide) (by decide)) (g := (mkF m 138 #[.val (.int p1), .val (.int p2), .val (.int 9), .val (.ref b1), .val (.ref b32), .unset, .unset] [.null, .null, (.ref (w 9)), (.int p1), (.ref b53), (.ref b53)])) rfl (by rw [hml]; rfl) (Steps.refl _) (a := b53) (argsL := [(.int p1), (.ref (w 9)), .null, .null]) (rest := [(.ref b53)]) (lenOf pd_1 rfl) rfl (by show 2 * 0 + _ ≤ _; exact Nat.le_of_eq rfl) (hb hby at_138) (fun _ _ => ⟨rfl, e53, (by decide : 3 + 0 ≤ _), (by decide : 24 + 0 ≤ _)⟩)
    dsimp only [Pt.U, Pt.locs, Pt.cells, Pt.slots] at X101 l101 y101 z101 st101 hQ101
    rw [l101, y101, z101] at X101
    clear l101 y101 z101
    obtain ⟨rfl, Nq101, K101, P101_0, P101_1, P101_2, P101_3, P101_4⟩ := hQ101
    have N101 := Fr.app N52 Nq101
    have O101 := O53.keep K101 (allS gx53 all0)
    refine oS (fun t k => st101.trans k) ?_
    show oG _ _ _ _ _ _ _ (T101.setTop (mkF m 141 #[.val (.int p1), .val (.int p2), .val (.int 9), .val (.ref b1), .val (.ref b32), .unset, .unset] [(.ref b53)]))
    try clear st101 X53 e53
    try clear T53
    refine oS (fun t k => XS.astore X101.here hx rfl (hb hby at_141) rfl rfl (l' := #[.val (.int p1), .val (.int p2), .val (.int 9), .val (.ref b1), .val (.ref b32), .val (.ref b53), .unset]) rfl k) ?_
    refine oS (fun t k => XS.iloadN X101.here hx rfl (hb hby at_143) rfl k) ?_
    by_cases hc144 : p1 < (0 : Int32)
    · refine oS (fun t k => XS.ifYes X101.here hx rfl (pc0 := 144) (pc' := 153) rfl (hb hby at_144) rfl ((if0 _ _).trans (tlt hc144).1) (by decide) (by decide) k) ?_
      show oG _ _ _ _ _ _ _ (T101.setTop (mkF m 153 #[.val (.int p1), .val (.int p2), .val (.int 9), .val (.ref b1), .val (.ref b32), .val (.ref b53), .unset] []))
      refine oS (fun t k => XS.aload X101.here hx rfl (hb hby at_153) rfl rfl k) ?_
      refine oS (fun t k => XS.iloadN X101.here hx rfl (hb hby at_155) rfl k) ?_
      obtain ⟨cl102, Ar102, qk102, Sz102, Ng102, Ha102, Gf102⟩ := id ((V52.ext E53).keep K101 (fun q => ne_b32_b53 (List.mem_singleton.mp q)))
      have hin102 : ¬ ((9 : Int32) < 0 ∨ cl102.slots.size ≤ ((9 : Int32)).toNatClampNeg) := (inb_of Sz102 ⟨by decide, by decide⟩)
      have hat102 : cl102.slots[((9 : Int32)).toNatClampNeg]? = some (.int 0) := Ha102.at hin102 rfl
      refine oS (fun t k => X101.iaload hx (j := (9 : Int32)) (v := (.int 0)) Ar102.1 (State.isArrayOf_alike hZ.alike Ar102.2.1) Ar102.2.2 hin102 hat102 (g := (mkF m 156 #[.val (.int p1), .val (.int p2), .val (.int 9), .val (.ref b1), .val (.ref b32), .val (.ref b53), .unset] [(.int 9), (.ref b32)])) rfl rfl (hb hby at_156) t k) ?_
      show oG _ _ _ _ _ _ _ (T101.setTop (mkF m 157 #[.val (.int p1), .val (.int p2), .val (.int 9), .val (.ref b1), .val (.ref b32), .val (.ref b53), .unset] [(.int 0)]))
      refine oS (fun t k => XS.istore X101.here hx rfl (hb hby at_157) rfl (l' := #[.val (.int p1), .val (.int p2), .val (.int 9), .val (.ref b1), .val (.ref b32), .val (.ref b53), .val (.int 0)]) rfl k) ?_
      refine oS (fun t k => XS.aload X101.here hx rfl (hb hby at_159) rfl rfl k) ?_
      obtain ⟨cq103, kq103, q103a, q103b, q103c⟩ := isOf hZ rfl P101_0
      obtain ⟨_, _, ⟨T103, L103, k103, n103⟩, -, X103, ⟨Lc103, hQ103, l103, y103, z103⟩, st103⟩ := X101.virtualBack hx (y := mY2) (z := mY2) hown (mvT hZ (oW hw 43 rfl)) (mvT hZ (oW hw 44 rfl)) (notFace_of_selects (args := #[]) (mvT hZ (oW hw 46 rfl))) (mvT hZ (oW hw 46 rfl)) (mvT hZ (oW hw 45 rfl)) (by decide) (backOf (W := 0) (rm_desc_HERE_STRING l Z a0 hw [] b53 p1 w T101.heap n0 O101 W P101_1 P101_2 hc144) hZ (oW hw 47 rfl) (oW hw 28 rfl) (by decide) (by decide)) q103a q103c (g := (mkF m 161 #[.val (.int p1), .val (.int p2), .val (.int 9), .val (.ref b1), .val (.ref b32), .val (.ref b53), .val (.int 0)] [(.ref b53)])) rfl (by rw [hml]; rfl) (Steps.refl _) (argsL := []) (rest := []) (lenOf pd_0 rfl) rfl (by show 2 * 0 + _ ≤ _; exact Nat.le_of_eq rfl) (hb hby at_161) (fun _ _ => ⟨rfl, rfl, (by decide : 3 + 0 ≤ _), (by decide : 24 + 0 ≤ _)⟩)
      dsimp only [Pt.U, Pt.locs, Pt.cells, Pt.slots] at X103 l103 y103 z103 st103 hQ103
      rw [l103, y103, z103] at X103
      clear l103 y103 z103
      obtain ⟨rfl, Nq103, e103⟩ := hQ103
      have N103 := Fr.app N101 Nq103
      refine oS (fun t k => st103.trans k) ?_
      show oG _ _ _ _ _ _ _ (T103.setTop (mkF m 164 #[.val (.int p1), .val (.int p2), .val (.int 9), .val (.ref b1), .val (.ref b32), .val (.ref b53), .val (.int 0)] [(.int 0)]))
      try clear st103 X101 e101
      refine oS (fun t k => XS.iload X103.here hx rfl (hb hby at_164) rfl k) ?_
      refine oS (fun t k => XS.icmpNo X103.here hx rfl (hb hby at_166) rfl (teq (by decide)).2 k) ?_
      refine oS (fun t k => oIc li_1 X103.here hx rfl (hb hby at_169) k) ?_
      show oG _ _ _ _ _ _ _ (T103.setTop (mkF m 170 #[.val (.int p1), .val (.int p2), .val (.int 9), .val (.ref b1), .val (.ref b32), .val (.ref b53), .val (.int 0)] [(.int 1)]))
      refine oS (fun t k => XS.goto X103.here hx rfl (pc0 := 170) (pc' := 174) rfl (hb hby at_170) (by decide) (by decide) k) ?_
      exact own_ret (v := some (.int 1)) X103 (fun h => by rw [Bd.returns] at h; cases h) Bd.notSynchronized (fun fs hr => retN X103 hx (t := .boolean) Bd.returns (by simp) (hb hby at_174) hr) (by rw [e103]; exact ⟨rfl, N103⟩) (by decide) (by decide)
    · refine oS (fun t k => XS.ifNo X101.here hx rfl (hb hby at_144) rfl ((if0 _ _).trans (flt hc144).1) k) ?_
      show oG _ _ _ _ _ _ _ (T101.setTop (mkF m 147 #[.val (.int p1), .val (.int p2), .val (.int 9), .val (.ref b1), .val (.ref b32), .val (.ref b53), .unset] []))
      refine oS (fun t k => XS.iloadN X101.here hx rfl (hb hby at_147) rfl k) ?_
      refine oS (fun t k => XS.istore X101.here hx rfl (hb hby at_148) rfl (l' := #[.val (.int p1), .val (.int p2), .val (.int 9), .val (.ref b1), .val (.ref b32), .val (.ref b53), .val (.int p1)]) rfl k) ?_
      refine oS (fun t k => XS.goto X101.here hx rfl (pc0 := 150) (pc' := 159) rfl (hb hby at_150) (by decide) (by decide) k) ?_
      show oG _ _ _ _ _ _ _ (T101.setTop (mkF m 159 #[.val (.int p1), .val (.int p2), .val (.int 9), .val (.ref b1), .val (.ref b32), .val (.ref b53), .val (.int p1)] []))
      refine oS (fun t k => XS.aload X101.here hx rfl (hb hby at_159) rfl rfl k) ?_
      obtain ⟨cq104, kq104, q104a, q104b, q104c⟩ := isOf hZ rfl P101_0
      obtain ⟨_, _, ⟨T104, L104, k104, n104⟩, -, X104, ⟨Lc104, hQ104, l104, y104, z104⟩, st104⟩ := X101.virtualBack hx (y := mY2) (z := mY2) hown (mvT hZ (oW hw 43 rfl)) (mvT hZ (oW hw 44 rfl)) (notFace_of_selects (args := #[]) (mvT hZ (oW hw 46 rfl))) (mvT hZ (oW hw 46 rfl)) (mvT hZ (oW hw 45 rfl)) (by decide) (backOf (W := 0) (rm_desc_n l Z a0 hw [] b53 p1 w T101.heap n0 O101 W P101_1 hc144) hZ (oW hw 47 rfl) (oW hw 28 rfl) (by decide) (by decide)) q104a q104c (g := (mkF m 161 #[.val (.int p1), .val (.int p2), .val (.int 9), .val (.ref b1), .val (.ref b32), .val (.ref b53), .val (.int p1)] [(.ref b53)])) rfl (by rw [hml]; rfl) (Steps.refl _) (argsL := []) (rest := []) (lenOf pd_0 rfl) rfl (by show 2 * 0 + _ ≤ _; exact Nat.le_of_eq rfl) (hb hby at_161) (fun _ _ => ⟨rfl, rfl, (by decide : 3 + 0 ≤ _), (by decide : 24 + 0 ≤ _)⟩)
      dsimp only [Pt.U, Pt.locs, Pt.cells, Pt.slots] at X104 l104 y104 z104 st104 hQ104
      rw [l104, y104, z104] at X104
      clear l104 y104 z104
      obtain ⟨rfl, Nq104, e104⟩ := hQ104
      have N104 := Fr.app N101 Nq104
      refine oS (fun t k => st104.trans k) ?_
      show oG _ _ _ _ _ _ _ (T104.setTop (mkF m 164 #[.val (.int p1), .val (.int p2), .val (.int 9), .val (.ref b1), .val (.ref b32), .val (.ref b53), .val (.int p1)] [(.int p1)]))
      try clear st104 X101 e101
      refine oS (fun t k => XS.iload X104.here hx rfl (hb hby at_164) rfl k) ?_
      refine oS (fun t k => XS.icmpNo X104.here hx rfl (hb hby at_166) rfl (teq rfl).2 k) ?_
      refine oS (fun t k => oIc li_1 X104.here hx rfl (hb hby at_169) k) ?_
      show oG _ _ _ _ _ _ _ (T104.setTop (mkF m 170 #[.val (.int p1), .val (.int p2), .val (.int 9), .val (.ref b1), .val (.ref b32), .val (.ref b53), .val (.int p1)] [(.int 1)]))
      refine oS (fun t k => XS.goto X104.here hx rfl (pc0 := 170) (pc' := 174) rfl (hb hby at_170) (by decide) (by decide) k) ?_
      exact own_ret (v := some (.int 1)) X104 (fun h => by rw [Bd.returns] at h; cases h) Bd.notSynchronized (fun fs hr => retN X104 hx (t := .boolean) Bd.returns (by simp) (hb hby at_174) hr) (by rw [e104]; exact ⟨rfl, N104⟩) (by decide) (by decide)
set_option maxRecDepth 65536 in
set_option maxHeartbeats 40000000 in
theorem comes_1 {Post : Tables → Env → Array Value → State → Outcome → State → Prop} (hpost : ∀ tb e args s v u, (limb_1_1.after args s (.returned v) u = true ∧ limb_1_2.after args s (.returned v) u = true ∧ True) → FrameEnd s (.returned v) u (Jvm.fieldLocs frame_1_writes args s ++ Jvm.arrayLocs frame_1_arrays args s ++ Jvm.staticLocs frame_1_statics s) 16 128 → Post tb e args s (.returned v) u) :
    ArmFor flags0 classFile x code maxLocals ret World_1 tables_1 room_1 Calls_1 rest_1 Pre_1 Post := by
  intro l hfl _ _ p e ha hc hk s m args below hf hA hF happ hP
  obtain ⟨hcalls, hrest, hpre⟩ := hP
  obtain ⟨-, -, -, hnamed, -, -, -, hat⟩ := (Spec.applies_iff hf).mp happ
  obtain ⟨hg, hn⟩ := and_e (Cond.before_iff.mp (show (Jvm.Cond.and given_1 narrow_1).before args s = true from hpre))
  obtain ⟨g0, g1⟩ := and_e hg
  obtain ⟨g2, g3⟩ := and_e g1
  obtain ⟨w0, w1, rfl⟩ : ∃ w0 w1 : Value, args = #[w0, w1] := by
    have hs : args.size = 2 := by simpa [Cond.value, given_1] using g0
    obtain ⟨L⟩ := args
    match L, hs with
    | [w0, w1], _ => exact ⟨w0, w1, rfl⟩
  have hw := fun d (hd : d ∈ tables_1) => atoms_spec (ws := Jvm.Cond.code x code maxLocals ret :: tables_1) hat d (List.mem_cons_of_mem _ hd)
  have hfit : Fit s := fun {y c} hc i hi => by
    obtain ⟨ha, rfl⟩ := Array.getElem?_eq_some_iff.mp hc
    have q := List.all_eq_true.mp ((Array.all_eq_true_iff_forall_mem.mp hF) _ (Array.getElem_mem ha)) i (List.mem_range.mpr hi)
    simpa [Array.getElem?_eq_getElem hi] using q
  obtain ⟨i0, ei0⟩ := is_v g2
  obtain rfl : w0 = (.int i0) := Option.some.inj ei0
  obtain ⟨i1, ei1⟩ := is_v g3
  obtain rfl : w1 = (.int i1) := Option.some.inj ei1
  obtain ⟨w, W⟩ := own_world hw hfit hn
  obtain ⟨n, o, h1, h2, h3, _, L, rfl, ⟨rfl, N⟩, hq⟩ := rm_law l s _ hw tables_1 i0 i1 w s.heap s.heap.size (Old.start s) W  p e ha hc hk s m _ below hf ((Spec.applies_iff_loose hf).mp happ).1 ⟨rfl, State.Warmed39.refl s, rfl⟩ trivial
  refine ⟨n, _, h1, h2, h3, hpost _ _ _ _ _ _ ⟨Cond.after_iff.mpr rfl, Cond.after_iff.mpr (eq_i res_at (Term.int_eval (1)) rfl), trivial⟩ ⟨hq.1, hq.2.1, (hq.2.2.sift fun y hy => Or.inr (N y hy)).mono (by decide) (by decide)⟩⟩
theorem main_1_1 : Claimed_1_1 := comes_1 fun _ _ _ _ _ _ h hF => ⟨h.1, hF⟩
theorem main_1_2 : Claimed_1_2 := comes_1 fun _ _ _ _ _ _ h hF => ⟨h.2.1, hF⟩
end Jvm.Pilot.@@N@@
namespace Jvm.Pilot.@@N@@
open Jvm Jvm.ClassFile Sem Op Lib Jvm.Free Jvm.Stand Jvm.Pilot.@@N@@.Jvm.D
/-! MADE BY PROGRAM (witnessworld.py) out of the Statement's table words and the real class files: 14 classes; the members and pool entries that the words name. The judged class is class 1, her method 1. -/
namespace start1
open Jvm.ClassFile
def u (s : String) : CpInfo := .utf8 (stringToUtf16 s)
/-- a pool by its gaps: so many unusable entries, then the entry; so many at the end -/
def gap : Nat → List CpInfo → List CpInfo
  | 0, r => r
  | n + 1, r => .unusable :: gap n r
def poolList (es : List (Nat × CpInfo)) (last : Nat) : List CpInfo := es.foldr (fun e r => gap e.1 (e.2 :: r)) (gap last [])
def pool (es : List (Nat × CpInfo)) (last : Nat) : Array CpInfo := ⟨poolList es last⟩
def fileOf (pool : Array CpInfo) (this : Nat) (attrs : Array Attribute := #[]) (ms : Array MethodInfo := #[]) (fl : Nat := 33) (sup : Nat := 0) (ifs : Array Nat := #[]) (fds : Array FieldInfo := #[]) : ClassFile where
  minorVersion := 0
  majorVersion := 65
  constantPool := pool
  accessFlags := fl
  thisClass := this
  superClass := sup
  interfaces := ifs
  fields := fds
  methods := ms
  attributes := attrs
def plain (name : String) (sup : Option ClassId) : Class where
  name := name
  kind := .ordinary
  loader := none
  accessFlags := 33
  super := sup
  interfaces := #[]
  cf := none
  fields := #[]
  methods := #[]
  instanceTypes := #[]
  staticTypes := #[]
  resolved := #[]
  callSites := []
  init := .initialized
  statics := none
  mirror := none

def pool0 : Array CpInfo := pool [(5, u "<init>"), (0, u "()V"), (1, .class_ 10), (1, u "java/lang/Object")] 113

def k0c0 : Code := { maxStack := 0, maxLocals := 1, code := object_method_1_code, exceptionTable := #[], attributes := #[] }
def k0m0 : Method := { name := "<init>", desc := "()V", sig := { parameters := [], returnType := none }, accessFlags := 1, code := some k0c0 }
/-- java/lang/Object -/
def k0 : Class := { plain "java/lang/Object" none with
  accessFlags := 33
  interfaces := #[]
  cf := some (fileOf pool0 8 #[] #[{ accessFlags := 1, nameIndex := 5, descriptorIndex := 6, attributes := #[] }] 33 0 #[] #[])
  fields := #[]
  methods := #[k0m0]
  instanceTypes := #[]
  staticTypes := #[]
  resolved := Array.replicate 124 none
  statics := none }

def pool1 : Array CpInfo := pool [(2, .class_ 4), (1, u "java/lang/Object"), (0, u "<init>"), (0, u "()V"), (0, .integer 2147483647), (0, .class_ 9), (0, u "com/example/lamassu/lamassu/model/Redirection$Operator"), (0, .fieldref 8 11), (0, .nameAndType 12 13), (0, u "INPUT"), (0, u "Lcom/example/lamassu/lamassu/model/Redirection$Operator;"), (0, .fieldref 8 15), (0, .nameAndType 16 13), (0, u "OUTPUT"), (0, .fieldref 8 18), (0, .nameAndType 19 13), (0, u "CLOBBER"), (0, .fieldref 8 21), (0, .nameAndType 22 13), (0, u "APPEND"), (0, .fieldref 8 24), (0, .nameAndType 25 13), (0, u "DUPLICATE_INPUT"), (0, .fieldref 8 27), (0, .nameAndType 28 13), (0, u "DUPLICATE_OUTPUT"), (0, .fieldref 8 30), (0, .nameAndType 31 13), (0, u "OUTPUT_AND_ERROR"), (0, .fieldref 8 33), (0, .nameAndType 34 13), (0, u "APPEND_OUTPUT_AND_ERROR"), (0, .fieldref 8 36), (0, .nameAndType 37 13), (0, u "HERE_DOCUMENT"), (0, .fieldref 8 39), (0, .nameAndType 40 13), (0, u "HERE_STRING"), (0, .class_ 42), (0, u "com/example/lamassu/lamassu/model/Redirection"), (0, .methodref 41 44), (0, .nameAndType 5 45), (0, u "(ILcom/example/lamassu/lamassu/model/Redirection$Operator;Lcom/example/lamassu/lamassu/model/Word;Ljava/lang/String;)V"), (0, .methodref 41 47), (0, .nameAndType 48 49), (0, u "descriptor"), (0, u "()I"), (0, .class_ 51), (0, u "com/example/lamassu/lamassu/model/RedirectionDescriptorPinLaw"), (2, u "law"), (0, u "(II)Z")] 9

def k1m0 : Method := { name := "<init>", desc := "()V", sig := { parameters := [], returnType := none }, accessFlags := 1, code := none }
def k1c1 : Code := { maxStack := 6, maxLocals := 7, code := code, exceptionTable := #[], attributes := #[] }
def k1m1 : Method := { name := "law", desc := "(II)Z", sig := { parameters := [.int, .int], returnType := some .boolean }, accessFlags := 9, code := some k1c1 }
/-- com/example/lamassu/lamassu/model/RedirectionDescriptorPinLaw -/
def k1 : Class := { plain "com/example/lamassu/lamassu/model/RedirectionDescriptorPinLaw" (some 0) with
  accessFlags := 49
  interfaces := #[]
  cf := some (fileOf pool1 50 #[] #[{ accessFlags := 1, nameIndex := 5, descriptorIndex := 6, attributes := #[] }, { accessFlags := 9, nameIndex := 54, descriptorIndex := 55, attributes := #[] }] 49 2 #[] #[])
  fields := #[]
  methods := #[k1m0, k1m1]
  instanceTypes := #[]
  staticTypes := #[]
  resolved := Array.replicate 65 none
  statics := none }

def pool2 : Array CpInfo := pool [(1, .class_ 2), (0, u "java/lang/constant/Constable"), (0, .class_ 4), (0, u "java/lang/Object")] 6

/-- java/lang/constant/Constable -/
def k2 : Class := { plain "java/lang/constant/Constable" (some 0) with
  accessFlags := 1537
  interfaces := #[]
  cf := some (fileOf pool2 1 #[] #[] 1537 3 #[] #[])
  fields := #[]
  methods := #[]
  instanceTypes := #[]
  staticTypes := #[]
  resolved := Array.replicate 11 none
  statics := none }

def pool3 : Array CpInfo := pool [(1, .class_ 2), (0, u "java/lang/Comparable"), (0, .class_ 4), (0, u "java/lang/Object")] 7

/-- java/lang/Comparable -/
def k3 : Class := { plain "java/lang/Comparable" (some 0) with
  accessFlags := 1537
  interfaces := #[]
  cf := some (fileOf pool3 1 #[] #[] 1537 3 #[] #[])
  fields := #[]
  methods := #[]
  instanceTypes := #[]
  staticTypes := #[]
  resolved := Array.replicate 12 none
  statics := none }

def pool4 : Array CpInfo := pool [(1, .class_ 2), (0, u "java/io/Serializable"), (0, .class_ 4), (0, u "java/lang/Object")] 2

/-- java/io/Serializable -/
def k4 : Class := { plain "java/io/Serializable" (some 0) with
  accessFlags := 1537
  interfaces := #[]
  cf := some (fileOf pool4 1 #[] #[] 1537 3 #[] #[])
  fields := #[]
  methods := #[]
  instanceTypes := #[]
  staticTypes := #[]
  resolved := Array.replicate 7 none
  statics := none }

def pool5 : Array CpInfo := pool [(2, .class_ 4), (1, u "java/lang/Enum"), (0, u "name"), (0, u "Ljava/lang/String;"), (2, u "ordinal"), (0, u "I"), (1, .class_ 14), (1, u "java/lang/Object"), (4, u "hash"), (86, .class_ 108), (1, u "java/lang/Enum$EnumDesc"), (2, .class_ 112), (0, u "java/lang/constant/Constable"), (0, .class_ 114), (0, u "java/lang/Comparable"), (0, .class_ 116), (0, u "java/io/Serializable")] 87

/-- java/lang/Enum -/
def k5 : Class := { plain "java/lang/Enum" (some 0) with
  accessFlags := 1057
  interfaces := #[2, 3, 4]
  cf := some (fileOf pool5 2 #[.nestMembers #[106]] #[] 1057 12 #[111, 113, 115] #[{ accessFlags := 18, nameIndex := 5, descriptorIndex := 6, attributes := #[] }, { accessFlags := 18, nameIndex := 9, descriptorIndex := 10, attributes := #[] }, { accessFlags := 2, nameIndex := 19, descriptorIndex := 10, attributes := #[] }])
  fields := #[{ name := "name", type := (.object "java/lang/String"), accessFlags := 18, slot := 0, constantValue := 0 }, { name := "ordinal", type := .int, accessFlags := 18, slot := 1, constantValue := 0 }, { name := "hash", type := .int, accessFlags := 2, slot := 2, constantValue := 0 }]
  methods := #[]
  instanceTypes := #[(.object "java/lang/String"), .int, .int]
  staticTypes := #[]
  resolved := Array.replicate 204 none
  statics := none }

def pool6 : Array CpInfo := pool [(1, .class_ 2), (0, u "com/example/lamassu/lamassu/model/Redirection$Operator"), (2, u "INPUT"), (0, u "Lcom/example/lamassu/lamassu/model/Redirection$Operator;"), (2, u "OUTPUT"), (2, u "CLOBBER"), (2, u "APPEND"), (2, u "DUPLICATE_INPUT"), (2, u "DUPLICATE_OUTPUT"), (2, u "OUTPUT_AND_ERROR"), (2, u "APPEND_OUTPUT_AND_ERROR"), (2, u "HERE_DOCUMENT"), (2, u "HERE_STRING"), (2, u "$VALUES"), (0, u "[Lcom/example/lamassu/lamassu/model/Redirection$Operator;"), (6, .class_ 46), (1, u "java/lang/Enum"), (8, u "symbol"), (0, u "Ljava/lang/String;"), (0, .fieldref 1 58), (0, .nameAndType 59 60), (0, u "defaultDescriptor"), (0, u "I"), (44, u "()I"), (6, .class_ 113), (0, u "com/example/lamassu/lamassu/model/Redirection")] 2

def k6c0 : Code := { maxStack := 1, maxLocals := 1, code := prog_141_method_5_code, exceptionTable := #[], attributes := #[] }
def k6m0 : Method := { name := "defaultDescriptor", desc := "()I", sig := { parameters := [], returnType := some .int }, accessFlags := 1, code := some k6c0 }
/-- com/example/lamassu/lamassu/model/Redirection$Operator -/
def k6 : Class := { plain "com/example/lamassu/lamassu/model/Redirection$Operator" (some 5) with
  accessFlags := 16433
  interfaces := #[]
  cf := some (fileOf pool6 1 #[.nestHost 112] #[{ accessFlags := 1, nameIndex := 59, descriptorIndex := 105, attributes := #[] }] 16433 44 #[] #[{ accessFlags := 16409, nameIndex := 5, descriptorIndex := 6, attributes := #[] }, { accessFlags := 16409, nameIndex := 9, descriptorIndex := 6, attributes := #[] }, { accessFlags := 16409, nameIndex := 12, descriptorIndex := 6, attributes := #[] }, { accessFlags := 16409, nameIndex := 15, descriptorIndex := 6, attributes := #[] }, { accessFlags := 16409, nameIndex := 18, descriptorIndex := 6, attributes := #[] }, { accessFlags := 16409, nameIndex := 21, descriptorIndex := 6, attributes := #[] }, { accessFlags := 16409, nameIndex := 24, descriptorIndex := 6, attributes := #[] }, { accessFlags := 16409, nameIndex := 27, descriptorIndex := 6, attributes := #[] }, { accessFlags := 16409, nameIndex := 30, descriptorIndex := 6, attributes := #[] }, { accessFlags := 16409, nameIndex := 33, descriptorIndex := 6, attributes := #[] }, { accessFlags := 18, nameIndex := 55, descriptorIndex := 56, attributes := #[] }, { accessFlags := 18, nameIndex := 59, descriptorIndex := 60, attributes := #[] }, { accessFlags := 4122, nameIndex := 36, descriptorIndex := 37, attributes := #[] }])
  fields := #[{ name := "INPUT", type := (.object "com/example/lamassu/lamassu/model/Redirection$Operator"), accessFlags := 16409, slot := 0, constantValue := 0 }, { name := "OUTPUT", type := (.object "com/example/lamassu/lamassu/model/Redirection$Operator"), accessFlags := 16409, slot := 1, constantValue := 0 }, { name := "CLOBBER", type := (.object "com/example/lamassu/lamassu/model/Redirection$Operator"), accessFlags := 16409, slot := 2, constantValue := 0 }, { name := "APPEND", type := (.object "com/example/lamassu/lamassu/model/Redirection$Operator"), accessFlags := 16409, slot := 3, constantValue := 0 }, { name := "DUPLICATE_INPUT", type := (.object "com/example/lamassu/lamassu/model/Redirection$Operator"), accessFlags := 16409, slot := 4, constantValue := 0 }, { name := "DUPLICATE_OUTPUT", type := (.object "com/example/lamassu/lamassu/model/Redirection$Operator"), accessFlags := 16409, slot := 5, constantValue := 0 }, { name := "OUTPUT_AND_ERROR", type := (.object "com/example/lamassu/lamassu/model/Redirection$Operator"), accessFlags := 16409, slot := 6, constantValue := 0 }, { name := "APPEND_OUTPUT_AND_ERROR", type := (.object "com/example/lamassu/lamassu/model/Redirection$Operator"), accessFlags := 16409, slot := 7, constantValue := 0 }, { name := "HERE_DOCUMENT", type := (.object "com/example/lamassu/lamassu/model/Redirection$Operator"), accessFlags := 16409, slot := 8, constantValue := 0 }, { name := "HERE_STRING", type := (.object "com/example/lamassu/lamassu/model/Redirection$Operator"), accessFlags := 16409, slot := 9, constantValue := 0 }, { name := "symbol", type := (.object "java/lang/String"), accessFlags := 18, slot := 3, constantValue := 0 }, { name := "defaultDescriptor", type := .int, accessFlags := 18, slot := 4, constantValue := 0 }, { name := "$VALUES", type := (.array (.object "com/example/lamassu/lamassu/model/Redirection$Operator")), accessFlags := 4122, slot := 10, constantValue := 0 }]
  methods := #[k6m0]
  instanceTypes := #[(.object "java/lang/String"), .int, .int, (.object "java/lang/String"), .int]
  staticTypes := #[(.object "com/example/lamassu/lamassu/model/Redirection$Operator"), (.object "com/example/lamassu/lamassu/model/Redirection$Operator"), (.object "com/example/lamassu/lamassu/model/Redirection$Operator"), (.object "com/example/lamassu/lamassu/model/Redirection$Operator"), (.object "com/example/lamassu/lamassu/model/Redirection$Operator"), (.object "com/example/lamassu/lamassu/model/Redirection$Operator"), (.object "com/example/lamassu/lamassu/model/Redirection$Operator"), (.object "com/example/lamassu/lamassu/model/Redirection$Operator"), (.object "com/example/lamassu/lamassu/model/Redirection$Operator"), (.object "com/example/lamassu/lamassu/model/Redirection$Operator"), (.array (.object "com/example/lamassu/lamassu/model/Redirection$Operator"))]
  resolved := Array.replicate 116 none
  statics := some 0 }

def pool7 : Array CpInfo := pool [(1, .methodref 2 3), (0, .class_ 4), (0, .nameAndType 5 6), (0, u "java/lang/Object"), (0, u "<init>"), (0, u "()V"), (0, .fieldref 8 9), (0, .class_ 10), (0, .nameAndType 11 12), (0, u "com/example/lamassu/lamassu/model/Redirection"), (0, u "number"), (0, u "I"), (0, .fieldref 8 14), (0, .nameAndType 15 16), (0, u "operator"), (0, u "Lcom/example/lamassu/lamassu/model/Redirection$Operator;"), (0, .fieldref 8 18), (0, .nameAndType 19 20), (0, u "word"), (0, u "Lcom/example/lamassu/lamassu/model/Word;"), (0, .fieldref 8 22), (0, .nameAndType 23 24), (0, u "written"), (0, u "Ljava/lang/String;"), (0, .methodref 26 27), (0, .class_ 28), (0, .nameAndType 29 30), (0, u "com/example/lamassu/lamassu/model/Redirection$Operator"), (0, u "defaultDescriptor"), (0, u "()I"), (0, u "(ILcom/example/lamassu/lamassu/model/Redirection$Operator;Lcom/example/lamassu/lamassu/model/Word;Ljava/lang/String;)V"), (2, u "descriptor")] 11

def k7c0 : Code := { maxStack := 2, maxLocals := 5, code := prog_140_method_1_code, exceptionTable := #[], attributes := #[] }
def k7m0 : Method := { name := "<init>", desc := "(ILcom/example/lamassu/lamassu/model/Redirection$Operator;Lcom/example/lamassu/lamassu/model/Word;Ljava/lang/String;)V", sig := { parameters := [.int, (.object "com/example/lamassu/lamassu/model/Redirection$Operator"), (.object "com/example/lamassu/lamassu/model/Word"), (.object "java/lang/String")], returnType := none }, accessFlags := 1, code := some k7c0 }
def k7c1 : Code := { maxStack := 1, maxLocals := 1, code := prog_140_method_2_code, exceptionTable := #[], attributes := #[] }
def k7m1 : Method := { name := "descriptor", desc := "()I", sig := { parameters := [], returnType := some .int }, accessFlags := 1, code := some k7c1 }
/-- com/example/lamassu/lamassu/model/Redirection -/
def k7 : Class := { plain "com/example/lamassu/lamassu/model/Redirection" (some 0) with
  accessFlags := 49
  interfaces := #[]
  cf := some (fileOf pool7 8 #[.nestMembers #[26]] #[{ accessFlags := 1, nameIndex := 5, descriptorIndex := 31, attributes := #[] }, { accessFlags := 1, nameIndex := 34, descriptorIndex := 30, attributes := #[] }] 49 2 #[] #[{ accessFlags := 18, nameIndex := 11, descriptorIndex := 12, attributes := #[] }, { accessFlags := 18, nameIndex := 15, descriptorIndex := 16, attributes := #[] }, { accessFlags := 18, nameIndex := 19, descriptorIndex := 20, attributes := #[] }, { accessFlags := 18, nameIndex := 23, descriptorIndex := 24, attributes := #[] }])
  fields := #[{ name := "number", type := .int, accessFlags := 18, slot := 0, constantValue := 0 }, { name := "operator", type := (.object "com/example/lamassu/lamassu/model/Redirection$Operator"), accessFlags := 18, slot := 1, constantValue := 0 }, { name := "word", type := (.object "com/example/lamassu/lamassu/model/Word"), accessFlags := 18, slot := 2, constantValue := 0 }, { name := "written", type := (.object "java/lang/String"), accessFlags := 18, slot := 3, constantValue := 0 }]
  methods := #[k7m0, k7m1]
  instanceTypes := #[.int, (.object "com/example/lamassu/lamassu/model/Redirection$Operator"), (.object "com/example/lamassu/lamassu/model/Word"), (.object "java/lang/String")]
  staticTypes := #[]
  resolved := Array.replicate 46 none
  statics := none }

def pool8 : Array CpInfo := pool [(1, u "java/lang/Cloneable"), (0, .class_ 1), (0, u "java/lang/Object"), (0, .class_ 3)] 3

/-- java/lang/Cloneable -/
def k8 : Class := { plain "java/lang/Cloneable" (some 0) with
  accessFlags := 1537
  interfaces := #[]
  cf := some (fileOf pool8 2 #[] #[] 1537 4 #[] #[])
  fields := #[]
  methods := #[]
  instanceTypes := #[]
  staticTypes := #[]
  resolved := Array.replicate 8 none
  statics := none }

/-- the primitive byte -/
def k9 : Class := { plain "byte" none with kind := .primitive 'B', accessFlags := 0x411 }
/-- [B -/
def k10 : Class := { plain "[B" (some 0) with kind := .array 9 .byte, interfaces := #[8, 4], accessFlags := 1041 }

/-- the primitive int -/
def k11 : Class := { plain "int" none with kind := .primitive 'I', accessFlags := 0x411 }
/-- [I -/
def k12 : Class := { plain "[I" (some 0) with kind := .array 11 .int, interfaces := #[8, 4], accessFlags := 1041 }

/-- [Lcom/example/lamassu/lamassu/model/Redirection$Operator; -/
def k13 : Class := { plain "[Lcom/example/lamassu/lamassu/model/Redirection$Operator;" (some 0) with kind := .array 6 (.object "com/example/lamassu/lamassu/model/Redirection$Operator"), interfaces := #[8, 4], accessFlags := 1041 }

def heap : Heap := #[{ cls := 6, slots := #[.ref 1, .ref 2, .ref 3, .ref 4, .ref 5, .ref 6, .ref 7, .ref 8, .ref 9, .ref 10, .null], vm := .statics 6 },
  { cls := 6, slots := #[.null, .int 0, .int 0, .null, .int 0], vm := .none },
  { cls := 6, slots := #[.null, .int 0, .int 0, .null, .int 1], vm := .none },
  { cls := 6, slots := #[.null, .int 0, .int 0, .null, .int 1], vm := .none },
  { cls := 6, slots := #[.null, .int 0, .int 0, .null, .int 1], vm := .none },
  { cls := 6, slots := #[.null, .int 0, .int 0, .null, .int 0], vm := .none },
  { cls := 6, slots := #[.null, .int 0, .int 0, .null, .int 1], vm := .none },
  { cls := 6, slots := #[.null, .int 0, .int 0, .null, .int 1], vm := .none },
  { cls := 6, slots := #[.null, .int 0, .int 0, .null, .int 1], vm := .none },
  { cls := 6, slots := #[.null, .int 0, .int 0, .null, .int 0], vm := .none },
  { cls := 6, slots := #[.null, .int 0, .int 0, .null, .int 0], vm := .none }]
def classes : Array Class := #[k0, k1, k2, k3, k4, k5, k6, k7, k8, k9, k10, k11, k12, k13]
def interned : List (Array UInt16 × Addr) := []
def slotsUsed : Nat := 61
def theMethod : MethodId := ⟨1, 1⟩
def args0 : Array Value := #[.int 5, .int 1]
def aboutOver (below : List Frame) : State where
  vm := { classes := classes, interned := interned.toArray }
  heap := heap
  slotsUsed := slotsUsed
  threads := #[{ frames := .invoking theMethod args0 :: below }]
def below0 : List Frame := [.native { method := ⟨0, 0⟩, args := #[] }]
def about1 : State := aboutOver below0
def p0 : Program := .bare "" "" ""
def e0 : Env := launch0.env 0 0 0
theorem w_frames : about1.frames = Frame.invoking theMethod args0 :: below0 := rfl
set_option maxRecDepth 65536 in
theorem w_args : argsFit about1.vm theMethod args0 = true := by decide +kernel
set_option maxRecDepth 65536 in
theorem w_heap : heapFits about1 = true := by decide +kernel
set_option maxRecDepth 65536 in
theorem w_runnable : about1.curStatus? = some .runnable := by decide +kernel
set_option maxRecDepth 65536 in
theorem w_alone : about1.alone = true := by decide +kernel
set_option maxRecDepth 65536 in
theorem w_named : about1.methodNamed? x = some theMethod := by decide +kernel
set_option maxRecDepth 65536 in
theorem w_hears : about1.hears theMethod below0 = true := by decide +kernel
set_option maxRecDepth 65536 in
theorem w_ripe : about1.ripe theMethod args0 below0 = true := by decide +kernel
theorem w_running : about1.status = .running := rfl
set_option maxRecDepth 65536 in
theorem w_room : about1.hasRoom e0.platform room_1 = true :=
  launch0.hasRoom_least _ room_1 (by decide +kernel) (by decide +kernel) (by decide +kernel) (by decide +kernel) (by decide +kernel) (by decide +kernel)
theorem allAtoms_all (ts : List Jvm.Cond) (a : Array Jvm.Value) (st : Jvm.State) : (allAtoms ts).before a st = ts.all (fun c => c.before a st) := by
  induction ts with
  | nil => rfl
  | cons c t ih =>
    show (Jvm.Cond.and c (allAtoms t)).before a st = _
    rw [Jvm.Cond.before_and, ih, List.all_cons]
def words1 : List Jvm.Cond := Jvm.Cond.code x code maxLocals ret :: tables_1
/-- a 'code' word, met by the world's own term for the bytes: nothing is compared byte by byte -/
theorem code_word {y : MethodName} {bytes : ByteArray} {mx : Nat} {rt : Option FieldType} {a : Array Value} {s : State} {m : MethodId} {meth : Method} {c : Code} (h1 : s.methodNamed? y = some m) (h2 : s.vm.method? m = some meth) (h3 : meth.code = some c) (h4 : c.code = bytes)
    (h5 : (c.maxLocals == mx && c.exceptionTable.isEmpty && decide (c.maxStack ≤ mostOperands) && decide (meth.sig.returnType = rt) && !meth.locks && decide (parseMethodDescriptor y.desc = some meth.sig)) = true) : (Jvm.Cond.code y bytes mx rt).before a s = true := by
  simp only [Bool.and_eq_true, beq_iff_eq, Bool.not_eq_true', decide_eq_true_eq] at h5
  obtain ⟨⟨⟨⟨⟨g1, g2⟩, g3⟩, g4⟩, g5⟩, g6⟩ := h5
  simp [Cond.before, Cond.holds, Cond.value, h1, h2, h3, h4, g1, g2, g3, g4, g5, g6]
def isCode : Jvm.Cond → Bool
  | .code _ _ _ _ => true
  | _ => false
theorem all_split {L : List Jvm.Cond} {P : Jvm.Cond → Bool} (h1 : L.all (fun c => isCode c || P c) = true) (h2 : ∀ c ∈ L.filter isCode, P c = true) : L.all P = true := by
  refine List.all_eq_true.mpr fun c hc => ?_
  have h := List.all_eq_true.mp h1 c hc
  rcases Bool.eq_false_or_eq_true (isCode c) with hi | hi
  · exact h2 c (List.mem_filter.mpr ⟨hc, hi⟩)
  · simpa [hi] using h
set_option maxRecDepth 65536 in
theorem w_c0 : (Jvm.Cond.code x code maxLocals ret).before args0 about1 = true := code_word (m := ⟨1, 1⟩) (meth := k1m1) (c := k1c1) (by decide +kernel) rfl rfl rfl (by decide +kernel)
set_option maxRecDepth 65536 in
theorem w_c1 : (Jvm.Cond.code ({ cls := "com/example/lamassu/lamassu/model/Redirection", name := "<init>", desc := "(ILcom/example/lamassu/lamassu/model/Redirection$Operator;Lcom/example/lamassu/lamassu/model/Word;Ljava/lang/String;)V" } : Jvm.MethodName) prog_140_method_1_code (5 : Nat) (Option.none : Option Jvm.ClassFile.FieldType)).before args0 about1 = true := code_word (m := ⟨7, 0⟩) (meth := k7m0) (c := k7c0) (by decide +kernel) rfl rfl rfl (by decide +kernel)
set_option maxRecDepth 65536 in
theorem w_c2 : (Jvm.Cond.code ({ cls := "java/lang/Object", name := "<init>", desc := "()V" } : Jvm.MethodName) object_method_1_code (1 : Nat) (Option.none : Option Jvm.ClassFile.FieldType)).before args0 about1 = true := code_word (m := ⟨0, 0⟩) (meth := k0m0) (c := k0c0) (by decide +kernel) rfl rfl rfl (by decide +kernel)
set_option maxRecDepth 65536 in
theorem w_c3 : (Jvm.Cond.code ({ cls := "com/example/lamassu/lamassu/model/Redirection", name := "descriptor", desc := "()I" } : Jvm.MethodName) prog_140_method_2_code (1 : Nat) (Option.some Jvm.ClassFile.FieldType.int)).before args0 about1 = true := code_word (m := ⟨7, 1⟩) (meth := k7m1) (c := k7c1) (by decide +kernel) rfl rfl rfl (by decide +kernel)
set_option maxRecDepth 65536 in
theorem w_c4 : (Jvm.Cond.code ({ cls := "com/example/lamassu/lamassu/model/Redirection$Operator", name := "defaultDescriptor", desc := "()I" } : Jvm.MethodName) prog_141_method_5_code (1 : Nat) (Option.some Jvm.ClassFile.FieldType.int)).before args0 about1 = true := code_word (m := ⟨6, 0⟩) (meth := k6m0) (c := k6c0) (by decide +kernel) rfl rfl rfl (by decide +kernel)
def codes1 : List Jvm.Cond := [Jvm.Cond.code x code maxLocals ret, Jvm.Cond.code ({ cls := "com/example/lamassu/lamassu/model/Redirection", name := "<init>", desc := "(ILcom/example/lamassu/lamassu/model/Redirection$Operator;Lcom/example/lamassu/lamassu/model/Word;Ljava/lang/String;)V" } : Jvm.MethodName) prog_140_method_1_code (5 : Nat) (Option.none : Option Jvm.ClassFile.FieldType), Jvm.Cond.code ({ cls := "java/lang/Object", name := "<init>", desc := "()V" } : Jvm.MethodName) object_method_1_code (1 : Nat) (Option.none : Option Jvm.ClassFile.FieldType), Jvm.Cond.code ({ cls := "com/example/lamassu/lamassu/model/Redirection", name := "descriptor", desc := "()I" } : Jvm.MethodName) prog_140_method_2_code (1 : Nat) (Option.some Jvm.ClassFile.FieldType.int), Jvm.Cond.code ({ cls := "com/example/lamassu/lamassu/model/Redirection$Operator", name := "defaultDescriptor", desc := "()I" } : Jvm.MethodName) prog_141_method_5_code (1 : Nat) (Option.some Jvm.ClassFile.FieldType.int)]
set_option maxRecDepth 65536 in
theorem codes_eq : words1.filter isCode = codes1 := rfl
theorem w_codes : ∀ c ∈ words1.filter isCode, c.before args0 about1 = true := by
  rw [codes_eq]
  intro c hc
  simp only [codes1, List.mem_cons, List.not_mem_nil, or_false] at hc
  rcases hc with rfl | rfl | rfl | rfl | rfl
  · exact w_c0
  · exact w_c1
  · exact w_c2
  · exact w_c3
  · exact w_c4
set_option maxRecDepth 65536 in
theorem w_t1 : (words1.take 24).all (fun c => isCode c || c.before args0 about1) = true := by decide +kernel
set_option maxRecDepth 65536 in
theorem w_t2 : ((words1.drop 24).take 24).all (fun c => isCode c || c.before args0 about1) = true := by decide +kernel
set_option maxRecDepth 65536 in
theorem w_t3 : ((words1.drop 24).drop 24).all (fun c => isCode c || c.before args0 about1) = true := by decide +kernel
theorem w_tables : (allAtoms (Jvm.Cond.code x code maxLocals ret :: tables_1)).before args0 about1 = true := by
  rw [allAtoms_all]
  show words1.all (fun c => c.before args0 about1) = true
  refine all_split ?_ w_codes
  rw [← List.take_append_drop 24 words1, List.all_append, w_t1, ← List.take_append_drop 24 (words1.drop 24), List.all_append, w_t2, w_t3]
  rfl
set_option maxRecDepth 65536 in
theorem w_case : (Jvm.Cond.and given_1 narrow_1).before args0 about1 = true := by decide +kernel
theorem w_applies : (headSpec (Jvm.Cond.code x code maxLocals ret :: tables_1) room_1).applies x e0.platform about1 = true :=
  (Spec.applies_iff w_frames).mpr ⟨w_running, w_runnable, w_alone, w_named, w_hears, w_ripe, w_room, w_tables⟩
theorem atStart : AtStart classFile x code maxLocals ret World_1 tables_1 room_1 Calls_1 rest_1 Pre_1 launch0 p0 e0 about1 theMethod args0 below0 :=
  ⟨lists_1, trivial, launch0.admits_env _ _ _, launch0.least_env, fairChoices_fair.cas, fairChoices_fair.clock, w_frames, w_args, w_heap, w_applies, trivial, trivial, w_case⟩
end start1
theorem witness_1 : WitnessClaimed_1 := ⟨start1.p0, start1.e0, start1.about1, start1.theMethod, start1.args0, start1.below0, start1.atStart⟩
end Jvm.Pilot.@@N@@
