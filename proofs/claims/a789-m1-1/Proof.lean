import JvmDerived
import JvmDerived.Pilot.@@N@@Statement
import JvmDerived.Pilot.@@N@@Code
set_option linter.unusedVariables false
set_option linter.unusedSimpArgs false
namespace Jvm.Pilot.@@N@@
open Jvm Jvm.ClassFile Sem Op Lib Jvm.Free Jvm.Stand Jvm.LawKit Jvm.RoadKit Bundle Jvm.Pilot.@@N@@.Jvm.D
/-! what is left of a run: it comes to its end, and there Q holds -/
def oG (p : Program) (e : Env) (below : List Frame) (s : State) (Q : Option Value → Heap → List Loc → Prop) (rc rs : Nat) (S : State) : Prop :=
  ∃ s₂ o, Steps p.tables e below S s₂ ∧ s₂.status = .running ∧ Ended s₂ below o ∧ ∃ v L, o = .returned v ∧ Q v s₂.heap L ∧ FrameEnd s o s₂ L rc rs
theorem oS {p : Program} {e : Env} {below : List Frame} {s : State} {Q : Option Value → Heap → List Loc → Prop} {rc rs : Nat} {S S' : State} (k : ∀ t, Steps p.tables e below S' t → Steps p.tables e below S t) (g : oG p e below s Q rc rs S') : oG p e below s Q rc rs S := by
  obtain ⟨s₂, o, h1, h2⟩ := g
  exact ⟨s₂, o, k _ h1, h2⟩
theorem own_ret {p : Program} {l : Launch} {e : Env} {R : Room} {s : State} {m : MethodId} {args : Array Value} {below : List Frame} {meth : Method} {c : Code} {T : State} {locs : List Loc} {cells slots : Nat} {Q : Option Value → Heap → List Loc → Prop} {rc rs : Nat} {S : State} {v : Option Value} (X : Stand p l e R s m args below meth c T locs cells slots) (hv : meth.sig.returnType = none → v = none) (hlocks : meth.locks = false)
    (st : ∀ fs, (∀ (f : JFrame) (acts : List Action), f.method = m → f.locked = none → f.entered = [] → (doReturn e (T.setTop f) acts v).1 = T.setFrames fs) → Steps p.tables e below S (T.setFrames fs)) (q : Q v T.heap locs) (hc : cells ≤ rc) (hs : slots ≤ rs) : oG p e below s Q rc rs S := by
  obtain ⟨fs, hr, hrun, hended, hW, hsame⟩ := X.leave hv hlocks
  exact ⟨_, _, st fs hr, hrun, hended, _, _, rfl, q, ⟨_, rfl⟩, hW, hsame.mono hc hs⟩
theorem oW {a0 : Array Value} {Z : State} (hw : ∀ d ∈ tables_1, d.before a0 Z = true) (i : Nat) {d : Jvm.Cond} (h : tables_1[i]? = some d) : d.before a0 Z = true := hw _ (List.mem_of_getElem? h)
theorem own_eqv {args : Array Value} {s : State} {a b : Term} {v : Value} (h : (Jvm.Cond.eq a b).value args s none s [] = some true) (hb : b.eval args s none [] s = some v) : a.eval args s none [] s = some v := by
  obtain ⟨x, y, ha, hb', -, -⟩ := cmp_v (Or.inl h)
  cases hb.symm.trans hb'
  rw [ha]
  cases x <;> cases v <;> simp [Cond.value, ha, hb] at h ⊢ <;> exact h
theorem own_len {args : Array Value} {s : State} {t : Term} {a : Addr} {cl : Cell} {ty : FieldType} {z : Int32} (h : (Term.length t).eval args s none [] s = some (.int z)) (ht : t.eval args s none [] s = some (.ref a)) (A : Arr s s.heap a cl ty) : cl.slots.size < 2 ^ 31 ∧ cl.slots.size.toInt32 = z := by
  have hA := A.fin (Vm.Alike.refl _)
  obtain ⟨a', cell, h1, h2, h3⟩ := Term.length_spec h
  cases ht.symm.trans h1
  cases hA.symm.trans h2
  refine ⟨?_, (Value.int.inj h3).symm⟩
  simp only [Term.eval, ht, hA, Option.bind_eq_bind, Option.bind_some] at h
  split at h
  · assumption
  · cases h
theorem own_sz {n : Nat} {z : Int32} (h1 : n < 2 ^ 31) (h2 : n.toInt32 = z) : n = z.toNatClampNeg := by
  rw [← h2]; simp only [Int32.toNatClampNeg, len_toInt h1]; rfl
theorem own_box {args : Array Value} {s : State} {t : Term} {a : Addr} {c : Cell} {K : String} {G : Jvm.Cond} (et : ∀ idx, t.eval args s none idx s = some (.ref a)) (A : Arr s s.heap a c (.object K)) (h : (Jvm.Cond.all t (.and (.exactly (.elem t (.index 0)) K) G)).value args s none s [] = some true) :
    ∀ j : Int32, ¬ (j < 0 ∨ c.slots.size ≤ j.toNatClampNeg) → ∃ b : Addr, c.slots[j.toNatClampNeg]? = some (.ref b) ∧ Exa s s.heap b K := fun j hj => by
  have nn : ¬ j < 0 := fun x => hj (Or.inl x)
  obtain ⟨u1, -⟩ := and_e (Cond.all_elim (et []) (A.fin (Vm.Alike.refl _)) h j.toNatClampNeg (Nat.lt_of_not_le fun x => hj (Or.inr x)))
  obtain ⟨b, eb⟩ := exa_v u1
  exact ⟨b, (elem_f (et _) (idx_at nn) (A.fin (Vm.Alike.refl _)) nn).symm.trans eb, exa_at eb u1⟩
theorem own_neI {Z : State} {h : Heap} {a b : Addr} {C n d : String} {x y : Int32} (F : Fld Z h a C n d (.int x)) (G : Fld Z h b C n d (.int y)) (hn : x ≠ y) : ¬ a = b := fun e => by
  subst e
  obtain ⟨c1, cf1, k1, i1, f1, a1, a2, -, -, -, -, a7⟩ := F
  obtain ⟨c2, cf2, k2, i2, f2, b1, b2, -, -, -, -, b7⟩ := G
  cases a1.symm.trans b1
  cases a2.symm.trans b2
  cases a7.symm.trans b7
  exact hn rfl
theorem own_neJ {Z : State} {h : Heap} {a b : Addr} {C n d : String} {x y : Int64} (F : Fld Z h a C n d (.long x)) (G : Fld Z h b C n d (.long y)) (hn : x ≠ y) : ¬ a = b := fun e => by
  subst e
  obtain ⟨c1, cf1, k1, i1, f1, a1, a2, -, -, -, -, a7⟩ := F
  obtain ⟨c2, cf2, k2, i2, f2, b1, b2, -, -, -, -, b7⟩ := G
  cases a1.symm.trans b1
  cases a2.symm.trans b2
  cases a7.symm.trans b7
  exact hn rfl
def own_pick (w : Nat → Addr) (k : Int32) : Addr := if k = (0 : Int32) then (w 0) else if k = (1 : Int32) then (w 6) else if k = (2 : Int32) then (w 2) else if k = (3 : Int32) then (w 1) else if k = (4 : Int32) then (w 3) else if k = (5 : Int32) then (w 8) else if k = (6 : Int32) then (w 9) else if k = (7 : Int32) then (w 7) else if k = (8 : Int32) then (w 11) else if k = (9 : Int32) then (w 4) else if k = (10 : Int32) then (w 10) else (w 5)
def own_World (Z : State) (w : Nat → Addr) : Prop := Sta Z Z.heap "com/example/sixfold/sixfold/rules/Piece" "WHITE_KING" "Lcom/example/sixfold/sixfold/rules/Piece;" (.ref (w 0)) ∧ Exa Z Z.heap (w 0) "com/example/sixfold/sixfold/rules/Piece" ∧ Sta Z Z.heap "com/example/sixfold/sixfold/rules/Piece" "WHITE_BISHOP" "Lcom/example/sixfold/sixfold/rules/Piece;" (.ref (w 1)) ∧ Exa Z Z.heap (w 1) "com/example/sixfold/sixfold/rules/Piece" ∧ Sta Z Z.heap "com/example/sixfold/sixfold/rules/Piece" "WHITE_ROOK" "Lcom/example/sixfold/sixfold/rules/Piece;" (.ref (w 2)) ∧ Exa Z Z.heap (w 2) "com/example/sixfold/sixfold/rules/Piece" ∧ Sta Z Z.heap "com/example/sixfold/sixfold/rules/Piece" "WHITE_KNIGHT" "Lcom/example/sixfold/sixfold/rules/Piece;" (.ref (w 3)) ∧ Exa Z Z.heap (w 3) "com/example/sixfold/sixfold/rules/Piece" ∧ Sta Z Z.heap "com/example/sixfold/sixfold/rules/Piece" "BLACK_BISHOP" "Lcom/example/sixfold/sixfold/rules/Piece;" (.ref (w 4)) ∧ Exa Z Z.heap (w 4) "com/example/sixfold/sixfold/rules/Piece" ∧ Sta Z Z.heap "com/example/sixfold/sixfold/rules/Piece" "BLACK_PAWN" "Lcom/example/sixfold/sixfold/rules/Piece;" (.ref (w 5)) ∧ Exa Z Z.heap (w 5) "com/example/sixfold/sixfold/rules/Piece" ∧ Sta Z Z.heap "com/example/sixfold/sixfold/rules/Piece" "WHITE_QUEEN" "Lcom/example/sixfold/sixfold/rules/Piece;" (.ref (w 6)) ∧ Exa Z Z.heap (w 6) "com/example/sixfold/sixfold/rules/Piece" ∧ Sta Z Z.heap "com/example/sixfold/sixfold/rules/Piece" "BLACK_QUEEN" "Lcom/example/sixfold/sixfold/rules/Piece;" (.ref (w 7)) ∧ Exa Z Z.heap (w 7) "com/example/sixfold/sixfold/rules/Piece" ∧ Sta Z Z.heap "com/example/sixfold/sixfold/rules/Piece" "WHITE_PAWN" "Lcom/example/sixfold/sixfold/rules/Piece;" (.ref (w 8)) ∧ Exa Z Z.heap (w 8) "com/example/sixfold/sixfold/rules/Piece" ∧ Sta Z Z.heap "com/example/sixfold/sixfold/rules/Piece" "BLACK_KING" "Lcom/example/sixfold/sixfold/rules/Piece;" (.ref (w 9)) ∧ Exa Z Z.heap (w 9) "com/example/sixfold/sixfold/rules/Piece" ∧ Sta Z Z.heap "com/example/sixfold/sixfold/rules/Piece" "BLACK_KNIGHT" "Lcom/example/sixfold/sixfold/rules/Piece;" (.ref (w 10)) ∧ Exa Z Z.heap (w 10) "com/example/sixfold/sixfold/rules/Piece" ∧ Sta Z Z.heap "com/example/sixfold/sixfold/rules/Piece" "BLACK_ROOK" "Lcom/example/sixfold/sixfold/rules/Piece;" (.ref (w 11)) ∧ Exa Z Z.heap (w 11) "com/example/sixfold/sixfold/rules/Piece"
theorem own_world {args : Array Value} {s : State} (hw : ∀ d ∈ tables_1, d.before args s = true) (hfit : Fit s) (hn : narrow_1.value args s none s [] = some true) : ∃ w : Nat → Addr, own_World s w := by
  obtain ⟨h0, q1⟩ := and_e hn
  obtain ⟨h1, q3⟩ := and_e q1
  obtain ⟨h2, q5⟩ := and_e q3
  obtain ⟨h3, q7⟩ := and_e q5
  obtain ⟨h4, q9⟩ := and_e q7
  obtain ⟨h5, q11⟩ := and_e q9
  obtain ⟨h6, q13⟩ := and_e q11
  obtain ⟨h7, q15⟩ := and_e q13
  obtain ⟨h8, q17⟩ := and_e q15
  obtain ⟨h9, q19⟩ := and_e q17
  obtain ⟨h10, h11⟩ := and_e q19
  obtain ⟨c0, e0⟩ := exa_v h0
  obtain ⟨c1, e1⟩ := exa_v h1
  obtain ⟨c2, e2⟩ := exa_v h2
  obtain ⟨c3, e3⟩ := exa_v h3
  obtain ⟨c4, e4⟩ := exa_v h4
  obtain ⟨c5, e5⟩ := exa_v h5
  obtain ⟨c6, e6⟩ := exa_v h6
  obtain ⟨c7, e7⟩ := exa_v h7
  obtain ⟨c8, e8⟩ := exa_v h8
  obtain ⟨c9, e9⟩ := exa_v h9
  obtain ⟨c10, e10⟩ := exa_v h10
  obtain ⟨c11, e11⟩ := exa_v h11
  exact ⟨fun n => ([c0, c1, c2, c3, c4, c5, c6, c7, c8, c9, c10, c11] : List Nat).getD n 0, Sta.start e0 (Or.inr ⟨(oW hw 6 rfl), (oW hw 7 rfl)⟩), Exa.start e0 h0, Sta.start e1 (Or.inr ⟨(oW hw 6 rfl), (oW hw 9 rfl)⟩), Exa.start e1 h1, Sta.start e2 (Or.inr ⟨(oW hw 6 rfl), (oW hw 11 rfl)⟩), Exa.start e2 h2, Sta.start e3 (Or.inr ⟨(oW hw 6 rfl), (oW hw 46 rfl)⟩), Exa.start e3 h3, Sta.start e4 (Or.inr ⟨(oW hw 6 rfl), (oW hw 48 rfl)⟩), Exa.start e4 h4, Sta.start e5 (Or.inr ⟨(oW hw 6 rfl), (oW hw 50 rfl)⟩), Exa.start e5 h5, Sta.start e6 (Or.inr ⟨(oW hw 6 rfl), (oW hw 52 rfl)⟩), Exa.start e6 h6, Sta.start e7 (Or.inr ⟨(oW hw 6 rfl), (oW hw 54 rfl)⟩), Exa.start e7 h7, Sta.start e8 (Or.inr ⟨(oW hw 6 rfl), (oW hw 56 rfl)⟩), Exa.start e8 h8, Sta.start e9 (Or.inr ⟨(oW hw 6 rfl), (oW hw 58 rfl)⟩), Exa.start e9 h9, Sta.start e10 (Or.inr ⟨(oW hw 6 rfl), (oW hw 60 rfl)⟩), Exa.start e10 h10, Sta.start e11 (Or.inr ⟨(oW hw 6 rfl), (oW hw 62 rfl)⟩), Exa.start e11 h11⟩
theorem wS0 {Z : State} {w : Nat → Addr} (W : own_World Z w) : Sta Z Z.heap "com/example/sixfold/sixfold/rules/Piece" "WHITE_KING" "Lcom/example/sixfold/sixfold/rules/Piece;" (.ref (w 0)) := W.1
theorem wE0 {Z : State} {w : Nat → Addr} (W : own_World Z w) : Exa Z Z.heap (w 0) "com/example/sixfold/sixfold/rules/Piece" := W.2.1
theorem wS1 {Z : State} {w : Nat → Addr} (W : own_World Z w) : Sta Z Z.heap "com/example/sixfold/sixfold/rules/Piece" "WHITE_BISHOP" "Lcom/example/sixfold/sixfold/rules/Piece;" (.ref (w 1)) := W.2.2.1
theorem wE1 {Z : State} {w : Nat → Addr} (W : own_World Z w) : Exa Z Z.heap (w 1) "com/example/sixfold/sixfold/rules/Piece" := W.2.2.2.1
theorem wS2 {Z : State} {w : Nat → Addr} (W : own_World Z w) : Sta Z Z.heap "com/example/sixfold/sixfold/rules/Piece" "WHITE_ROOK" "Lcom/example/sixfold/sixfold/rules/Piece;" (.ref (w 2)) := W.2.2.2.2.1
theorem wE2 {Z : State} {w : Nat → Addr} (W : own_World Z w) : Exa Z Z.heap (w 2) "com/example/sixfold/sixfold/rules/Piece" := W.2.2.2.2.2.1
theorem wS3 {Z : State} {w : Nat → Addr} (W : own_World Z w) : Sta Z Z.heap "com/example/sixfold/sixfold/rules/Piece" "WHITE_KNIGHT" "Lcom/example/sixfold/sixfold/rules/Piece;" (.ref (w 3)) := W.2.2.2.2.2.2.1
theorem wE3 {Z : State} {w : Nat → Addr} (W : own_World Z w) : Exa Z Z.heap (w 3) "com/example/sixfold/sixfold/rules/Piece" := W.2.2.2.2.2.2.2.1
theorem wS4 {Z : State} {w : Nat → Addr} (W : own_World Z w) : Sta Z Z.heap "com/example/sixfold/sixfold/rules/Piece" "BLACK_BISHOP" "Lcom/example/sixfold/sixfold/rules/Piece;" (.ref (w 4)) := W.2.2.2.2.2.2.2.2.1
theorem wE4 {Z : State} {w : Nat → Addr} (W : own_World Z w) : Exa Z Z.heap (w 4) "com/example/sixfold/sixfold/rules/Piece" := W.2.2.2.2.2.2.2.2.2.1
theorem wS5 {Z : State} {w : Nat → Addr} (W : own_World Z w) : Sta Z Z.heap "com/example/sixfold/sixfold/rules/Piece" "BLACK_PAWN" "Lcom/example/sixfold/sixfold/rules/Piece;" (.ref (w 5)) := W.2.2.2.2.2.2.2.2.2.2.1
theorem wE5 {Z : State} {w : Nat → Addr} (W : own_World Z w) : Exa Z Z.heap (w 5) "com/example/sixfold/sixfold/rules/Piece" := W.2.2.2.2.2.2.2.2.2.2.2.1
theorem wS6 {Z : State} {w : Nat → Addr} (W : own_World Z w) : Sta Z Z.heap "com/example/sixfold/sixfold/rules/Piece" "WHITE_QUEEN" "Lcom/example/sixfold/sixfold/rules/Piece;" (.ref (w 6)) := W.2.2.2.2.2.2.2.2.2.2.2.2.1
theorem wE6 {Z : State} {w : Nat → Addr} (W : own_World Z w) : Exa Z Z.heap (w 6) "com/example/sixfold/sixfold/rules/Piece" := W.2.2.2.2.2.2.2.2.2.2.2.2.2.1
theorem wS7 {Z : State} {w : Nat → Addr} (W : own_World Z w) : Sta Z Z.heap "com/example/sixfold/sixfold/rules/Piece" "BLACK_QUEEN" "Lcom/example/sixfold/sixfold/rules/Piece;" (.ref (w 7)) := W.2.2.2.2.2.2.2.2.2.2.2.2.2.2.1
theorem wE7 {Z : State} {w : Nat → Addr} (W : own_World Z w) : Exa Z Z.heap (w 7) "com/example/sixfold/sixfold/rules/Piece" := W.2.2.2.2.2.2.2.2.2.2.2.2.2.2.2.1
theorem wS8 {Z : State} {w : Nat → Addr} (W : own_World Z w) : Sta Z Z.heap "com/example/sixfold/sixfold/rules/Piece" "WHITE_PAWN" "Lcom/example/sixfold/sixfold/rules/Piece;" (.ref (w 8)) := W.2.2.2.2.2.2.2.2.2.2.2.2.2.2.2.2.1
theorem wE8 {Z : State} {w : Nat → Addr} (W : own_World Z w) : Exa Z Z.heap (w 8) "com/example/sixfold/sixfold/rules/Piece" := W.2.2.2.2.2.2.2.2.2.2.2.2.2.2.2.2.2.1
theorem wS9 {Z : State} {w : Nat → Addr} (W : own_World Z w) : Sta Z Z.heap "com/example/sixfold/sixfold/rules/Piece" "BLACK_KING" "Lcom/example/sixfold/sixfold/rules/Piece;" (.ref (w 9)) := W.2.2.2.2.2.2.2.2.2.2.2.2.2.2.2.2.2.2.1
theorem wE9 {Z : State} {w : Nat → Addr} (W : own_World Z w) : Exa Z Z.heap (w 9) "com/example/sixfold/sixfold/rules/Piece" := W.2.2.2.2.2.2.2.2.2.2.2.2.2.2.2.2.2.2.2.1
theorem wS10 {Z : State} {w : Nat → Addr} (W : own_World Z w) : Sta Z Z.heap "com/example/sixfold/sixfold/rules/Piece" "BLACK_KNIGHT" "Lcom/example/sixfold/sixfold/rules/Piece;" (.ref (w 10)) := W.2.2.2.2.2.2.2.2.2.2.2.2.2.2.2.2.2.2.2.2.1
theorem wE10 {Z : State} {w : Nat → Addr} (W : own_World Z w) : Exa Z Z.heap (w 10) "com/example/sixfold/sixfold/rules/Piece" := W.2.2.2.2.2.2.2.2.2.2.2.2.2.2.2.2.2.2.2.2.2.1
theorem wS11 {Z : State} {w : Nat → Addr} (W : own_World Z w) : Sta Z Z.heap "com/example/sixfold/sixfold/rules/Piece" "BLACK_ROOK" "Lcom/example/sixfold/sixfold/rules/Piece;" (.ref (w 11)) := W.2.2.2.2.2.2.2.2.2.2.2.2.2.2.2.2.2.2.2.2.2.2.1
theorem wE11 {Z : State} {w : Nat → Addr} (W : own_World Z w) : Exa Z Z.heap (w 11) "com/example/sixfold/sixfold/rules/Piece" := W.2.2.2.2.2.2.2.2.2.2.2.2.2.2.2.2.2.2.2.2.2.2.2
theorem d1_0 : decode method_2_code 0 = .ok (.iload_n 0, 1) := by decide +kernel
theorem d1_1 : decode method_2_code 1 = .ok (.ldc 7, 2) := by decide +kernel
theorem d1_3 : decode method_2_code 3 = .ok (.iand, 1) := by decide +kernel
theorem d1_4 : decode method_2_code 4 = .ok (.bipush 12, 2) := by decide +kernel
theorem d1_6 : decode method_2_code 6 = .ok (.irem, 1) := by decide +kernel
theorem d1_7 : decode method_2_code 7 = .ok (.istore_n 1, 1) := by decide +kernel
theorem d1_8 : decode method_2_code 8 = .ok (.iload_n 1, 1) := by decide +kernel
theorem d1_9 : decode method_2_code 9 = .ok (.ifCond .ne 7, 3) := by decide +kernel
theorem d1_12 : decode method_2_code 12 = .ok (.getstatic 8, 3) := by decide +kernel
theorem d1_15 : decode method_2_code 15 = .ok (.areturn, 1) := by decide +kernel
theorem d1_16 : decode method_2_code 16 = .ok (.iload_n 1, 1) := by decide +kernel
theorem d1_17 : decode method_2_code 17 = .ok (.iconst 1, 1) := by decide +kernel
theorem d1_18 : decode method_2_code 18 = .ok (.if_icmp .ne 7, 3) := by decide +kernel
theorem d1_21 : decode method_2_code 21 = .ok (.getstatic 14, 3) := by decide +kernel
theorem d1_24 : decode method_2_code 24 = .ok (.areturn, 1) := by decide +kernel
theorem d1_25 : decode method_2_code 25 = .ok (.iload_n 1, 1) := by decide +kernel
theorem d1_26 : decode method_2_code 26 = .ok (.iconst 2, 1) := by decide +kernel
theorem d1_27 : decode method_2_code 27 = .ok (.if_icmp .ne 7, 3) := by decide +kernel
theorem d1_30 : decode method_2_code 30 = .ok (.getstatic 17, 3) := by decide +kernel
theorem d1_33 : decode method_2_code 33 = .ok (.areturn, 1) := by decide +kernel
theorem d1_34 : decode method_2_code 34 = .ok (.iload_n 1, 1) := by decide +kernel
theorem d1_35 : decode method_2_code 35 = .ok (.iconst 3, 1) := by decide +kernel
theorem d1_36 : decode method_2_code 36 = .ok (.if_icmp .ne 7, 3) := by decide +kernel
theorem d1_39 : decode method_2_code 39 = .ok (.getstatic 20, 3) := by decide +kernel
theorem d1_42 : decode method_2_code 42 = .ok (.areturn, 1) := by decide +kernel
theorem d1_43 : decode method_2_code 43 = .ok (.iload_n 1, 1) := by decide +kernel
theorem d1_44 : decode method_2_code 44 = .ok (.iconst 4, 1) := by decide +kernel
theorem d1_45 : decode method_2_code 45 = .ok (.if_icmp .ne 7, 3) := by decide +kernel
theorem d1_48 : decode method_2_code 48 = .ok (.getstatic 23, 3) := by decide +kernel
theorem d1_51 : decode method_2_code 51 = .ok (.areturn, 1) := by decide +kernel
theorem d1_52 : decode method_2_code 52 = .ok (.iload_n 1, 1) := by decide +kernel
theorem d1_53 : decode method_2_code 53 = .ok (.iconst 5, 1) := by decide +kernel
theorem d1_54 : decode method_2_code 54 = .ok (.if_icmp .ne 7, 3) := by decide +kernel
theorem d1_57 : decode method_2_code 57 = .ok (.getstatic 26, 3) := by decide +kernel
theorem d1_60 : decode method_2_code 60 = .ok (.areturn, 1) := by decide +kernel
theorem d1_61 : decode method_2_code 61 = .ok (.iload_n 1, 1) := by decide +kernel
theorem d1_62 : decode method_2_code 62 = .ok (.bipush 6, 2) := by decide +kernel
theorem d1_64 : decode method_2_code 64 = .ok (.if_icmp .ne 7, 3) := by decide +kernel
theorem d1_67 : decode method_2_code 67 = .ok (.getstatic 29, 3) := by decide +kernel
theorem d1_70 : decode method_2_code 70 = .ok (.areturn, 1) := by decide +kernel
theorem d1_71 : decode method_2_code 71 = .ok (.iload_n 1, 1) := by decide +kernel
theorem d1_72 : decode method_2_code 72 = .ok (.bipush 7, 2) := by decide +kernel
theorem d1_74 : decode method_2_code 74 = .ok (.if_icmp .ne 7, 3) := by decide +kernel
theorem d1_77 : decode method_2_code 77 = .ok (.getstatic 32, 3) := by decide +kernel
theorem d1_80 : decode method_2_code 80 = .ok (.areturn, 1) := by decide +kernel
theorem d1_81 : decode method_2_code 81 = .ok (.iload_n 1, 1) := by decide +kernel
theorem d1_82 : decode method_2_code 82 = .ok (.bipush 8, 2) := by decide +kernel
theorem d1_84 : decode method_2_code 84 = .ok (.if_icmp .ne 7, 3) := by decide +kernel
theorem d1_87 : decode method_2_code 87 = .ok (.getstatic 35, 3) := by decide +kernel
theorem d1_90 : decode method_2_code 90 = .ok (.areturn, 1) := by decide +kernel
theorem d1_91 : decode method_2_code 91 = .ok (.iload_n 1, 1) := by decide +kernel
theorem d1_92 : decode method_2_code 92 = .ok (.bipush 9, 2) := by decide +kernel
theorem d1_94 : decode method_2_code 94 = .ok (.if_icmp .ne 7, 3) := by decide +kernel
theorem d1_97 : decode method_2_code 97 = .ok (.getstatic 38, 3) := by decide +kernel
theorem d1_100 : decode method_2_code 100 = .ok (.areturn, 1) := by decide +kernel
theorem d1_101 : decode method_2_code 101 = .ok (.iload_n 1, 1) := by decide +kernel
theorem d1_102 : decode method_2_code 102 = .ok (.bipush 10, 2) := by decide +kernel
theorem d1_104 : decode method_2_code 104 = .ok (.if_icmp .ne 7, 3) := by decide +kernel
theorem d1_107 : decode method_2_code 107 = .ok (.getstatic 41, 3) := by decide +kernel
theorem d1_110 : decode method_2_code 110 = .ok (.areturn, 1) := by decide +kernel
theorem d1_111 : decode method_2_code 111 = .ok (.getstatic 44, 3) := by decide +kernel
theorem d1_114 : decode method_2_code 114 = .ok (.areturn, 1) := by decide +kernel
abbrev mY0 : MethodName := (⟨"com/example/sixfold/sixfold/rules/MoveLandingPinLaw", "pick", "(I)Lcom/example/sixfold/sixfold/rules/Piece;"⟩ : MethodName)
theorem ef_1_i (m : MethodId) (x0 : Int32) : entryFrame m #[(.int x0)] 2 = mkF m 0 #[.val (.int x0), .unset] [] := by first | (simp [entryFrame, mkF, argsToLocals, Value.category]; done) | rfl
theorem pn_0 : plainName "com/example/sixfold/sixfold/rules/MoveLandingPinLaw" = true := by first | (simp [plainName, overriddenIn]; done) | decide +kernel
def Q_pick (Z : State) (p1 : Int32) (w : Nat → Addr) (h0 : Heap) (n0 : Nat) (v : Option Value) (h : Heap) (L : List Loc) : Prop := v = some (.ref (own_pick w ((p1 &&& (2147483647 : Int32)) % (12 : Int32)))) ∧ Fr n0 L ∧ h = h0
set_option maxRecDepth 65536 in
set_option maxHeartbeats 40000000 in
theorem rm_pick (l : Launch) (Z : State) (a0 : Array Value) (hw : ∀ d ∈ tables_1, d.before a0 Z = true) (ws : List Jvm.Cond) (p1 : Int32) (w : Nat → Addr) (h0 : Heap) (n0 : Nat) (O0 : Old Z n0 h0) (W : own_World Z w) :
    MetFree l mY0 (head1 (Jvm.Cond.code mY0 method_2_code 2 (some (.object "com/example/sixfold/sixfold/rules/Piece")) :: ws) ({ frames := 0, cells := 0, slots := 0, locals := 0 } : Room)) (fun a U => a = #[(.int p1)] ∧ Z.Warmed39 U.vm ∧ U.heap = h0) (fun _ _ _ _ _ => True) (fun _ U o U' => ∃ v L, o = .returned v ∧ Q_pick Z p1 w h0 n0 v U'.heap L ∧ FrameEnd U o U' L ({ frames := 0, cells := 0, slots := 0, locals := 0 } : Room).cells ({ frames := 0, cells := 0, slots := 0, locals := 0 } : Room).slots) := by
  refine MetFree.of_bodySF (plainFor_of_name pn_0) hisR ?_
  intro p e s m args below meth c s₁ Bd hml0 hP hK
  obtain ⟨rfl, hZ, hh⟩ := hP
  have hx := Bd.exec
  have hby := Bd.bytes
  have hml : c.maxLocals = 2 := hml0
  have hown : s.vm.findClass "com/example/sixfold/sixfold/rules/MoveLandingPinLaw" = some m.cls := findClass_of_methodNamed Bd.named
  have hnm := (name_of_methodNamed Bd.named Bd.method).1
  have X0 : Stand p l e ({ frames := 0, cells := 0, slots := 0, locals := 0 } : Room) s m #[(.int p1)] below meth c s₁ [] 0 0 := Stand.of_body Bd
  have e0 : s₁.heap = h0 := by rw [← hh, Bd.state]; rfl
  have N0 := Fr.nil n0
  show oG p e below s (Q_pick Z p1 w h0 n0) ({ frames := 0, cells := 0, slots := 0, locals := 0 } : Room).cells ({ frames := 0, cells := 0, slots := 0, locals := 0 } : Room).slots _
  refine oS (fun t k => castTop (ef_1_i m p1) k) ?_
  show oG _ _ _ _ _ _ _ (s₁.setTop (mkF m 0 #[.val (.int p1), .unset] []))
  refine oS (fun t k => XS.iloadN X0.here hx rfl (hb hby d1_0) rfl k) ?_
  refine oS (fun t k => X0.ldcInt hx hown (mvT hZ (oW hw 4 rfl)) (g := (mkF m 1 #[.val (.int p1), .unset] [(.int p1)])) rfl (hb hby d1_1) t k) ?_
  refine oS (fun t k => XS.iand X0.here hx rfl (hb hby d1_3) rfl k) ?_
  refine oS (fun t k => XS.bipush X0.here hx rfl (hb hby d1_4) k) ?_
  refine oS (fun t k => iremM X0 hx rfl (hb hby d1_6) rfl (by decide) k) ?_
  refine oS (fun t k => XS.istoreN X0.here hx rfl (hb hby d1_7) rfl (l' := #[.val (.int p1), .val (.int ((p1 &&& (2147483647 : Int32)) % (12 : Int32)))]) rfl k) ?_
  refine oS (fun t k => XS.iloadN X0.here hx rfl (hb hby d1_8) rfl k) ?_
  by_cases hc9 : ((p1 &&& (2147483647 : Int32)) % (12 : Int32)) = (0 : Int32)
  · refine oS (fun t k => XS.ifNo X0.here hx rfl (hb hby d1_9) rfl ((if0 _ _).trans (teq hc9).2) k) ?_
    obtain ⟨T1, X1, e1, st1⟩ := getS2 X0 hx hZ hown (host := "") (Or.inl (oW hw 5 rfl)) Via.refl e0 ((wS0 W).ext O0.2) (g := (mkF m 12 #[.val (.int p1), .val (.int ((p1 &&& (2147483647 : Int32)) % (12 : Int32)))] [])) rfl (hb hby d1_12)
    refine oS (fun t k => st1 t k) ?_
    exact own_ret (v := some (.ref (w 0))) X1 (fun h => by rw [Bd.returns] at h; cases h) Bd.notSynchronized (fun fs hr => retOut X1 hx (t := (.object "com/example/sixfold/sixfold/rules/Piece")) Bd.returns rfl (Or.inr (Or.inr (Or.inr (Or.inr ⟨rfl, rfl, rfl⟩)))) (hb hby d1_15) hr) (by rw [e1]; exact ⟨(by simp only [own_pick, if_pos hc9]), N0, rfl⟩) (by decide) (by decide)
  · refine oS (fun t k => XS.ifYes X0.here hx rfl (pc0 := 9) (pc' := 16) rfl (hb hby d1_9) rfl ((if0 _ _).trans (feq hc9).2) (by decide) (by decide) k) ?_
    refine oS (fun t k => XS.iloadN X0.here hx rfl (hb hby d1_16) rfl k) ?_
    refine oS (fun t k => XS.iconst X0.here hx rfl (hb hby d1_17) k) ?_
    show oG _ _ _ _ _ _ _ (s₁.setTop (mkF m 18 #[.val (.int p1), .val (.int ((p1 &&& (2147483647 : Int32)) % (12 : Int32)))] [(.int 1), (.int ((p1 &&& (2147483647 : Int32)) % (12 : Int32)))]))
    by_cases hc18 : ((p1 &&& (2147483647 : Int32)) % (12 : Int32)) = (1 : Int32)
    · refine oS (fun t k => XS.icmpNo X0.here hx rfl (hb hby d1_18) rfl (teq hc18).2 k) ?_
      obtain ⟨T2, X2, e2, st2⟩ := getS2 X0 hx hZ hown (host := "") (Or.inl (oW hw 51 rfl)) Via.refl e0 ((wS6 W).ext O0.2) (g := (mkF m 21 #[.val (.int p1), .val (.int ((p1 &&& (2147483647 : Int32)) % (12 : Int32)))] [])) rfl (hb hby d1_21)
      refine oS (fun t k => st2 t k) ?_
      exact own_ret (v := some (.ref (w 6))) X2 (fun h => by rw [Bd.returns] at h; cases h) Bd.notSynchronized (fun fs hr => retOut X2 hx (t := (.object "com/example/sixfold/sixfold/rules/Piece")) Bd.returns rfl (Or.inr (Or.inr (Or.inr (Or.inr ⟨rfl, rfl, rfl⟩)))) (hb hby d1_24) hr) (by rw [e2]; exact ⟨(by simp only [own_pick, if_neg hc9, if_pos hc18]), N0, rfl⟩) (by decide) (by decide)
    · refine oS (fun t k => XS.icmpYes X0.here hx rfl (pc0 := 18) (pc' := 25) rfl (hb hby d1_18) rfl (feq hc18).2 (by decide) (by decide) k) ?_
      refine oS (fun t k => XS.iloadN X0.here hx rfl (hb hby d1_25) rfl k) ?_
      refine oS (fun t k => XS.iconst X0.here hx rfl (hb hby d1_26) k) ?_
      by_cases hc27 : ((p1 &&& (2147483647 : Int32)) % (12 : Int32)) = (2 : Int32)
      · refine oS (fun t k => XS.icmpNo X0.here hx rfl (hb hby d1_27) rfl (teq hc27).2 k) ?_
        obtain ⟨T3, X3, e3, st3⟩ := getS2 X0 hx hZ hown (host := "") (Or.inl (oW hw 10 rfl)) Via.refl e0 ((wS2 W).ext O0.2) (g := (mkF m 30 #[.val (.int p1), .val (.int ((p1 &&& (2147483647 : Int32)) % (12 : Int32)))] [])) rfl (hb hby d1_30)
        refine oS (fun t k => st3 t k) ?_
        exact own_ret (v := some (.ref (w 2))) X3 (fun h => by rw [Bd.returns] at h; cases h) Bd.notSynchronized (fun fs hr => retOut X3 hx (t := (.object "com/example/sixfold/sixfold/rules/Piece")) Bd.returns rfl (Or.inr (Or.inr (Or.inr (Or.inr ⟨rfl, rfl, rfl⟩)))) (hb hby d1_33) hr) (by rw [e3]; exact ⟨(by simp only [own_pick, if_neg hc9, if_neg hc18, if_pos hc27]), N0, rfl⟩) (by decide) (by decide)
      · refine oS (fun t k => XS.icmpYes X0.here hx rfl (pc0 := 27) (pc' := 34) rfl (hb hby d1_27) rfl (feq hc27).2 (by decide) (by decide) k) ?_
        refine oS (fun t k => XS.iloadN X0.here hx rfl (hb hby d1_34) rfl k) ?_
        refine oS (fun t k => XS.iconst X0.here hx rfl (hb hby d1_35) k) ?_
        by_cases hc36 : ((p1 &&& (2147483647 : Int32)) % (12 : Int32)) = (3 : Int32)
        · refine oS (fun t k => XS.icmpNo X0.here hx rfl (hb hby d1_36) rfl (teq hc36).2 k) ?_
          obtain ⟨T4, X4, e4, st4⟩ := getS2 X0 hx hZ hown (host := "") (Or.inl (oW hw 8 rfl)) Via.refl e0 ((wS1 W).ext O0.2) (g := (mkF m 39 #[.val (.int p1), .val (.int ((p1 &&& (2147483647 : Int32)) % (12 : Int32)))] [])) rfl (hb hby d1_39)
          refine oS (fun t k => st4 t k) ?_
          exact own_ret (v := some (.ref (w 1))) X4 (fun h => by rw [Bd.returns] at h; cases h) Bd.notSynchronized (fun fs hr => retOut X4 hx (t := (.object "com/example/sixfold/sixfold/rules/Piece")) Bd.returns rfl (Or.inr (Or.inr (Or.inr (Or.inr ⟨rfl, rfl, rfl⟩)))) (hb hby d1_42) hr) (by rw [e4]; exact ⟨(by simp only [own_pick, if_neg hc9, if_neg hc18, if_neg hc27, if_pos hc36]), N0, rfl⟩) (by decide) (by decide)
        · refine oS (fun t k => XS.icmpYes X0.here hx rfl (pc0 := 36) (pc' := 43) rfl (hb hby d1_36) rfl (feq hc36).2 (by decide) (by decide) k) ?_
          refine oS (fun t k => XS.iloadN X0.here hx rfl (hb hby d1_43) rfl k) ?_
          refine oS (fun t k => XS.iconst X0.here hx rfl (hb hby d1_44) k) ?_
          by_cases hc45 : ((p1 &&& (2147483647 : Int32)) % (12 : Int32)) = (4 : Int32)
          · refine oS (fun t k => XS.icmpNo X0.here hx rfl (hb hby d1_45) rfl (teq hc45).2 k) ?_
            show oG _ _ _ _ _ _ _ (s₁.setTop (mkF m 48 #[.val (.int p1), .val (.int ((p1 &&& (2147483647 : Int32)) % (12 : Int32)))] []))
            obtain ⟨T5, X5, e5, st5⟩ := getS2 X0 hx hZ hown (host := "") (Or.inl (oW hw 45 rfl)) Via.refl e0 ((wS3 W).ext O0.2) (g := (mkF m 48 #[.val (.int p1), .val (.int ((p1 &&& (2147483647 : Int32)) % (12 : Int32)))] [])) rfl (hb hby d1_48)
            refine oS (fun t k => st5 t k) ?_
            exact own_ret (v := some (.ref (w 3))) X5 (fun h => by rw [Bd.returns] at h; cases h) Bd.notSynchronized (fun fs hr => retOut X5 hx (t := (.object "com/example/sixfold/sixfold/rules/Piece")) Bd.returns rfl (Or.inr (Or.inr (Or.inr (Or.inr ⟨rfl, rfl, rfl⟩)))) (hb hby d1_51) hr) (by rw [e5]; exact ⟨(by simp only [own_pick, if_neg hc9, if_neg hc18, if_neg hc27, if_neg hc36, if_pos hc45]), N0, rfl⟩) (by decide) (by decide)
          · refine oS (fun t k => XS.icmpYes X0.here hx rfl (pc0 := 45) (pc' := 52) rfl (hb hby d1_45) rfl (feq hc45).2 (by decide) (by decide) k) ?_
            show oG _ _ _ _ _ _ _ (s₁.setTop (mkF m 52 #[.val (.int p1), .val (.int ((p1 &&& (2147483647 : Int32)) % (12 : Int32)))] []))
            refine oS (fun t k => XS.iloadN X0.here hx rfl (hb hby d1_52) rfl k) ?_
            refine oS (fun t k => XS.iconst X0.here hx rfl (hb hby d1_53) k) ?_
            by_cases hc54 : ((p1 &&& (2147483647 : Int32)) % (12 : Int32)) = (5 : Int32)
            · refine oS (fun t k => XS.icmpNo X0.here hx rfl (hb hby d1_54) rfl (teq hc54).2 k) ?_
              obtain ⟨T6, X6, e6, st6⟩ := getS2 X0 hx hZ hown (host := "") (Or.inl (oW hw 55 rfl)) Via.refl e0 ((wS8 W).ext O0.2) (g := (mkF m 57 #[.val (.int p1), .val (.int ((p1 &&& (2147483647 : Int32)) % (12 : Int32)))] [])) rfl (hb hby d1_57)
              refine oS (fun t k => st6 t k) ?_
              exact own_ret (v := some (.ref (w 8))) X6 (fun h => by rw [Bd.returns] at h; cases h) Bd.notSynchronized (fun fs hr => retOut X6 hx (t := (.object "com/example/sixfold/sixfold/rules/Piece")) Bd.returns rfl (Or.inr (Or.inr (Or.inr (Or.inr ⟨rfl, rfl, rfl⟩)))) (hb hby d1_60) hr) (by rw [e6]; exact ⟨(by simp only [own_pick, if_neg hc9, if_neg hc18, if_neg hc27, if_neg hc36, if_neg hc45, if_pos hc54]), N0, rfl⟩) (by decide) (by decide)
            · refine oS (fun t k => XS.icmpYes X0.here hx rfl (pc0 := 54) (pc' := 61) rfl (hb hby d1_54) rfl (feq hc54).2 (by decide) (by decide) k) ?_
              refine oS (fun t k => XS.iloadN X0.here hx rfl (hb hby d1_61) rfl k) ?_
              refine oS (fun t k => XS.bipush X0.here hx rfl (hb hby d1_62) k) ?_
              by_cases hc64 : ((p1 &&& (2147483647 : Int32)) % (12 : Int32)) = (6 : Int32)
              · refine oS (fun t k => XS.icmpNo X0.here hx rfl (hb hby d1_64) rfl (teq hc64).2 k) ?_
                obtain ⟨T7, X7, e7, st7⟩ := getS2 X0 hx hZ hown (host := "") (Or.inl (oW hw 57 rfl)) Via.refl e0 ((wS9 W).ext O0.2) (g := (mkF m 67 #[.val (.int p1), .val (.int ((p1 &&& (2147483647 : Int32)) % (12 : Int32)))] [])) rfl (hb hby d1_67)
                refine oS (fun t k => st7 t k) ?_
                exact own_ret (v := some (.ref (w 9))) X7 (fun h => by rw [Bd.returns] at h; cases h) Bd.notSynchronized (fun fs hr => retOut X7 hx (t := (.object "com/example/sixfold/sixfold/rules/Piece")) Bd.returns rfl (Or.inr (Or.inr (Or.inr (Or.inr ⟨rfl, rfl, rfl⟩)))) (hb hby d1_70) hr) (by rw [e7]; exact ⟨(by simp only [own_pick, if_neg hc9, if_neg hc18, if_neg hc27, if_neg hc36, if_neg hc45, if_neg hc54, if_pos hc64]), N0, rfl⟩) (by decide) (by decide)
              · refine oS (fun t k => XS.icmpYes X0.here hx rfl (pc0 := 64) (pc' := 71) rfl (hb hby d1_64) rfl (feq hc64).2 (by decide) (by decide) k) ?_
                refine oS (fun t k => XS.iloadN X0.here hx rfl (hb hby d1_71) rfl k) ?_
                refine oS (fun t k => XS.bipush X0.here hx rfl (hb hby d1_72) k) ?_
                by_cases hc74 : ((p1 &&& (2147483647 : Int32)) % (12 : Int32)) = (7 : Int32)
                · refine oS (fun t k => XS.icmpNo X0.here hx rfl (hb hby d1_74) rfl (teq hc74).2 k) ?_
                  obtain ⟨T8, X8, e8, st8⟩ := getS2 X0 hx hZ hown (host := "") (Or.inl (oW hw 53 rfl)) Via.refl e0 ((wS7 W).ext O0.2) (g := (mkF m 77 #[.val (.int p1), .val (.int ((p1 &&& (2147483647 : Int32)) % (12 : Int32)))] [])) rfl (hb hby d1_77)
                  refine oS (fun t k => st8 t k) ?_
                  show oG _ _ _ _ _ _ _ (T8.setTop (mkF m 80 #[.val (.int p1), .val (.int ((p1 &&& (2147483647 : Int32)) % (12 : Int32)))] [(.ref (w 7))]))
                  exact own_ret (v := some (.ref (w 7))) X8 (fun h => by rw [Bd.returns] at h; cases h) Bd.notSynchronized (fun fs hr => retOut X8 hx (t := (.object "com/example/sixfold/sixfold/rules/Piece")) Bd.returns rfl (Or.inr (Or.inr (Or.inr (Or.inr ⟨rfl, rfl, rfl⟩)))) (hb hby d1_80) hr) (by rw [e8]; exact ⟨(by simp only [own_pick, if_neg hc9, if_neg hc18, if_neg hc27, if_neg hc36, if_neg hc45, if_neg hc54, if_neg hc64, if_pos hc74]), N0, rfl⟩) (by decide) (by decide)
                · refine oS (fun t k => XS.icmpYes X0.here hx rfl (pc0 := 74) (pc' := 81) rfl (hb hby d1_74) rfl (feq hc74).2 (by decide) (by decide) k) ?_
                  refine oS (fun t k => XS.iloadN X0.here hx rfl (hb hby d1_81) rfl k) ?_
                  show oG _ _ _ _ _ _ _ (s₁.setTop (mkF m 82 #[.val (.int p1), .val (.int ((p1 &&& (2147483647 : Int32)) % (12 : Int32)))] [(.int ((p1 &&& (2147483647 : Int32)) % (12 : Int32)))]))
                  refine oS (fun t k => XS.bipush X0.here hx rfl (hb hby d1_82) k) ?_
                  by_cases hc84 : ((p1 &&& (2147483647 : Int32)) % (12 : Int32)) = (8 : Int32)
                  · refine oS (fun t k => XS.icmpNo X0.here hx rfl (hb hby d1_84) rfl (teq hc84).2 k) ?_
                    obtain ⟨T9, X9, e9, st9⟩ := getS2 X0 hx hZ hown (host := "") (Or.inl (oW hw 61 rfl)) Via.refl e0 ((wS11 W).ext O0.2) (g := (mkF m 87 #[.val (.int p1), .val (.int ((p1 &&& (2147483647 : Int32)) % (12 : Int32)))] [])) rfl (hb hby d1_87)
                    refine oS (fun t k => st9 t k) ?_
                    exact own_ret (v := some (.ref (w 11))) X9 (fun h => by rw [Bd.returns] at h; cases h) Bd.notSynchronized (fun fs hr => retOut X9 hx (t := (.object "com/example/sixfold/sixfold/rules/Piece")) Bd.returns rfl (Or.inr (Or.inr (Or.inr (Or.inr ⟨rfl, rfl, rfl⟩)))) (hb hby d1_90) hr) (by rw [e9]; exact ⟨(by simp only [own_pick, if_neg hc9, if_neg hc18, if_neg hc27, if_neg hc36, if_neg hc45, if_neg hc54, if_neg hc64, if_neg hc74, if_pos hc84]), N0, rfl⟩) (by decide) (by decide)
                  · refine oS (fun t k => XS.icmpYes X0.here hx rfl (pc0 := 84) (pc' := 91) rfl (hb hby d1_84) rfl (feq hc84).2 (by decide) (by decide) k) ?_
                    refine oS (fun t k => XS.iloadN X0.here hx rfl (hb hby d1_91) rfl k) ?_
                    refine oS (fun t k => XS.bipush X0.here hx rfl (hb hby d1_92) k) ?_
                    by_cases hc94 : ((p1 &&& (2147483647 : Int32)) % (12 : Int32)) = (9 : Int32)
                    · refine oS (fun t k => XS.icmpNo X0.here hx rfl (hb hby d1_94) rfl (teq hc94).2 k) ?_
                      obtain ⟨T10, X10, e10, st10⟩ := getS2 X0 hx hZ hown (host := "") (Or.inl (oW hw 47 rfl)) Via.refl e0 ((wS4 W).ext O0.2) (g := (mkF m 97 #[.val (.int p1), .val (.int ((p1 &&& (2147483647 : Int32)) % (12 : Int32)))] [])) rfl (hb hby d1_97)
                      refine oS (fun t k => st10 t k) ?_
                      exact own_ret (v := some (.ref (w 4))) X10 (fun h => by rw [Bd.returns] at h; cases h) Bd.notSynchronized (fun fs hr => retOut X10 hx (t := (.object "com/example/sixfold/sixfold/rules/Piece")) Bd.returns rfl (Or.inr (Or.inr (Or.inr (Or.inr ⟨rfl, rfl, rfl⟩)))) (hb hby d1_100) hr) (by rw [e10]; exact ⟨(by simp only [own_pick, if_neg hc9, if_neg hc18, if_neg hc27, if_neg hc36, if_neg hc45, if_neg hc54, if_neg hc64, if_neg hc74, if_neg hc84, if_pos hc94]), N0, rfl⟩) (by decide) (by decide)
                    · refine oS (fun t k => XS.icmpYes X0.here hx rfl (pc0 := 94) (pc' := 101) rfl (hb hby d1_94) rfl (feq hc94).2 (by decide) (by decide) k) ?_
                      refine oS (fun t k => XS.iloadN X0.here hx rfl (hb hby d1_101) rfl k) ?_
                      refine oS (fun t k => XS.bipush X0.here hx rfl (hb hby d1_102) k) ?_
                      by_cases hc104 : ((p1 &&& (2147483647 : Int32)) % (12 : Int32)) = (10 : Int32)
                      · refine oS (fun t k => XS.icmpNo X0.here hx rfl (hb hby d1_104) rfl (teq hc104).2 k) ?_
                        obtain ⟨T11, X11, e11, st11⟩ := getS2 X0 hx hZ hown (host := "") (Or.inl (oW hw 59 rfl)) Via.refl e0 ((wS10 W).ext O0.2) (g := (mkF m 107 #[.val (.int p1), .val (.int ((p1 &&& (2147483647 : Int32)) % (12 : Int32)))] [])) rfl (hb hby d1_107)
                        refine oS (fun t k => st11 t k) ?_
                        exact own_ret (v := some (.ref (w 10))) X11 (fun h => by rw [Bd.returns] at h; cases h) Bd.notSynchronized (fun fs hr => retOut X11 hx (t := (.object "com/example/sixfold/sixfold/rules/Piece")) Bd.returns rfl (Or.inr (Or.inr (Or.inr (Or.inr ⟨rfl, rfl, rfl⟩)))) (hb hby d1_110) hr) (by rw [e11]; exact ⟨(by simp only [own_pick, if_neg hc9, if_neg hc18, if_neg hc27, if_neg hc36, if_neg hc45, if_neg hc54, if_neg hc64, if_neg hc74, if_neg hc84, if_neg hc94, if_pos hc104]), N0, rfl⟩) (by decide) (by decide)
                      · refine oS (fun t k => XS.icmpYes X0.here hx rfl (pc0 := 104) (pc' := 111) rfl (hb hby d1_104) rfl (feq hc104).2 (by decide) (by decide) k) ?_
                        obtain ⟨T12, X12, e12, st12⟩ := getS2 X0 hx hZ hown (host := "") (Or.inl (oW hw 49 rfl)) Via.refl e0 ((wS5 W).ext O0.2) (g := (mkF m 111 #[.val (.int p1), .val (.int ((p1 &&& (2147483647 : Int32)) % (12 : Int32)))] [])) rfl (hb hby d1_111)
                        refine oS (fun t k => st12 t k) ?_
                        exact own_ret (v := some (.ref (w 5))) X12 (fun h => by rw [Bd.returns] at h; cases h) Bd.notSynchronized (fun fs hr => retOut X12 hx (t := (.object "com/example/sixfold/sixfold/rules/Piece")) Bd.returns rfl (Or.inr (Or.inr (Or.inr (Or.inr ⟨rfl, rfl, rfl⟩)))) (hb hby d1_114) hr) (by rw [e12]; exact ⟨(by simp only [own_pick, if_neg hc9, if_neg hc18, if_neg hc27, if_neg hc36, if_neg hc45, if_neg hc54, if_neg hc64, if_neg hc74, if_neg hc84, if_neg hc94, if_neg hc104]), N0, rfl⟩) (by decide) (by decide)
theorem d3_0 : decode jdk_30_method_1_code 0 = .ok (.aload_n 0, 1) := by decide +kernel
theorem d3_1 : decode jdk_30_method_1_code 1 = .ok (.invokespecial 1, 3) := by decide +kernel
theorem d3_4 : decode jdk_30_method_1_code 4 = .ok (.return_, 1) := by decide +kernel
abbrev mY1 : MethodName := (⟨"java/lang/Record", "<init>", "()V"⟩ : MethodName)
theorem ef_3_r (m : MethodId) (x0 : Addr) : entryFrame m #[(.ref x0)] 1 = mkF m 0 #[.val (.ref x0)] [] := by first | (simp [entryFrame, mkF, argsToLocals, Value.category]; done) | rfl
theorem pn_1 : plainName "java/lang/Record" = true := by first | (simp [plainName, overriddenIn]; done) | decide +kernel
def Q_rec (Z : State) (a1 : Addr) (h0 : Heap) (n0 : Nat) (v : Option Value) (h : Heap) (L : List Loc) : Prop := v = none ∧ Fr n0 L ∧ h = h0
set_option maxRecDepth 65536 in
set_option maxHeartbeats 40000000 in
theorem rm_rec (l : Launch) (Z : State) (a0 : Array Value) (hw : ∀ d ∈ tables_1, d.before a0 Z = true) (ws : List Jvm.Cond) (a1 : Addr) (h0 : Heap) (n0 : Nat) (O0 : Old Z n0 h0) :
    MetFree l mY1 (head1 (Jvm.Cond.code mY1 jdk_30_method_1_code 1 none :: ws) ({ frames := 1, cells := 0, slots := 0, locals := 12 } : Room)) (fun a U => a = #[(.ref a1)] ∧ Z.Warmed39 U.vm ∧ U.heap = h0) (fun _ _ _ _ _ => True) (fun _ U o U' => ∃ v L, o = .returned v ∧ Q_rec Z a1 h0 n0 v U'.heap L ∧ FrameEnd U o U' L ({ frames := 1, cells := 0, slots := 0, locals := 12 } : Room).cells ({ frames := 1, cells := 0, slots := 0, locals := 12 } : Room).slots) := by
  refine MetFree.of_bodySF (plainFor_of_name pn_1) hisR ?_
  intro p e s m args below meth c s₁ Bd hml0 hP hK
  obtain ⟨rfl, hZ, hh⟩ := hP
  have hx := Bd.exec
  have hby := Bd.bytes
  have hml : c.maxLocals = 1 := hml0
  have hown : s.vm.findClass "java/lang/Record" = some m.cls := findClass_of_methodNamed Bd.named
  have hnm := (name_of_methodNamed Bd.named Bd.method).1
  have X0 : Stand p l e ({ frames := 1, cells := 0, slots := 0, locals := 12 } : Room) s m #[(.ref a1)] below meth c s₁ [] 0 0 := Stand.of_body Bd
  have e0 : s₁.heap = h0 := by rw [← hh, Bd.state]; rfl
  have N0 := Fr.nil n0
  show oG p e below s (Q_rec Z a1 h0 n0) ({ frames := 1, cells := 0, slots := 0, locals := 12 } : Room).cells ({ frames := 1, cells := 0, slots := 0, locals := 12 } : Room).slots _
  refine oS (fun t k => castTop (ef_3_r m a1) k) ?_
  show oG _ _ _ _ _ _ _ (s₁.setTop (mkF m 0 #[.val (.ref a1)] []))
  refine oS (fun t k => XS.aloadN X0.here hx rfl (hb hby d3_0) rfl rfl k) ?_
  obtain ⟨T1, X1, e1, st1⟩ := initO X0 hx hZ hown (oW hw 23 rfl) (oW hw 24 rfl) (oW hw 25 rfl) e0 (g := (mkF m 1 #[.val (.ref a1)] [(.ref a1)])) rfl (by rw [hml]; rfl) rfl (hb hby d3_1) (by decide) (W := 0) (by show 2 * 0 + _ ≤ _; exact Nat.le_of_eq rfl) (by decide)
  refine oS (fun t k => st1 t k) ?_
  exact own_ret (v := none) X1 (fun _ => rfl) Bd.notSynchronized (fun fs hr => X1.returnOut hx Bd.returns (hb hby d3_4) hr) (by rw [e1]; exact ⟨rfl, N0, rfl⟩) (by decide) (by decide)
theorem d2_0 : decode prog_16_method_5_code 0 = .ok (.aload_n 0, 1) := by decide +kernel
theorem d2_1 : decode prog_16_method_5_code 1 = .ok (.invokespecial 1, 3) := by decide +kernel
theorem pd_0 : parseMethodDescriptor "()V" = some ⟨[], none⟩ := by decide +kernel
theorem d2_4 : decode prog_16_method_5_code 4 = .ok (.aload_n 0, 1) := by decide +kernel
theorem d2_5 : decode prog_16_method_5_code 5 = .ok (.aload_n 1, 1) := by decide +kernel
theorem d2_6 : decode prog_16_method_5_code 6 = .ok (.putfield 7, 3) := by decide +kernel
theorem d2_9 : decode prog_16_method_5_code 9 = .ok (.aload_n 0, 1) := by decide +kernel
theorem d2_10 : decode prog_16_method_5_code 10 = .ok (.iload_n 2, 1) := by decide +kernel
theorem d2_11 : decode prog_16_method_5_code 11 = .ok (.putfield 13, 3) := by decide +kernel
theorem d2_14 : decode prog_16_method_5_code 14 = .ok (.aload_n 0, 1) := by decide +kernel
theorem d2_15 : decode prog_16_method_5_code 15 = .ok (.iload_n 3, 1) := by decide +kernel
theorem d2_16 : decode prog_16_method_5_code 16 = .ok (.putfield 17, 3) := by decide +kernel
theorem d2_19 : decode prog_16_method_5_code 19 = .ok (.aload_n 0, 1) := by decide +kernel
theorem d2_20 : decode prog_16_method_5_code 20 = .ok (.aload 4, 2) := by decide +kernel
theorem d2_22 : decode prog_16_method_5_code 22 = .ok (.putfield 20, 3) := by decide +kernel
theorem d2_25 : decode prog_16_method_5_code 25 = .ok (.aload_n 0, 1) := by decide +kernel
theorem d2_26 : decode prog_16_method_5_code 26 = .ok (.iload 5, 2) := by decide +kernel
theorem d2_28 : decode prog_16_method_5_code 28 = .ok (.putfield 23, 3) := by decide +kernel
theorem d2_31 : decode prog_16_method_5_code 31 = .ok (.aload_n 0, 1) := by decide +kernel
theorem d2_32 : decode prog_16_method_5_code 32 = .ok (.aload 6, 2) := by decide +kernel
theorem d2_34 : decode prog_16_method_5_code 34 = .ok (.putfield 26, 3) := by decide +kernel
theorem d2_37 : decode prog_16_method_5_code 37 = .ok (.aload_n 0, 1) := by decide +kernel
theorem d2_38 : decode prog_16_method_5_code 38 = .ok (.aload 7, 2) := by decide +kernel
theorem d2_40 : decode prog_16_method_5_code 40 = .ok (.putfield 30, 3) := by decide +kernel
theorem d2_43 : decode prog_16_method_5_code 43 = .ok (.return_, 1) := by decide +kernel
abbrev mY2 : MethodName := (⟨"com/example/sixfold/sixfold/rules/Move", "<init>", "(Lcom/example/sixfold/sixfold/rules/Piece;IILcom/example/sixfold/sixfold/rules/Piece;ILcom/example/sixfold/sixfold/rules/Castling;Lcom/example/sixfold/sixfold/rules/Piece;)V"⟩ : MethodName)
theorem ef_2_rriininn (m : MethodId) (x0 : Addr) (x1 : Addr) (x2 : Int32) (x3 : Int32) (x5 : Int32) : entryFrame m #[(.ref x0), (.ref x1), (.int x2), (.int x3), .null, (.int x5), .null, .null] 8 = mkF m 0 #[.val (.ref x0), .val (.ref x1), .val (.int x2), .val (.int x3), .val .null, .val (.int x5), .val .null, .val .null] [] := by first | (simp [entryFrame, mkF, argsToLocals, Value.category]; done) | rfl
theorem pn_2 : plainName "com/example/sixfold/sixfold/rules/Move" = true := by first | (simp [plainName, overriddenIn]; done) | decide +kernel
def Q_init_00 (Z : State) (a1 : Addr) (a2 : Addr) (p3 : Int32) (p4 : Int32) (p6 : Int32) (u_piece : Value) (u_from : Value) (u_to : Value) (u_captured : Value) (u_capturedOn : Value) (u_castling : Value) (u_promotion : Value) (w : Nat → Addr) (h0 : Heap) (n0 : Nat) (v : Option Value) (h : Heap) (L : List Loc) : Prop := v = none ∧ Fr n0 L ∧ Keep h0 h [a1] ∧ Exa Z h a1 "com/example/sixfold/sixfold/rules/Move" ∧ Fld Z h a1 "com/example/sixfold/sixfold/rules/Move" "piece" "Lcom/example/sixfold/sixfold/rules/Piece;" (.ref a2) ∧ Fld Z h a1 "com/example/sixfold/sixfold/rules/Move" "from" "I" (.int p3) ∧ Fld Z h a1 "com/example/sixfold/sixfold/rules/Move" "to" "I" (.int p4) ∧ Fld Z h a1 "com/example/sixfold/sixfold/rules/Move" "captured" "Lcom/example/sixfold/sixfold/rules/Piece;" .null ∧ Fld Z h a1 "com/example/sixfold/sixfold/rules/Move" "capturedOn" "I" (.int p6) ∧ Fld Z h a1 "com/example/sixfold/sixfold/rules/Move" "castling" "Lcom/example/sixfold/sixfold/rules/Castling;" .null ∧ Fld Z h a1 "com/example/sixfold/sixfold/rules/Move" "promotion" "Lcom/example/sixfold/sixfold/rules/Piece;" .null
set_option maxRecDepth 65536 in
set_option maxHeartbeats 40000000 in
theorem rm_init_00 (l : Launch) (Z : State) (a0 : Array Value) (hw : ∀ d ∈ tables_1, d.before a0 Z = true) (ws : List Jvm.Cond) (a1 : Addr) (a2 : Addr) (p3 : Int32) (p4 : Int32) (p6 : Int32) (u_piece : Value) (u_from : Value) (u_to : Value) (u_captured : Value) (u_capturedOn : Value) (u_castling : Value) (u_promotion : Value) (w : Nat → Addr) (h0 : Heap) (n0 : Nat) (O0 : Old Z n0 h0) (W : own_World Z w) (E_a1 : Exa Z h0 a1 "com/example/sixfold/sixfold/rules/Move") (g_a1 : n0 ≤ a1) (F_piece_a1 : Fld Z h0 a1 "com/example/sixfold/sixfold/rules/Move" "piece" "Lcom/example/sixfold/sixfold/rules/Piece;" u_piece) (F_from_a1 : Fld Z h0 a1 "com/example/sixfold/sixfold/rules/Move" "from" "I" u_from) (F_to_a1 : Fld Z h0 a1 "com/example/sixfold/sixfold/rules/Move" "to" "I" u_to) (F_captured_a1 : Fld Z h0 a1 "com/example/sixfold/sixfold/rules/Move" "captured" "Lcom/example/sixfold/sixfold/rules/Piece;" u_captured) (F_capturedOn_a1 : Fld Z h0 a1 "com/example/sixfold/sixfold/rules/Move" "capturedOn" "I" u_capturedOn) (F_castling_a1 : Fld Z h0 a1 "com/example/sixfold/sixfold/rules/Move" "castling" "Lcom/example/sixfold/sixfold/rules/Castling;" u_castling) (F_promotion_a1 : Fld Z h0 a1 "com/example/sixfold/sixfold/rules/Move" "promotion" "Lcom/example/sixfold/sixfold/rules/Piece;" u_promotion) :
    MetFree l mY2 (head1 (Jvm.Cond.code mY2 prog_16_method_5_code 8 none :: ws) ({ frames := 2, cells := 0, slots := 0, locals := 24 } : Room)) (fun a U => a = #[(.ref a1), (.ref a2), (.int p3), (.int p4), .null, (.int p6), .null, .null] ∧ Z.Warmed39 U.vm ∧ U.heap = h0) (fun _ _ _ _ _ => True) (fun _ U o U' => ∃ v L, o = .returned v ∧ Q_init_00 Z a1 a2 p3 p4 p6 u_piece u_from u_to u_captured u_capturedOn u_castling u_promotion w h0 n0 v U'.heap L ∧ FrameEnd U o U' L ({ frames := 2, cells := 0, slots := 0, locals := 24 } : Room).cells ({ frames := 2, cells := 0, slots := 0, locals := 24 } : Room).slots) := by
  refine MetFree.of_bodySF (plainFor_of_name pn_2) hisR ?_
  intro p e s m args below meth c s₁ Bd hml0 hP hK
  obtain ⟨rfl, hZ, hh⟩ := hP
  have hx := Bd.exec
  have hby := Bd.bytes
  have hml : c.maxLocals = 8 := hml0
  have hown : s.vm.findClass "com/example/sixfold/sixfold/rules/Move" = some m.cls := findClass_of_methodNamed Bd.named
  have hnm := (name_of_methodNamed Bd.named Bd.method).1
  have X0 : Stand p l e ({ frames := 2, cells := 0, slots := 0, locals := 24 } : Room) s m #[(.ref a1), (.ref a2), (.int p3), (.int p4), .null, (.int p6), .null, .null] below meth c s₁ [] 0 0 := Stand.of_body Bd
  have e0 : s₁.heap = h0 := by rw [← hh, Bd.state]; rfl
  have N0 := Fr.nil n0
  show oG p e below s (Q_init_00 Z a1 a2 p3 p4 p6 u_piece u_from u_to u_captured u_capturedOn u_castling u_promotion w h0 n0) ({ frames := 2, cells := 0, slots := 0, locals := 24 } : Room).cells ({ frames := 2, cells := 0, slots := 0, locals := 24 } : Room).slots _
  refine oS (fun t k => castTop (ef_2_rriininn m a1 a2 p3 p4 p6) k) ?_
  show oG _ _ _ _ _ _ _ (s₁.setTop (mkF m 0 #[.val (.ref a1), .val (.ref a2), .val (.int p3), .val (.int p4), .val .null, .val (.int p6), .val .null, .val .null] []))
  refine oS (fun t k => XS.aloadN X0.here hx rfl (hb hby d2_0) rfl rfl k) ?_
  obtain ⟨_, _, ⟨T1, L1, k1, n1⟩, -, X1, ⟨Lc1, hQ1, l1, y1, z1⟩, st1⟩ := X0.specialBack hx (y := mY1) rfl hown (mvT hZ (oW hw 18 rfl)) (mvT hZ (oW hw 19 rfl)) (mvT hZ (oW hw 22 rfl)) (by decide) (backOf (W := 0) (rm_rec l Z a0 hw [] a1  h0 n0 O0  ) hZ (oW hw 22 rfl) (oW hw 21 rfl) (by decide) (by decide)) (g := (mkF m 1 #[.val (.ref a1), .val (.ref a2), .val (.int p3), .val (.int p4), .val .null, .val (.int p6), .val .null, .val .null] [(.ref a1)])) rfl (by rw [hml]; rfl) (Steps.refl _) (a := a1) (argsL := []) (rest := []) (lenOf pd_0 rfl) rfl (by show 2 * 0 + _ ≤ _; exact Nat.le_of_eq rfl) (hb hby d2_1) (fun _ _ => ⟨rfl, e0, (by decide : 0 + 0 ≤ _), (by decide : 0 + 0 ≤ _)⟩)
  dsimp only [Pt.U, Pt.locs, Pt.cells, Pt.slots] at X1 l1 y1 z1 st1 hQ1
  subst l1 y1 z1
  obtain ⟨rfl, Nq1, e1⟩ := hQ1
  have N1 := Fr.app N0 Nq1
  refine oS (fun t k => st1.trans k) ?_
  show oG _ _ _ _ _ _ _ (T1.setTop (mkF m 4 #[.val (.ref a1), .val (.ref a2), .val (.int p3), .val (.int p4), .val .null, .val (.int p6), .val .null, .val .null] []))
  refine oS (fun t k => XS.aloadN X1.here hx rfl (hb hby d2_4) rfl rfl k) ?_
  refine oS (fun t k => XS.aloadN X1.here hx rfl (hb hby d2_5) rfl rfl k) ?_
  obtain ⟨T2, h2, X2, e2, W2, st2⟩ := putF X1 hx hZ hown (host := "") (Or.inl (oW hw 26 rfl)) Via.refl e1 F_piece_a1 E_a1 (Or.inr ⟨(oW hw 27 rfl), rfl, hnm⟩) (oW hw 13 rfl) (ty := (.object "com/example/sixfold/sixfold/rules/Piece")) (by decide) rfl rfl (g := (mkF m 6 #[.val (.ref a1), .val (.ref a2), .val (.int p3), .val (.int p4), .val .null, .val (.int p6), .val .null, .val .null] [(.ref a2), (.ref a1)])) rfl rfl (hb hby d2_6)
  have O2 := O0.wr W2 g_a1
  have N2 := Fr.snoc X2 N1 g_a1
  have Kp2 : Keep h0 h2 [a1] := (Keep.refl h0 [a1]).wr W2 (Or.inl (List.mem_of_getElem? (i := 0) rfl))
  have Fw2 := F_piece_a1.same W2
  refine oS (fun t k => st2 t k) ?_
  refine oS (fun t k => XS.aloadN X2.here hx rfl (hb hby d2_9) rfl rfl k) ?_
  refine oS (fun t k => XS.iloadN X2.here hx rfl (hb hby d2_10) rfl k) ?_
  obtain ⟨T3, h3, X3, e3, W3, st3⟩ := putF X2 hx hZ hown (host := "") (Or.inl (oW hw 28 rfl)) Via.refl e2 (F_from_a1.other W2 (Or.inr (slot_ne (Or.inr (oW hw 29 rfl)) (Or.inr (oW hw 27 rfl)) (by decide) (t := .int) (t' := (.object "com/example/sixfold/sixfold/rules/Piece")) (by decide) (by decide)))) (E_a1.wr W2) (Or.inr ⟨(oW hw 29 rfl), rfl, hnm⟩) (oW hw 13 rfl) (ty := .int) (by decide) rfl rfl (g := (mkF m 11 #[.val (.ref a1), .val (.ref a2), .val (.int p3), .val (.int p4), .val .null, .val (.int p6), .val .null, .val .null] [(.int p3), (.ref a1)])) rfl rfl (hb hby d2_11)
  have O3 := O2.wr W3 g_a1
  have N3 := Fr.snoc X3 N2 g_a1
  have Kp3 : Keep h0 h3 [a1] := Kp2.wr W3 (Or.inl (List.mem_of_getElem? (i := 0) rfl))
  have Fw3 := (F_from_a1.other W2 (Or.inr (slot_ne (Or.inr (oW hw 29 rfl)) (Or.inr (oW hw 27 rfl)) (by decide) (t := .int) (t' := (.object "com/example/sixfold/sixfold/rules/Piece")) (by decide) (by decide)))).same W3
  refine oS (fun t k => st3 t k) ?_
  refine oS (fun t k => XS.aloadN X3.here hx rfl (hb hby d2_14) rfl rfl k) ?_
  refine oS (fun t k => XS.iloadN X3.here hx rfl (hb hby d2_15) rfl k) ?_
  obtain ⟨T4, h4, X4, e4, W4, st4⟩ := putF X3 hx hZ hown (host := "") (Or.inl (oW hw 30 rfl)) Via.refl e3 ((F_to_a1.other W2 (Or.inr (slot_ne (Or.inr (oW hw 31 rfl)) (Or.inr (oW hw 27 rfl)) (by decide) (t := .int) (t' := (.object "com/example/sixfold/sixfold/rules/Piece")) (by decide) (by decide)))).other W3 (Or.inr (slot_ne (Or.inr (oW hw 31 rfl)) (Or.inr (oW hw 29 rfl)) (by decide) (t := .int) (t' := .int) (by decide) (by decide)))) ((E_a1.wr W2).wr W3) (Or.inr ⟨(oW hw 31 rfl), rfl, hnm⟩) (oW hw 13 rfl) (ty := .int) (by decide) rfl rfl (g := (mkF m 16 #[.val (.ref a1), .val (.ref a2), .val (.int p3), .val (.int p4), .val .null, .val (.int p6), .val .null, .val .null] [(.int p4), (.ref a1)])) rfl rfl (hb hby d2_16)
  have O4 := O3.wr W4 g_a1
  have N4 := Fr.snoc X4 N3 g_a1
  have Kp4 : Keep h0 h4 [a1] := Kp3.wr W4 (Or.inl (List.mem_of_getElem? (i := 0) rfl))
  have Fw4 := ((F_to_a1.other W2 (Or.inr (slot_ne (Or.inr (oW hw 31 rfl)) (Or.inr (oW hw 27 rfl)) (by decide) (t := .int) (t' := (.object "com/example/sixfold/sixfold/rules/Piece")) (by decide) (by decide)))).other W3 (Or.inr (slot_ne (Or.inr (oW hw 31 rfl)) (Or.inr (oW hw 29 rfl)) (by decide) (t := .int) (t' := .int) (by decide) (by decide)))).same W4
  refine oS (fun t k => st4 t k) ?_
  refine oS (fun t k => XS.aloadN X4.here hx rfl (hb hby d2_19) rfl rfl k) ?_
  show oG _ _ _ _ _ _ _ (T4.setTop (mkF m 20 #[.val (.ref a1), .val (.ref a2), .val (.int p3), .val (.int p4), .val .null, .val (.int p6), .val .null, .val .null] [(.ref a1)]))
  refine oS (fun t k => XS.aload X4.here hx rfl (hb hby d2_20) rfl rfl k) ?_
  obtain ⟨T5, h5, X5, e5, W5, st5⟩ := putF X4 hx hZ hown (host := "") (Or.inl (oW hw 32 rfl)) Via.refl e4 (((F_captured_a1.other W2 (Or.inr (slot_ne (Or.inr (oW hw 33 rfl)) (Or.inr (oW hw 27 rfl)) (by decide) (t := (.object "com/example/sixfold/sixfold/rules/Piece")) (t' := (.object "com/example/sixfold/sixfold/rules/Piece")) (by decide) (by decide)))).other W3 (Or.inr (slot_ne (Or.inr (oW hw 33 rfl)) (Or.inr (oW hw 29 rfl)) (by decide) (t := (.object "com/example/sixfold/sixfold/rules/Piece")) (t' := .int) (by decide) (by decide)))).other W4 (Or.inr (slot_ne (Or.inr (oW hw 33 rfl)) (Or.inr (oW hw 31 rfl)) (by decide) (t := (.object "com/example/sixfold/sixfold/rules/Piece")) (t' := .int) (by decide) (by decide)))) (((E_a1.wr W2).wr W3).wr W4) (Or.inr ⟨(oW hw 33 rfl), rfl, hnm⟩) (oW hw 13 rfl) (ty := (.object "com/example/sixfold/sixfold/rules/Piece")) (by decide) rfl rfl (g := (mkF m 22 #[.val (.ref a1), .val (.ref a2), .val (.int p3), .val (.int p4), .val .null, .val (.int p6), .val .null, .val .null] [.null, (.ref a1)])) rfl rfl (hb hby d2_22)
  have O5 := O4.wr W5 g_a1
  have N5 := Fr.snoc X5 N4 g_a1
  have Kp5 : Keep h0 h5 [a1] := Kp4.wr W5 (Or.inl (List.mem_of_getElem? (i := 0) rfl))
  have Fw5 := (((F_captured_a1.other W2 (Or.inr (slot_ne (Or.inr (oW hw 33 rfl)) (Or.inr (oW hw 27 rfl)) (by decide) (t := (.object "com/example/sixfold/sixfold/rules/Piece")) (t' := (.object "com/example/sixfold/sixfold/rules/Piece")) (by decide) (by decide)))).other W3 (Or.inr (slot_ne (Or.inr (oW hw 33 rfl)) (Or.inr (oW hw 29 rfl)) (by decide) (t := (.object "com/example/sixfold/sixfold/rules/Piece")) (t' := .int) (by decide) (by decide)))).other W4 (Or.inr (slot_ne (Or.inr (oW hw 33 rfl)) (Or.inr (oW hw 31 rfl)) (by decide) (t := (.object "com/example/sixfold/sixfold/rules/Piece")) (t' := .int) (by decide) (by decide)))).same W5
  refine oS (fun t k => st5 t k) ?_
  refine oS (fun t k => XS.aloadN X5.here hx rfl (hb hby d2_25) rfl rfl k) ?_
  refine oS (fun t k => XS.iload X5.here hx rfl (hb hby d2_26) rfl k) ?_
  obtain ⟨T6, h6, X6, e6, W6, st6⟩ := putF X5 hx hZ hown (host := "") (Or.inl (oW hw 34 rfl)) Via.refl e5 ((((F_capturedOn_a1.other W2 (Or.inr (slot_ne (Or.inr (oW hw 35 rfl)) (Or.inr (oW hw 27 rfl)) (by decide) (t := .int) (t' := (.object "com/example/sixfold/sixfold/rules/Piece")) (by decide) (by decide)))).other W3 (Or.inr (slot_ne (Or.inr (oW hw 35 rfl)) (Or.inr (oW hw 29 rfl)) (by decide) (t := .int) (t' := .int) (by decide) (by decide)))).other W4 (Or.inr (slot_ne (Or.inr (oW hw 35 rfl)) (Or.inr (oW hw 31 rfl)) (by decide) (t := .int) (t' := .int) (by decide) (by decide)))).other W5 (Or.inr (slot_ne (Or.inr (oW hw 35 rfl)) (Or.inr (oW hw 33 rfl)) (by decide) (t := .int) (t' := (.object "com/example/sixfold/sixfold/rules/Piece")) (by decide) (by decide)))) ((((E_a1.wr W2).wr W3).wr W4).wr W5) (Or.inr ⟨(oW hw 35 rfl), rfl, hnm⟩) (oW hw 13 rfl) (ty := .int) (by decide) rfl rfl (g := (mkF m 28 #[.val (.ref a1), .val (.ref a2), .val (.int p3), .val (.int p4), .val .null, .val (.int p6), .val .null, .val .null] [(.int p6), (.ref a1)])) rfl rfl (hb hby d2_28)
  have O6 := O5.wr W6 g_a1
  have N6 := Fr.snoc X6 N5 g_a1
  have Kp6 : Keep h0 h6 [a1] := Kp5.wr W6 (Or.inl (List.mem_of_getElem? (i := 0) rfl))
  have Fw6 := ((((F_capturedOn_a1.other W2 (Or.inr (slot_ne (Or.inr (oW hw 35 rfl)) (Or.inr (oW hw 27 rfl)) (by decide) (t := .int) (t' := (.object "com/example/sixfold/sixfold/rules/Piece")) (by decide) (by decide)))).other W3 (Or.inr (slot_ne (Or.inr (oW hw 35 rfl)) (Or.inr (oW hw 29 rfl)) (by decide) (t := .int) (t' := .int) (by decide) (by decide)))).other W4 (Or.inr (slot_ne (Or.inr (oW hw 35 rfl)) (Or.inr (oW hw 31 rfl)) (by decide) (t := .int) (t' := .int) (by decide) (by decide)))).other W5 (Or.inr (slot_ne (Or.inr (oW hw 35 rfl)) (Or.inr (oW hw 33 rfl)) (by decide) (t := .int) (t' := (.object "com/example/sixfold/sixfold/rules/Piece")) (by decide) (by decide)))).same W6
  refine oS (fun t k => st6 t k) ?_
  refine oS (fun t k => XS.aloadN X6.here hx rfl (hb hby d2_31) rfl rfl k) ?_
  refine oS (fun t k => XS.aload X6.here hx rfl (hb hby d2_32) rfl rfl k) ?_
  obtain ⟨T7, h7, X7, e7, W7, st7⟩ := putF X6 hx hZ hown (host := "") (Or.inl (oW hw 36 rfl)) Via.refl e6 (((((F_castling_a1.other W2 (Or.inr (slot_ne (Or.inr (oW hw 37 rfl)) (Or.inr (oW hw 27 rfl)) (by decide) (t := (.object "com/example/sixfold/sixfold/rules/Castling")) (t' := (.object "com/example/sixfold/sixfold/rules/Piece")) (by decide) (by decide)))).other W3 (Or.inr (slot_ne (Or.inr (oW hw 37 rfl)) (Or.inr (oW hw 29 rfl)) (by decide) (t := (.object "com/example/sixfold/sixfold/rules/Castling")) (t' := .int) (by decide) (by decide)))).other W4 (Or.inr (slot_ne (Or.inr (oW hw 37 rfl)) (Or.inr (oW hw 31 rfl)) (by decide) (t := (.object "com/example/sixfold/sixfold/rules/Castling")) (t' := .int) (by decide) (by decide)))).other W5 (Or.inr (slot_ne (Or.inr (oW hw 37 rfl)) (Or.inr (oW hw 33 rfl)) (by decide) (t := (.object "com/example/sixfold/sixfold/rules/Castling")) (t' := (.object "com/example/sixfold/sixfold/rules/Piece")) (by decide) (by decide)))).other W6 (Or.inr (slot_ne (Or.inr (oW hw 37 rfl)) (Or.inr (oW hw 35 rfl)) (by decide) (t := (.object "com/example/sixfold/sixfold/rules/Castling")) (t' := .int) (by decide) (by decide)))) (((((E_a1.wr W2).wr W3).wr W4).wr W5).wr W6) (Or.inr ⟨(oW hw 37 rfl), rfl, hnm⟩) (oW hw 13 rfl) (ty := (.object "com/example/sixfold/sixfold/rules/Castling")) (by decide) rfl rfl (g := (mkF m 34 #[.val (.ref a1), .val (.ref a2), .val (.int p3), .val (.int p4), .val .null, .val (.int p6), .val .null, .val .null] [.null, (.ref a1)])) rfl rfl (hb hby d2_34)
  have O7 := O6.wr W7 g_a1
  have N7 := Fr.snoc X7 N6 g_a1
  have Kp7 : Keep h0 h7 [a1] := Kp6.wr W7 (Or.inl (List.mem_of_getElem? (i := 0) rfl))
  have Fw7 := (((((F_castling_a1.other W2 (Or.inr (slot_ne (Or.inr (oW hw 37 rfl)) (Or.inr (oW hw 27 rfl)) (by decide) (t := (.object "com/example/sixfold/sixfold/rules/Castling")) (t' := (.object "com/example/sixfold/sixfold/rules/Piece")) (by decide) (by decide)))).other W3 (Or.inr (slot_ne (Or.inr (oW hw 37 rfl)) (Or.inr (oW hw 29 rfl)) (by decide) (t := (.object "com/example/sixfold/sixfold/rules/Castling")) (t' := .int) (by decide) (by decide)))).other W4 (Or.inr (slot_ne (Or.inr (oW hw 37 rfl)) (Or.inr (oW hw 31 rfl)) (by decide) (t := (.object "com/example/sixfold/sixfold/rules/Castling")) (t' := .int) (by decide) (by decide)))).other W5 (Or.inr (slot_ne (Or.inr (oW hw 37 rfl)) (Or.inr (oW hw 33 rfl)) (by decide) (t := (.object "com/example/sixfold/sixfold/rules/Castling")) (t' := (.object "com/example/sixfold/sixfold/rules/Piece")) (by decide) (by decide)))).other W6 (Or.inr (slot_ne (Or.inr (oW hw 37 rfl)) (Or.inr (oW hw 35 rfl)) (by decide) (t := (.object "com/example/sixfold/sixfold/rules/Castling")) (t' := .int) (by decide) (by decide)))).same W7
  refine oS (fun t k => st7 t k) ?_
  refine oS (fun t k => XS.aloadN X7.here hx rfl (hb hby d2_37) rfl rfl k) ?_
  refine oS (fun t k => XS.aload X7.here hx rfl (hb hby d2_38) rfl rfl k) ?_
  show oG _ _ _ _ _ _ _ (T7.setTop (mkF m 40 #[.val (.ref a1), .val (.ref a2), .val (.int p3), .val (.int p4), .val .null, .val (.int p6), .val .null, .val .null] [.null, (.ref a1)]))
  obtain ⟨T8, h8, X8, e8, W8, st8⟩ := putF X7 hx hZ hown (host := "") (Or.inl (oW hw 38 rfl)) Via.refl e7 ((((((F_promotion_a1.other W2 (Or.inr (slot_ne (Or.inr (oW hw 39 rfl)) (Or.inr (oW hw 27 rfl)) (by decide) (t := (.object "com/example/sixfold/sixfold/rules/Piece")) (t' := (.object "com/example/sixfold/sixfold/rules/Piece")) (by decide) (by decide)))).other W3 (Or.inr (slot_ne (Or.inr (oW hw 39 rfl)) (Or.inr (oW hw 29 rfl)) (by decide) (t := (.object "com/example/sixfold/sixfold/rules/Piece")) (t' := .int) (by decide) (by decide)))).other W4 (Or.inr (slot_ne (Or.inr (oW hw 39 rfl)) (Or.inr (oW hw 31 rfl)) (by decide) (t := (.object "com/example/sixfold/sixfold/rules/Piece")) (t' := .int) (by decide) (by decide)))).other W5 (Or.inr (slot_ne (Or.inr (oW hw 39 rfl)) (Or.inr (oW hw 33 rfl)) (by decide) (t := (.object "com/example/sixfold/sixfold/rules/Piece")) (t' := (.object "com/example/sixfold/sixfold/rules/Piece")) (by decide) (by decide)))).other W6 (Or.inr (slot_ne (Or.inr (oW hw 39 rfl)) (Or.inr (oW hw 35 rfl)) (by decide) (t := (.object "com/example/sixfold/sixfold/rules/Piece")) (t' := .int) (by decide) (by decide)))).other W7 (Or.inr (slot_ne (Or.inr (oW hw 39 rfl)) (Or.inr (oW hw 37 rfl)) (by decide) (t := (.object "com/example/sixfold/sixfold/rules/Piece")) (t' := (.object "com/example/sixfold/sixfold/rules/Castling")) (by decide) (by decide)))) ((((((E_a1.wr W2).wr W3).wr W4).wr W5).wr W6).wr W7) (Or.inr ⟨(oW hw 39 rfl), rfl, hnm⟩) (oW hw 13 rfl) (ty := (.object "com/example/sixfold/sixfold/rules/Piece")) (by decide) rfl rfl (g := (mkF m 40 #[.val (.ref a1), .val (.ref a2), .val (.int p3), .val (.int p4), .val .null, .val (.int p6), .val .null, .val .null] [.null, (.ref a1)])) rfl rfl (hb hby d2_40)
  have O8 := O7.wr W8 g_a1
  have N8 := Fr.snoc X8 N7 g_a1
  have Kp8 : Keep h0 h8 [a1] := Kp7.wr W8 (Or.inl (List.mem_of_getElem? (i := 0) rfl))
  have Fw8 := ((((((F_promotion_a1.other W2 (Or.inr (slot_ne (Or.inr (oW hw 39 rfl)) (Or.inr (oW hw 27 rfl)) (by decide) (t := (.object "com/example/sixfold/sixfold/rules/Piece")) (t' := (.object "com/example/sixfold/sixfold/rules/Piece")) (by decide) (by decide)))).other W3 (Or.inr (slot_ne (Or.inr (oW hw 39 rfl)) (Or.inr (oW hw 29 rfl)) (by decide) (t := (.object "com/example/sixfold/sixfold/rules/Piece")) (t' := .int) (by decide) (by decide)))).other W4 (Or.inr (slot_ne (Or.inr (oW hw 39 rfl)) (Or.inr (oW hw 31 rfl)) (by decide) (t := (.object "com/example/sixfold/sixfold/rules/Piece")) (t' := .int) (by decide) (by decide)))).other W5 (Or.inr (slot_ne (Or.inr (oW hw 39 rfl)) (Or.inr (oW hw 33 rfl)) (by decide) (t := (.object "com/example/sixfold/sixfold/rules/Piece")) (t' := (.object "com/example/sixfold/sixfold/rules/Piece")) (by decide) (by decide)))).other W6 (Or.inr (slot_ne (Or.inr (oW hw 39 rfl)) (Or.inr (oW hw 35 rfl)) (by decide) (t := (.object "com/example/sixfold/sixfold/rules/Piece")) (t' := .int) (by decide) (by decide)))).other W7 (Or.inr (slot_ne (Or.inr (oW hw 39 rfl)) (Or.inr (oW hw 37 rfl)) (by decide) (t := (.object "com/example/sixfold/sixfold/rules/Piece")) (t' := (.object "com/example/sixfold/sixfold/rules/Castling")) (by decide) (by decide)))).same W8
  refine oS (fun t k => st8 t k) ?_
  exact own_ret (v := none) X8 (fun _ => rfl) Bd.notSynchronized (fun fs hr => X8.returnOut hx Bd.returns (hb hby d2_43) hr) (by rw [e8]; exact ⟨rfl, N8, Kp8, (((((((E_a1.wr W2).wr W3).wr W4).wr W5).wr W6).wr W7).wr W8), ((((((Fw2.other W3 (Or.inr (slot_ne (Or.inr (oW hw 27 rfl)) (Or.inr (oW hw 29 rfl)) (by decide) (t := (.object "com/example/sixfold/sixfold/rules/Piece")) (t' := .int) (by decide) (by decide)))).other W4 (Or.inr (slot_ne (Or.inr (oW hw 27 rfl)) (Or.inr (oW hw 31 rfl)) (by decide) (t := (.object "com/example/sixfold/sixfold/rules/Piece")) (t' := .int) (by decide) (by decide)))).other W5 (Or.inr (slot_ne (Or.inr (oW hw 27 rfl)) (Or.inr (oW hw 33 rfl)) (by decide) (t := (.object "com/example/sixfold/sixfold/rules/Piece")) (t' := (.object "com/example/sixfold/sixfold/rules/Piece")) (by decide) (by decide)))).other W6 (Or.inr (slot_ne (Or.inr (oW hw 27 rfl)) (Or.inr (oW hw 35 rfl)) (by decide) (t := (.object "com/example/sixfold/sixfold/rules/Piece")) (t' := .int) (by decide) (by decide)))).other W7 (Or.inr (slot_ne (Or.inr (oW hw 27 rfl)) (Or.inr (oW hw 37 rfl)) (by decide) (t := (.object "com/example/sixfold/sixfold/rules/Piece")) (t' := (.object "com/example/sixfold/sixfold/rules/Castling")) (by decide) (by decide)))).other W8 (Or.inr (slot_ne (Or.inr (oW hw 27 rfl)) (Or.inr (oW hw 39 rfl)) (by decide) (t := (.object "com/example/sixfold/sixfold/rules/Piece")) (t' := (.object "com/example/sixfold/sixfold/rules/Piece")) (by decide) (by decide)))), (((((Fw3.other W4 (Or.inr (slot_ne (Or.inr (oW hw 29 rfl)) (Or.inr (oW hw 31 rfl)) (by decide) (t := .int) (t' := .int) (by decide) (by decide)))).other W5 (Or.inr (slot_ne (Or.inr (oW hw 29 rfl)) (Or.inr (oW hw 33 rfl)) (by decide) (t := .int) (t' := (.object "com/example/sixfold/sixfold/rules/Piece")) (by decide) (by decide)))).other W6 (Or.inr (slot_ne (Or.inr (oW hw 29 rfl)) (Or.inr (oW hw 35 rfl)) (by decide) (t := .int) (t' := .int) (by decide) (by decide)))).other W7 (Or.inr (slot_ne (Or.inr (oW hw 29 rfl)) (Or.inr (oW hw 37 rfl)) (by decide) (t := .int) (t' := (.object "com/example/sixfold/sixfold/rules/Castling")) (by decide) (by decide)))).other W8 (Or.inr (slot_ne (Or.inr (oW hw 29 rfl)) (Or.inr (oW hw 39 rfl)) (by decide) (t := .int) (t' := (.object "com/example/sixfold/sixfold/rules/Piece")) (by decide) (by decide)))), ((((Fw4.other W5 (Or.inr (slot_ne (Or.inr (oW hw 31 rfl)) (Or.inr (oW hw 33 rfl)) (by decide) (t := .int) (t' := (.object "com/example/sixfold/sixfold/rules/Piece")) (by decide) (by decide)))).other W6 (Or.inr (slot_ne (Or.inr (oW hw 31 rfl)) (Or.inr (oW hw 35 rfl)) (by decide) (t := .int) (t' := .int) (by decide) (by decide)))).other W7 (Or.inr (slot_ne (Or.inr (oW hw 31 rfl)) (Or.inr (oW hw 37 rfl)) (by decide) (t := .int) (t' := (.object "com/example/sixfold/sixfold/rules/Castling")) (by decide) (by decide)))).other W8 (Or.inr (slot_ne (Or.inr (oW hw 31 rfl)) (Or.inr (oW hw 39 rfl)) (by decide) (t := .int) (t' := (.object "com/example/sixfold/sixfold/rules/Piece")) (by decide) (by decide)))), (((Fw5.other W6 (Or.inr (slot_ne (Or.inr (oW hw 33 rfl)) (Or.inr (oW hw 35 rfl)) (by decide) (t := (.object "com/example/sixfold/sixfold/rules/Piece")) (t' := .int) (by decide) (by decide)))).other W7 (Or.inr (slot_ne (Or.inr (oW hw 33 rfl)) (Or.inr (oW hw 37 rfl)) (by decide) (t := (.object "com/example/sixfold/sixfold/rules/Piece")) (t' := (.object "com/example/sixfold/sixfold/rules/Castling")) (by decide) (by decide)))).other W8 (Or.inr (slot_ne (Or.inr (oW hw 33 rfl)) (Or.inr (oW hw 39 rfl)) (by decide) (t := (.object "com/example/sixfold/sixfold/rules/Piece")) (t' := (.object "com/example/sixfold/sixfold/rules/Piece")) (by decide) (by decide)))), ((Fw6.other W7 (Or.inr (slot_ne (Or.inr (oW hw 35 rfl)) (Or.inr (oW hw 37 rfl)) (by decide) (t := .int) (t' := (.object "com/example/sixfold/sixfold/rules/Castling")) (by decide) (by decide)))).other W8 (Or.inr (slot_ne (Or.inr (oW hw 35 rfl)) (Or.inr (oW hw 39 rfl)) (by decide) (t := .int) (t' := (.object "com/example/sixfold/sixfold/rules/Piece")) (by decide) (by decide)))), (Fw7.other W8 (Or.inr (slot_ne (Or.inr (oW hw 37 rfl)) (Or.inr (oW hw 39 rfl)) (by decide) (t := (.object "com/example/sixfold/sixfold/rules/Castling")) (t' := (.object "com/example/sixfold/sixfold/rules/Piece")) (by decide) (by decide)))), Fw8⟩) (by decide) (by decide)
theorem ef_2_rriininr (m : MethodId) (x0 : Addr) (x1 : Addr) (x2 : Int32) (x3 : Int32) (x5 : Int32) (x7 : Addr) : entryFrame m #[(.ref x0), (.ref x1), (.int x2), (.int x3), .null, (.int x5), .null, (.ref x7)] 8 = mkF m 0 #[.val (.ref x0), .val (.ref x1), .val (.int x2), .val (.int x3), .val .null, .val (.int x5), .val .null, .val (.ref x7)] [] := by first | (simp [entryFrame, mkF, argsToLocals, Value.category]; done) | rfl
def Q_init_01 (Z : State) (a1 : Addr) (a2 : Addr) (p3 : Int32) (p4 : Int32) (p6 : Int32) (a8 : Addr) (u_piece : Value) (u_from : Value) (u_to : Value) (u_captured : Value) (u_capturedOn : Value) (u_castling : Value) (u_promotion : Value) (w : Nat → Addr) (h0 : Heap) (n0 : Nat) (v : Option Value) (h : Heap) (L : List Loc) : Prop := v = none ∧ Fr n0 L ∧ Keep h0 h [a1] ∧ Exa Z h a1 "com/example/sixfold/sixfold/rules/Move" ∧ Fld Z h a1 "com/example/sixfold/sixfold/rules/Move" "piece" "Lcom/example/sixfold/sixfold/rules/Piece;" (.ref a2) ∧ Fld Z h a1 "com/example/sixfold/sixfold/rules/Move" "from" "I" (.int p3) ∧ Fld Z h a1 "com/example/sixfold/sixfold/rules/Move" "to" "I" (.int p4) ∧ Fld Z h a1 "com/example/sixfold/sixfold/rules/Move" "captured" "Lcom/example/sixfold/sixfold/rules/Piece;" .null ∧ Fld Z h a1 "com/example/sixfold/sixfold/rules/Move" "capturedOn" "I" (.int p6) ∧ Fld Z h a1 "com/example/sixfold/sixfold/rules/Move" "castling" "Lcom/example/sixfold/sixfold/rules/Castling;" .null ∧ Fld Z h a1 "com/example/sixfold/sixfold/rules/Move" "promotion" "Lcom/example/sixfold/sixfold/rules/Piece;" (.ref a8)
set_option maxRecDepth 65536 in
set_option maxHeartbeats 40000000 in
theorem rm_init_01 (l : Launch) (Z : State) (a0 : Array Value) (hw : ∀ d ∈ tables_1, d.before a0 Z = true) (ws : List Jvm.Cond) (a1 : Addr) (a2 : Addr) (p3 : Int32) (p4 : Int32) (p6 : Int32) (a8 : Addr) (u_piece : Value) (u_from : Value) (u_to : Value) (u_captured : Value) (u_capturedOn : Value) (u_castling : Value) (u_promotion : Value) (w : Nat → Addr) (h0 : Heap) (n0 : Nat) (O0 : Old Z n0 h0) (W : own_World Z w) (E_a1 : Exa Z h0 a1 "com/example/sixfold/sixfold/rules/Move") (g_a1 : n0 ≤ a1) (F_piece_a1 : Fld Z h0 a1 "com/example/sixfold/sixfold/rules/Move" "piece" "Lcom/example/sixfold/sixfold/rules/Piece;" u_piece) (F_from_a1 : Fld Z h0 a1 "com/example/sixfold/sixfold/rules/Move" "from" "I" u_from) (F_to_a1 : Fld Z h0 a1 "com/example/sixfold/sixfold/rules/Move" "to" "I" u_to) (F_captured_a1 : Fld Z h0 a1 "com/example/sixfold/sixfold/rules/Move" "captured" "Lcom/example/sixfold/sixfold/rules/Piece;" u_captured) (F_capturedOn_a1 : Fld Z h0 a1 "com/example/sixfold/sixfold/rules/Move" "capturedOn" "I" u_capturedOn) (F_castling_a1 : Fld Z h0 a1 "com/example/sixfold/sixfold/rules/Move" "castling" "Lcom/example/sixfold/sixfold/rules/Castling;" u_castling) (F_promotion_a1 : Fld Z h0 a1 "com/example/sixfold/sixfold/rules/Move" "promotion" "Lcom/example/sixfold/sixfold/rules/Piece;" u_promotion) :
    MetFree l mY2 (head1 (Jvm.Cond.code mY2 prog_16_method_5_code 8 none :: ws) ({ frames := 2, cells := 0, slots := 0, locals := 24 } : Room)) (fun a U => a = #[(.ref a1), (.ref a2), (.int p3), (.int p4), .null, (.int p6), .null, (.ref a8)] ∧ Z.Warmed39 U.vm ∧ U.heap = h0) (fun _ _ _ _ _ => True) (fun _ U o U' => ∃ v L, o = .returned v ∧ Q_init_01 Z a1 a2 p3 p4 p6 a8 u_piece u_from u_to u_captured u_capturedOn u_castling u_promotion w h0 n0 v U'.heap L ∧ FrameEnd U o U' L ({ frames := 2, cells := 0, slots := 0, locals := 24 } : Room).cells ({ frames := 2, cells := 0, slots := 0, locals := 24 } : Room).slots) := by
  refine MetFree.of_bodySF (plainFor_of_name pn_2) hisR ?_
  intro p e s m args below meth c s₁ Bd hml0 hP hK
  obtain ⟨rfl, hZ, hh⟩ := hP
  have hx := Bd.exec
  have hby := Bd.bytes
  have hml : c.maxLocals = 8 := hml0
  have hown : s.vm.findClass "com/example/sixfold/sixfold/rules/Move" = some m.cls := findClass_of_methodNamed Bd.named
  have hnm := (name_of_methodNamed Bd.named Bd.method).1
  have X0 : Stand p l e ({ frames := 2, cells := 0, slots := 0, locals := 24 } : Room) s m #[(.ref a1), (.ref a2), (.int p3), (.int p4), .null, (.int p6), .null, (.ref a8)] below meth c s₁ [] 0 0 := Stand.of_body Bd
  have e0 : s₁.heap = h0 := by rw [← hh, Bd.state]; rfl
  have N0 := Fr.nil n0
  show oG p e below s (Q_init_01 Z a1 a2 p3 p4 p6 a8 u_piece u_from u_to u_captured u_capturedOn u_castling u_promotion w h0 n0) ({ frames := 2, cells := 0, slots := 0, locals := 24 } : Room).cells ({ frames := 2, cells := 0, slots := 0, locals := 24 } : Room).slots _
  refine oS (fun t k => castTop (ef_2_rriininr m a1 a2 p3 p4 p6 a8) k) ?_
  show oG _ _ _ _ _ _ _ (s₁.setTop (mkF m 0 #[.val (.ref a1), .val (.ref a2), .val (.int p3), .val (.int p4), .val .null, .val (.int p6), .val .null, .val (.ref a8)] []))
  refine oS (fun t k => XS.aloadN X0.here hx rfl (hb hby d2_0) rfl rfl k) ?_
  obtain ⟨_, _, ⟨T1, L1, k1, n1⟩, -, X1, ⟨Lc1, hQ1, l1, y1, z1⟩, st1⟩ := X0.specialBack hx (y := mY1) rfl hown (mvT hZ (oW hw 18 rfl)) (mvT hZ (oW hw 19 rfl)) (mvT hZ (oW hw 22 rfl)) (by decide) (backOf (W := 0) (rm_rec l Z a0 hw [] a1  h0 n0 O0  ) hZ (oW hw 22 rfl) (oW hw 21 rfl) (by decide) (by decide)) (g := (mkF m 1 #[.val (.ref a1), .val (.ref a2), .val (.int p3), .val (.int p4), .val .null, .val (.int p6), .val .null, .val (.ref a8)] [(.ref a1)])) rfl (by rw [hml]; rfl) (Steps.refl _) (a := a1) (argsL := []) (rest := []) (lenOf pd_0 rfl) rfl (by show 2 * 0 + _ ≤ _; exact Nat.le_of_eq rfl) (hb hby d2_1) (fun _ _ => ⟨rfl, e0, (by decide : 0 + 0 ≤ _), (by decide : 0 + 0 ≤ _)⟩)
  dsimp only [Pt.U, Pt.locs, Pt.cells, Pt.slots] at X1 l1 y1 z1 st1 hQ1
  subst l1 y1 z1
  obtain ⟨rfl, Nq1, e1⟩ := hQ1
  have N1 := Fr.app N0 Nq1
  refine oS (fun t k => st1.trans k) ?_
  show oG _ _ _ _ _ _ _ (T1.setTop (mkF m 4 #[.val (.ref a1), .val (.ref a2), .val (.int p3), .val (.int p4), .val .null, .val (.int p6), .val .null, .val (.ref a8)] []))
  refine oS (fun t k => XS.aloadN X1.here hx rfl (hb hby d2_4) rfl rfl k) ?_
  refine oS (fun t k => XS.aloadN X1.here hx rfl (hb hby d2_5) rfl rfl k) ?_
  obtain ⟨T2, h2, X2, e2, W2, st2⟩ := putF X1 hx hZ hown (host := "") (Or.inl (oW hw 26 rfl)) Via.refl e1 F_piece_a1 E_a1 (Or.inr ⟨(oW hw 27 rfl), rfl, hnm⟩) (oW hw 13 rfl) (ty := (.object "com/example/sixfold/sixfold/rules/Piece")) (by decide) rfl rfl (g := (mkF m 6 #[.val (.ref a1), .val (.ref a2), .val (.int p3), .val (.int p4), .val .null, .val (.int p6), .val .null, .val (.ref a8)] [(.ref a2), (.ref a1)])) rfl rfl (hb hby d2_6)
  have O2 := O0.wr W2 g_a1
  have N2 := Fr.snoc X2 N1 g_a1
  have Kp2 : Keep h0 h2 [a1] := (Keep.refl h0 [a1]).wr W2 (Or.inl (List.mem_of_getElem? (i := 0) rfl))
  have Fw2 := F_piece_a1.same W2
  refine oS (fun t k => st2 t k) ?_
  refine oS (fun t k => XS.aloadN X2.here hx rfl (hb hby d2_9) rfl rfl k) ?_
  refine oS (fun t k => XS.iloadN X2.here hx rfl (hb hby d2_10) rfl k) ?_
  obtain ⟨T3, h3, X3, e3, W3, st3⟩ := putF X2 hx hZ hown (host := "") (Or.inl (oW hw 28 rfl)) Via.refl e2 (F_from_a1.other W2 (Or.inr (slot_ne (Or.inr (oW hw 29 rfl)) (Or.inr (oW hw 27 rfl)) (by decide) (t := .int) (t' := (.object "com/example/sixfold/sixfold/rules/Piece")) (by decide) (by decide)))) (E_a1.wr W2) (Or.inr ⟨(oW hw 29 rfl), rfl, hnm⟩) (oW hw 13 rfl) (ty := .int) (by decide) rfl rfl (g := (mkF m 11 #[.val (.ref a1), .val (.ref a2), .val (.int p3), .val (.int p4), .val .null, .val (.int p6), .val .null, .val (.ref a8)] [(.int p3), (.ref a1)])) rfl rfl (hb hby d2_11)
  have O3 := O2.wr W3 g_a1
  have N3 := Fr.snoc X3 N2 g_a1
  have Kp3 : Keep h0 h3 [a1] := Kp2.wr W3 (Or.inl (List.mem_of_getElem? (i := 0) rfl))
  have Fw3 := (F_from_a1.other W2 (Or.inr (slot_ne (Or.inr (oW hw 29 rfl)) (Or.inr (oW hw 27 rfl)) (by decide) (t := .int) (t' := (.object "com/example/sixfold/sixfold/rules/Piece")) (by decide) (by decide)))).same W3
  refine oS (fun t k => st3 t k) ?_
  refine oS (fun t k => XS.aloadN X3.here hx rfl (hb hby d2_14) rfl rfl k) ?_
  refine oS (fun t k => XS.iloadN X3.here hx rfl (hb hby d2_15) rfl k) ?_
  obtain ⟨T4, h4, X4, e4, W4, st4⟩ := putF X3 hx hZ hown (host := "") (Or.inl (oW hw 30 rfl)) Via.refl e3 ((F_to_a1.other W2 (Or.inr (slot_ne (Or.inr (oW hw 31 rfl)) (Or.inr (oW hw 27 rfl)) (by decide) (t := .int) (t' := (.object "com/example/sixfold/sixfold/rules/Piece")) (by decide) (by decide)))).other W3 (Or.inr (slot_ne (Or.inr (oW hw 31 rfl)) (Or.inr (oW hw 29 rfl)) (by decide) (t := .int) (t' := .int) (by decide) (by decide)))) ((E_a1.wr W2).wr W3) (Or.inr ⟨(oW hw 31 rfl), rfl, hnm⟩) (oW hw 13 rfl) (ty := .int) (by decide) rfl rfl (g := (mkF m 16 #[.val (.ref a1), .val (.ref a2), .val (.int p3), .val (.int p4), .val .null, .val (.int p6), .val .null, .val (.ref a8)] [(.int p4), (.ref a1)])) rfl rfl (hb hby d2_16)
  have O4 := O3.wr W4 g_a1
  have N4 := Fr.snoc X4 N3 g_a1
  have Kp4 : Keep h0 h4 [a1] := Kp3.wr W4 (Or.inl (List.mem_of_getElem? (i := 0) rfl))
  have Fw4 := ((F_to_a1.other W2 (Or.inr (slot_ne (Or.inr (oW hw 31 rfl)) (Or.inr (oW hw 27 rfl)) (by decide) (t := .int) (t' := (.object "com/example/sixfold/sixfold/rules/Piece")) (by decide) (by decide)))).other W3 (Or.inr (slot_ne (Or.inr (oW hw 31 rfl)) (Or.inr (oW hw 29 rfl)) (by decide) (t := .int) (t' := .int) (by decide) (by decide)))).same W4
  refine oS (fun t k => st4 t k) ?_
  refine oS (fun t k => XS.aloadN X4.here hx rfl (hb hby d2_19) rfl rfl k) ?_
  show oG _ _ _ _ _ _ _ (T4.setTop (mkF m 20 #[.val (.ref a1), .val (.ref a2), .val (.int p3), .val (.int p4), .val .null, .val (.int p6), .val .null, .val (.ref a8)] [(.ref a1)]))
  refine oS (fun t k => XS.aload X4.here hx rfl (hb hby d2_20) rfl rfl k) ?_
  obtain ⟨T5, h5, X5, e5, W5, st5⟩ := putF X4 hx hZ hown (host := "") (Or.inl (oW hw 32 rfl)) Via.refl e4 (((F_captured_a1.other W2 (Or.inr (slot_ne (Or.inr (oW hw 33 rfl)) (Or.inr (oW hw 27 rfl)) (by decide) (t := (.object "com/example/sixfold/sixfold/rules/Piece")) (t' := (.object "com/example/sixfold/sixfold/rules/Piece")) (by decide) (by decide)))).other W3 (Or.inr (slot_ne (Or.inr (oW hw 33 rfl)) (Or.inr (oW hw 29 rfl)) (by decide) (t := (.object "com/example/sixfold/sixfold/rules/Piece")) (t' := .int) (by decide) (by decide)))).other W4 (Or.inr (slot_ne (Or.inr (oW hw 33 rfl)) (Or.inr (oW hw 31 rfl)) (by decide) (t := (.object "com/example/sixfold/sixfold/rules/Piece")) (t' := .int) (by decide) (by decide)))) (((E_a1.wr W2).wr W3).wr W4) (Or.inr ⟨(oW hw 33 rfl), rfl, hnm⟩) (oW hw 13 rfl) (ty := (.object "com/example/sixfold/sixfold/rules/Piece")) (by decide) rfl rfl (g := (mkF m 22 #[.val (.ref a1), .val (.ref a2), .val (.int p3), .val (.int p4), .val .null, .val (.int p6), .val .null, .val (.ref a8)] [.null, (.ref a1)])) rfl rfl (hb hby d2_22)
  have O5 := O4.wr W5 g_a1
  have N5 := Fr.snoc X5 N4 g_a1
  have Kp5 : Keep h0 h5 [a1] := Kp4.wr W5 (Or.inl (List.mem_of_getElem? (i := 0) rfl))
  have Fw5 := (((F_captured_a1.other W2 (Or.inr (slot_ne (Or.inr (oW hw 33 rfl)) (Or.inr (oW hw 27 rfl)) (by decide) (t := (.object "com/example/sixfold/sixfold/rules/Piece")) (t' := (.object "com/example/sixfold/sixfold/rules/Piece")) (by decide) (by decide)))).other W3 (Or.inr (slot_ne (Or.inr (oW hw 33 rfl)) (Or.inr (oW hw 29 rfl)) (by decide) (t := (.object "com/example/sixfold/sixfold/rules/Piece")) (t' := .int) (by decide) (by decide)))).other W4 (Or.inr (slot_ne (Or.inr (oW hw 33 rfl)) (Or.inr (oW hw 31 rfl)) (by decide) (t := (.object "com/example/sixfold/sixfold/rules/Piece")) (t' := .int) (by decide) (by decide)))).same W5
  refine oS (fun t k => st5 t k) ?_
  refine oS (fun t k => XS.aloadN X5.here hx rfl (hb hby d2_25) rfl rfl k) ?_
  refine oS (fun t k => XS.iload X5.here hx rfl (hb hby d2_26) rfl k) ?_
  obtain ⟨T6, h6, X6, e6, W6, st6⟩ := putF X5 hx hZ hown (host := "") (Or.inl (oW hw 34 rfl)) Via.refl e5 ((((F_capturedOn_a1.other W2 (Or.inr (slot_ne (Or.inr (oW hw 35 rfl)) (Or.inr (oW hw 27 rfl)) (by decide) (t := .int) (t' := (.object "com/example/sixfold/sixfold/rules/Piece")) (by decide) (by decide)))).other W3 (Or.inr (slot_ne (Or.inr (oW hw 35 rfl)) (Or.inr (oW hw 29 rfl)) (by decide) (t := .int) (t' := .int) (by decide) (by decide)))).other W4 (Or.inr (slot_ne (Or.inr (oW hw 35 rfl)) (Or.inr (oW hw 31 rfl)) (by decide) (t := .int) (t' := .int) (by decide) (by decide)))).other W5 (Or.inr (slot_ne (Or.inr (oW hw 35 rfl)) (Or.inr (oW hw 33 rfl)) (by decide) (t := .int) (t' := (.object "com/example/sixfold/sixfold/rules/Piece")) (by decide) (by decide)))) ((((E_a1.wr W2).wr W3).wr W4).wr W5) (Or.inr ⟨(oW hw 35 rfl), rfl, hnm⟩) (oW hw 13 rfl) (ty := .int) (by decide) rfl rfl (g := (mkF m 28 #[.val (.ref a1), .val (.ref a2), .val (.int p3), .val (.int p4), .val .null, .val (.int p6), .val .null, .val (.ref a8)] [(.int p6), (.ref a1)])) rfl rfl (hb hby d2_28)
  have O6 := O5.wr W6 g_a1
  have N6 := Fr.snoc X6 N5 g_a1
  have Kp6 : Keep h0 h6 [a1] := Kp5.wr W6 (Or.inl (List.mem_of_getElem? (i := 0) rfl))
  have Fw6 := ((((F_capturedOn_a1.other W2 (Or.inr (slot_ne (Or.inr (oW hw 35 rfl)) (Or.inr (oW hw 27 rfl)) (by decide) (t := .int) (t' := (.object "com/example/sixfold/sixfold/rules/Piece")) (by decide) (by decide)))).other W3 (Or.inr (slot_ne (Or.inr (oW hw 35 rfl)) (Or.inr (oW hw 29 rfl)) (by decide) (t := .int) (t' := .int) (by decide) (by decide)))).other W4 (Or.inr (slot_ne (Or.inr (oW hw 35 rfl)) (Or.inr (oW hw 31 rfl)) (by decide) (t := .int) (t' := .int) (by decide) (by decide)))).other W5 (Or.inr (slot_ne (Or.inr (oW hw 35 rfl)) (Or.inr (oW hw 33 rfl)) (by decide) (t := .int) (t' := (.object "com/example/sixfold/sixfold/rules/Piece")) (by decide) (by decide)))).same W6
  refine oS (fun t k => st6 t k) ?_
  refine oS (fun t k => XS.aloadN X6.here hx rfl (hb hby d2_31) rfl rfl k) ?_
  refine oS (fun t k => XS.aload X6.here hx rfl (hb hby d2_32) rfl rfl k) ?_
  obtain ⟨T7, h7, X7, e7, W7, st7⟩ := putF X6 hx hZ hown (host := "") (Or.inl (oW hw 36 rfl)) Via.refl e6 (((((F_castling_a1.other W2 (Or.inr (slot_ne (Or.inr (oW hw 37 rfl)) (Or.inr (oW hw 27 rfl)) (by decide) (t := (.object "com/example/sixfold/sixfold/rules/Castling")) (t' := (.object "com/example/sixfold/sixfold/rules/Piece")) (by decide) (by decide)))).other W3 (Or.inr (slot_ne (Or.inr (oW hw 37 rfl)) (Or.inr (oW hw 29 rfl)) (by decide) (t := (.object "com/example/sixfold/sixfold/rules/Castling")) (t' := .int) (by decide) (by decide)))).other W4 (Or.inr (slot_ne (Or.inr (oW hw 37 rfl)) (Or.inr (oW hw 31 rfl)) (by decide) (t := (.object "com/example/sixfold/sixfold/rules/Castling")) (t' := .int) (by decide) (by decide)))).other W5 (Or.inr (slot_ne (Or.inr (oW hw 37 rfl)) (Or.inr (oW hw 33 rfl)) (by decide) (t := (.object "com/example/sixfold/sixfold/rules/Castling")) (t' := (.object "com/example/sixfold/sixfold/rules/Piece")) (by decide) (by decide)))).other W6 (Or.inr (slot_ne (Or.inr (oW hw 37 rfl)) (Or.inr (oW hw 35 rfl)) (by decide) (t := (.object "com/example/sixfold/sixfold/rules/Castling")) (t' := .int) (by decide) (by decide)))) (((((E_a1.wr W2).wr W3).wr W4).wr W5).wr W6) (Or.inr ⟨(oW hw 37 rfl), rfl, hnm⟩) (oW hw 13 rfl) (ty := (.object "com/example/sixfold/sixfold/rules/Castling")) (by decide) rfl rfl (g := (mkF m 34 #[.val (.ref a1), .val (.ref a2), .val (.int p3), .val (.int p4), .val .null, .val (.int p6), .val .null, .val (.ref a8)] [.null, (.ref a1)])) rfl rfl (hb hby d2_34)
  have O7 := O6.wr W7 g_a1
  have N7 := Fr.snoc X7 N6 g_a1
  have Kp7 : Keep h0 h7 [a1] := Kp6.wr W7 (Or.inl (List.mem_of_getElem? (i := 0) rfl))
  have Fw7 := (((((F_castling_a1.other W2 (Or.inr (slot_ne (Or.inr (oW hw 37 rfl)) (Or.inr (oW hw 27 rfl)) (by decide) (t := (.object "com/example/sixfold/sixfold/rules/Castling")) (t' := (.object "com/example/sixfold/sixfold/rules/Piece")) (by decide) (by decide)))).other W3 (Or.inr (slot_ne (Or.inr (oW hw 37 rfl)) (Or.inr (oW hw 29 rfl)) (by decide) (t := (.object "com/example/sixfold/sixfold/rules/Castling")) (t' := .int) (by decide) (by decide)))).other W4 (Or.inr (slot_ne (Or.inr (oW hw 37 rfl)) (Or.inr (oW hw 31 rfl)) (by decide) (t := (.object "com/example/sixfold/sixfold/rules/Castling")) (t' := .int) (by decide) (by decide)))).other W5 (Or.inr (slot_ne (Or.inr (oW hw 37 rfl)) (Or.inr (oW hw 33 rfl)) (by decide) (t := (.object "com/example/sixfold/sixfold/rules/Castling")) (t' := (.object "com/example/sixfold/sixfold/rules/Piece")) (by decide) (by decide)))).other W6 (Or.inr (slot_ne (Or.inr (oW hw 37 rfl)) (Or.inr (oW hw 35 rfl)) (by decide) (t := (.object "com/example/sixfold/sixfold/rules/Castling")) (t' := .int) (by decide) (by decide)))).same W7
  refine oS (fun t k => st7 t k) ?_
  refine oS (fun t k => XS.aloadN X7.here hx rfl (hb hby d2_37) rfl rfl k) ?_
  refine oS (fun t k => XS.aload X7.here hx rfl (hb hby d2_38) rfl rfl k) ?_
  show oG _ _ _ _ _ _ _ (T7.setTop (mkF m 40 #[.val (.ref a1), .val (.ref a2), .val (.int p3), .val (.int p4), .val .null, .val (.int p6), .val .null, .val (.ref a8)] [(.ref a8), (.ref a1)]))
  obtain ⟨T8, h8, X8, e8, W8, st8⟩ := putF X7 hx hZ hown (host := "") (Or.inl (oW hw 38 rfl)) Via.refl e7 ((((((F_promotion_a1.other W2 (Or.inr (slot_ne (Or.inr (oW hw 39 rfl)) (Or.inr (oW hw 27 rfl)) (by decide) (t := (.object "com/example/sixfold/sixfold/rules/Piece")) (t' := (.object "com/example/sixfold/sixfold/rules/Piece")) (by decide) (by decide)))).other W3 (Or.inr (slot_ne (Or.inr (oW hw 39 rfl)) (Or.inr (oW hw 29 rfl)) (by decide) (t := (.object "com/example/sixfold/sixfold/rules/Piece")) (t' := .int) (by decide) (by decide)))).other W4 (Or.inr (slot_ne (Or.inr (oW hw 39 rfl)) (Or.inr (oW hw 31 rfl)) (by decide) (t := (.object "com/example/sixfold/sixfold/rules/Piece")) (t' := .int) (by decide) (by decide)))).other W5 (Or.inr (slot_ne (Or.inr (oW hw 39 rfl)) (Or.inr (oW hw 33 rfl)) (by decide) (t := (.object "com/example/sixfold/sixfold/rules/Piece")) (t' := (.object "com/example/sixfold/sixfold/rules/Piece")) (by decide) (by decide)))).other W6 (Or.inr (slot_ne (Or.inr (oW hw 39 rfl)) (Or.inr (oW hw 35 rfl)) (by decide) (t := (.object "com/example/sixfold/sixfold/rules/Piece")) (t' := .int) (by decide) (by decide)))).other W7 (Or.inr (slot_ne (Or.inr (oW hw 39 rfl)) (Or.inr (oW hw 37 rfl)) (by decide) (t := (.object "com/example/sixfold/sixfold/rules/Piece")) (t' := (.object "com/example/sixfold/sixfold/rules/Castling")) (by decide) (by decide)))) ((((((E_a1.wr W2).wr W3).wr W4).wr W5).wr W6).wr W7) (Or.inr ⟨(oW hw 39 rfl), rfl, hnm⟩) (oW hw 13 rfl) (ty := (.object "com/example/sixfold/sixfold/rules/Piece")) (by decide) rfl rfl (g := (mkF m 40 #[.val (.ref a1), .val (.ref a2), .val (.int p3), .val (.int p4), .val .null, .val (.int p6), .val .null, .val (.ref a8)] [(.ref a8), (.ref a1)])) rfl rfl (hb hby d2_40)
  have O8 := O7.wr W8 g_a1
  have N8 := Fr.snoc X8 N7 g_a1
  have Kp8 : Keep h0 h8 [a1] := Kp7.wr W8 (Or.inl (List.mem_of_getElem? (i := 0) rfl))
  have Fw8 := ((((((F_promotion_a1.other W2 (Or.inr (slot_ne (Or.inr (oW hw 39 rfl)) (Or.inr (oW hw 27 rfl)) (by decide) (t := (.object "com/example/sixfold/sixfold/rules/Piece")) (t' := (.object "com/example/sixfold/sixfold/rules/Piece")) (by decide) (by decide)))).other W3 (Or.inr (slot_ne (Or.inr (oW hw 39 rfl)) (Or.inr (oW hw 29 rfl)) (by decide) (t := (.object "com/example/sixfold/sixfold/rules/Piece")) (t' := .int) (by decide) (by decide)))).other W4 (Or.inr (slot_ne (Or.inr (oW hw 39 rfl)) (Or.inr (oW hw 31 rfl)) (by decide) (t := (.object "com/example/sixfold/sixfold/rules/Piece")) (t' := .int) (by decide) (by decide)))).other W5 (Or.inr (slot_ne (Or.inr (oW hw 39 rfl)) (Or.inr (oW hw 33 rfl)) (by decide) (t := (.object "com/example/sixfold/sixfold/rules/Piece")) (t' := (.object "com/example/sixfold/sixfold/rules/Piece")) (by decide) (by decide)))).other W6 (Or.inr (slot_ne (Or.inr (oW hw 39 rfl)) (Or.inr (oW hw 35 rfl)) (by decide) (t := (.object "com/example/sixfold/sixfold/rules/Piece")) (t' := .int) (by decide) (by decide)))).other W7 (Or.inr (slot_ne (Or.inr (oW hw 39 rfl)) (Or.inr (oW hw 37 rfl)) (by decide) (t := (.object "com/example/sixfold/sixfold/rules/Piece")) (t' := (.object "com/example/sixfold/sixfold/rules/Castling")) (by decide) (by decide)))).same W8
  refine oS (fun t k => st8 t k) ?_
  exact own_ret (v := none) X8 (fun _ => rfl) Bd.notSynchronized (fun fs hr => X8.returnOut hx Bd.returns (hb hby d2_43) hr) (by rw [e8]; exact ⟨rfl, N8, Kp8, (((((((E_a1.wr W2).wr W3).wr W4).wr W5).wr W6).wr W7).wr W8), ((((((Fw2.other W3 (Or.inr (slot_ne (Or.inr (oW hw 27 rfl)) (Or.inr (oW hw 29 rfl)) (by decide) (t := (.object "com/example/sixfold/sixfold/rules/Piece")) (t' := .int) (by decide) (by decide)))).other W4 (Or.inr (slot_ne (Or.inr (oW hw 27 rfl)) (Or.inr (oW hw 31 rfl)) (by decide) (t := (.object "com/example/sixfold/sixfold/rules/Piece")) (t' := .int) (by decide) (by decide)))).other W5 (Or.inr (slot_ne (Or.inr (oW hw 27 rfl)) (Or.inr (oW hw 33 rfl)) (by decide) (t := (.object "com/example/sixfold/sixfold/rules/Piece")) (t' := (.object "com/example/sixfold/sixfold/rules/Piece")) (by decide) (by decide)))).other W6 (Or.inr (slot_ne (Or.inr (oW hw 27 rfl)) (Or.inr (oW hw 35 rfl)) (by decide) (t := (.object "com/example/sixfold/sixfold/rules/Piece")) (t' := .int) (by decide) (by decide)))).other W7 (Or.inr (slot_ne (Or.inr (oW hw 27 rfl)) (Or.inr (oW hw 37 rfl)) (by decide) (t := (.object "com/example/sixfold/sixfold/rules/Piece")) (t' := (.object "com/example/sixfold/sixfold/rules/Castling")) (by decide) (by decide)))).other W8 (Or.inr (slot_ne (Or.inr (oW hw 27 rfl)) (Or.inr (oW hw 39 rfl)) (by decide) (t := (.object "com/example/sixfold/sixfold/rules/Piece")) (t' := (.object "com/example/sixfold/sixfold/rules/Piece")) (by decide) (by decide)))), (((((Fw3.other W4 (Or.inr (slot_ne (Or.inr (oW hw 29 rfl)) (Or.inr (oW hw 31 rfl)) (by decide) (t := .int) (t' := .int) (by decide) (by decide)))).other W5 (Or.inr (slot_ne (Or.inr (oW hw 29 rfl)) (Or.inr (oW hw 33 rfl)) (by decide) (t := .int) (t' := (.object "com/example/sixfold/sixfold/rules/Piece")) (by decide) (by decide)))).other W6 (Or.inr (slot_ne (Or.inr (oW hw 29 rfl)) (Or.inr (oW hw 35 rfl)) (by decide) (t := .int) (t' := .int) (by decide) (by decide)))).other W7 (Or.inr (slot_ne (Or.inr (oW hw 29 rfl)) (Or.inr (oW hw 37 rfl)) (by decide) (t := .int) (t' := (.object "com/example/sixfold/sixfold/rules/Castling")) (by decide) (by decide)))).other W8 (Or.inr (slot_ne (Or.inr (oW hw 29 rfl)) (Or.inr (oW hw 39 rfl)) (by decide) (t := .int) (t' := (.object "com/example/sixfold/sixfold/rules/Piece")) (by decide) (by decide)))), ((((Fw4.other W5 (Or.inr (slot_ne (Or.inr (oW hw 31 rfl)) (Or.inr (oW hw 33 rfl)) (by decide) (t := .int) (t' := (.object "com/example/sixfold/sixfold/rules/Piece")) (by decide) (by decide)))).other W6 (Or.inr (slot_ne (Or.inr (oW hw 31 rfl)) (Or.inr (oW hw 35 rfl)) (by decide) (t := .int) (t' := .int) (by decide) (by decide)))).other W7 (Or.inr (slot_ne (Or.inr (oW hw 31 rfl)) (Or.inr (oW hw 37 rfl)) (by decide) (t := .int) (t' := (.object "com/example/sixfold/sixfold/rules/Castling")) (by decide) (by decide)))).other W8 (Or.inr (slot_ne (Or.inr (oW hw 31 rfl)) (Or.inr (oW hw 39 rfl)) (by decide) (t := .int) (t' := (.object "com/example/sixfold/sixfold/rules/Piece")) (by decide) (by decide)))), (((Fw5.other W6 (Or.inr (slot_ne (Or.inr (oW hw 33 rfl)) (Or.inr (oW hw 35 rfl)) (by decide) (t := (.object "com/example/sixfold/sixfold/rules/Piece")) (t' := .int) (by decide) (by decide)))).other W7 (Or.inr (slot_ne (Or.inr (oW hw 33 rfl)) (Or.inr (oW hw 37 rfl)) (by decide) (t := (.object "com/example/sixfold/sixfold/rules/Piece")) (t' := (.object "com/example/sixfold/sixfold/rules/Castling")) (by decide) (by decide)))).other W8 (Or.inr (slot_ne (Or.inr (oW hw 33 rfl)) (Or.inr (oW hw 39 rfl)) (by decide) (t := (.object "com/example/sixfold/sixfold/rules/Piece")) (t' := (.object "com/example/sixfold/sixfold/rules/Piece")) (by decide) (by decide)))), ((Fw6.other W7 (Or.inr (slot_ne (Or.inr (oW hw 35 rfl)) (Or.inr (oW hw 37 rfl)) (by decide) (t := .int) (t' := (.object "com/example/sixfold/sixfold/rules/Castling")) (by decide) (by decide)))).other W8 (Or.inr (slot_ne (Or.inr (oW hw 35 rfl)) (Or.inr (oW hw 39 rfl)) (by decide) (t := .int) (t' := (.object "com/example/sixfold/sixfold/rules/Piece")) (by decide) (by decide)))), (Fw7.other W8 (Or.inr (slot_ne (Or.inr (oW hw 37 rfl)) (Or.inr (oW hw 39 rfl)) (by decide) (t := (.object "com/example/sixfold/sixfold/rules/Castling")) (t' := (.object "com/example/sixfold/sixfold/rules/Piece")) (by decide) (by decide)))), Fw8⟩) (by decide) (by decide)
theorem ef_2_rriirinn (m : MethodId) (x0 : Addr) (x1 : Addr) (x2 : Int32) (x3 : Int32) (x4 : Addr) (x5 : Int32) : entryFrame m #[(.ref x0), (.ref x1), (.int x2), (.int x3), (.ref x4), (.int x5), .null, .null] 8 = mkF m 0 #[.val (.ref x0), .val (.ref x1), .val (.int x2), .val (.int x3), .val (.ref x4), .val (.int x5), .val .null, .val .null] [] := by first | (simp [entryFrame, mkF, argsToLocals, Value.category]; done) | rfl
def Q_init_10 (Z : State) (a1 : Addr) (a2 : Addr) (p3 : Int32) (p4 : Int32) (a5 : Addr) (p6 : Int32) (u_piece : Value) (u_from : Value) (u_to : Value) (u_captured : Value) (u_capturedOn : Value) (u_castling : Value) (u_promotion : Value) (w : Nat → Addr) (h0 : Heap) (n0 : Nat) (v : Option Value) (h : Heap) (L : List Loc) : Prop := v = none ∧ Fr n0 L ∧ Keep h0 h [a1] ∧ Exa Z h a1 "com/example/sixfold/sixfold/rules/Move" ∧ Fld Z h a1 "com/example/sixfold/sixfold/rules/Move" "piece" "Lcom/example/sixfold/sixfold/rules/Piece;" (.ref a2) ∧ Fld Z h a1 "com/example/sixfold/sixfold/rules/Move" "from" "I" (.int p3) ∧ Fld Z h a1 "com/example/sixfold/sixfold/rules/Move" "to" "I" (.int p4) ∧ Fld Z h a1 "com/example/sixfold/sixfold/rules/Move" "captured" "Lcom/example/sixfold/sixfold/rules/Piece;" (.ref a5) ∧ Fld Z h a1 "com/example/sixfold/sixfold/rules/Move" "capturedOn" "I" (.int p6) ∧ Fld Z h a1 "com/example/sixfold/sixfold/rules/Move" "castling" "Lcom/example/sixfold/sixfold/rules/Castling;" .null ∧ Fld Z h a1 "com/example/sixfold/sixfold/rules/Move" "promotion" "Lcom/example/sixfold/sixfold/rules/Piece;" .null
set_option maxRecDepth 65536 in
set_option maxHeartbeats 40000000 in
theorem rm_init_10 (l : Launch) (Z : State) (a0 : Array Value) (hw : ∀ d ∈ tables_1, d.before a0 Z = true) (ws : List Jvm.Cond) (a1 : Addr) (a2 : Addr) (p3 : Int32) (p4 : Int32) (a5 : Addr) (p6 : Int32) (u_piece : Value) (u_from : Value) (u_to : Value) (u_captured : Value) (u_capturedOn : Value) (u_castling : Value) (u_promotion : Value) (w : Nat → Addr) (h0 : Heap) (n0 : Nat) (O0 : Old Z n0 h0) (W : own_World Z w) (E_a1 : Exa Z h0 a1 "com/example/sixfold/sixfold/rules/Move") (g_a1 : n0 ≤ a1) (F_piece_a1 : Fld Z h0 a1 "com/example/sixfold/sixfold/rules/Move" "piece" "Lcom/example/sixfold/sixfold/rules/Piece;" u_piece) (F_from_a1 : Fld Z h0 a1 "com/example/sixfold/sixfold/rules/Move" "from" "I" u_from) (F_to_a1 : Fld Z h0 a1 "com/example/sixfold/sixfold/rules/Move" "to" "I" u_to) (F_captured_a1 : Fld Z h0 a1 "com/example/sixfold/sixfold/rules/Move" "captured" "Lcom/example/sixfold/sixfold/rules/Piece;" u_captured) (F_capturedOn_a1 : Fld Z h0 a1 "com/example/sixfold/sixfold/rules/Move" "capturedOn" "I" u_capturedOn) (F_castling_a1 : Fld Z h0 a1 "com/example/sixfold/sixfold/rules/Move" "castling" "Lcom/example/sixfold/sixfold/rules/Castling;" u_castling) (F_promotion_a1 : Fld Z h0 a1 "com/example/sixfold/sixfold/rules/Move" "promotion" "Lcom/example/sixfold/sixfold/rules/Piece;" u_promotion) :
    MetFree l mY2 (head1 (Jvm.Cond.code mY2 prog_16_method_5_code 8 none :: ws) ({ frames := 2, cells := 0, slots := 0, locals := 24 } : Room)) (fun a U => a = #[(.ref a1), (.ref a2), (.int p3), (.int p4), (.ref a5), (.int p6), .null, .null] ∧ Z.Warmed39 U.vm ∧ U.heap = h0) (fun _ _ _ _ _ => True) (fun _ U o U' => ∃ v L, o = .returned v ∧ Q_init_10 Z a1 a2 p3 p4 a5 p6 u_piece u_from u_to u_captured u_capturedOn u_castling u_promotion w h0 n0 v U'.heap L ∧ FrameEnd U o U' L ({ frames := 2, cells := 0, slots := 0, locals := 24 } : Room).cells ({ frames := 2, cells := 0, slots := 0, locals := 24 } : Room).slots) := by
  refine MetFree.of_bodySF (plainFor_of_name pn_2) hisR ?_
  intro p e s m args below meth c s₁ Bd hml0 hP hK
  obtain ⟨rfl, hZ, hh⟩ := hP
  have hx := Bd.exec
  have hby := Bd.bytes
  have hml : c.maxLocals = 8 := hml0
  have hown : s.vm.findClass "com/example/sixfold/sixfold/rules/Move" = some m.cls := findClass_of_methodNamed Bd.named
  have hnm := (name_of_methodNamed Bd.named Bd.method).1
  have X0 : Stand p l e ({ frames := 2, cells := 0, slots := 0, locals := 24 } : Room) s m #[(.ref a1), (.ref a2), (.int p3), (.int p4), (.ref a5), (.int p6), .null, .null] below meth c s₁ [] 0 0 := Stand.of_body Bd
  have e0 : s₁.heap = h0 := by rw [← hh, Bd.state]; rfl
  have N0 := Fr.nil n0
  show oG p e below s (Q_init_10 Z a1 a2 p3 p4 a5 p6 u_piece u_from u_to u_captured u_capturedOn u_castling u_promotion w h0 n0) ({ frames := 2, cells := 0, slots := 0, locals := 24 } : Room).cells ({ frames := 2, cells := 0, slots := 0, locals := 24 } : Room).slots _
  refine oS (fun t k => castTop (ef_2_rriirinn m a1 a2 p3 p4 a5 p6) k) ?_
  show oG _ _ _ _ _ _ _ (s₁.setTop (mkF m 0 #[.val (.ref a1), .val (.ref a2), .val (.int p3), .val (.int p4), .val (.ref a5), .val (.int p6), .val .null, .val .null] []))
  refine oS (fun t k => XS.aloadN X0.here hx rfl (hb hby d2_0) rfl rfl k) ?_
  obtain ⟨_, _, ⟨T1, L1, k1, n1⟩, -, X1, ⟨Lc1, hQ1, l1, y1, z1⟩, st1⟩ := X0.specialBack hx (y := mY1) rfl hown (mvT hZ (oW hw 18 rfl)) (mvT hZ (oW hw 19 rfl)) (mvT hZ (oW hw 22 rfl)) (by decide) (backOf (W := 0) (rm_rec l Z a0 hw [] a1  h0 n0 O0  ) hZ (oW hw 22 rfl) (oW hw 21 rfl) (by decide) (by decide)) (g := (mkF m 1 #[.val (.ref a1), .val (.ref a2), .val (.int p3), .val (.int p4), .val (.ref a5), .val (.int p6), .val .null, .val .null] [(.ref a1)])) rfl (by rw [hml]; rfl) (Steps.refl _) (a := a1) (argsL := []) (rest := []) (lenOf pd_0 rfl) rfl (by show 2 * 0 + _ ≤ _; exact Nat.le_of_eq rfl) (hb hby d2_1) (fun _ _ => ⟨rfl, e0, (by decide : 0 + 0 ≤ _), (by decide : 0 + 0 ≤ _)⟩)
  dsimp only [Pt.U, Pt.locs, Pt.cells, Pt.slots] at X1 l1 y1 z1 st1 hQ1
  subst l1 y1 z1
  obtain ⟨rfl, Nq1, e1⟩ := hQ1
  have N1 := Fr.app N0 Nq1
  refine oS (fun t k => st1.trans k) ?_
  show oG _ _ _ _ _ _ _ (T1.setTop (mkF m 4 #[.val (.ref a1), .val (.ref a2), .val (.int p3), .val (.int p4), .val (.ref a5), .val (.int p6), .val .null, .val .null] []))
  refine oS (fun t k => XS.aloadN X1.here hx rfl (hb hby d2_4) rfl rfl k) ?_
  refine oS (fun t k => XS.aloadN X1.here hx rfl (hb hby d2_5) rfl rfl k) ?_
  obtain ⟨T2, h2, X2, e2, W2, st2⟩ := putF X1 hx hZ hown (host := "") (Or.inl (oW hw 26 rfl)) Via.refl e1 F_piece_a1 E_a1 (Or.inr ⟨(oW hw 27 rfl), rfl, hnm⟩) (oW hw 13 rfl) (ty := (.object "com/example/sixfold/sixfold/rules/Piece")) (by decide) rfl rfl (g := (mkF m 6 #[.val (.ref a1), .val (.ref a2), .val (.int p3), .val (.int p4), .val (.ref a5), .val (.int p6), .val .null, .val .null] [(.ref a2), (.ref a1)])) rfl rfl (hb hby d2_6)
  have O2 := O0.wr W2 g_a1
  have N2 := Fr.snoc X2 N1 g_a1
  have Kp2 : Keep h0 h2 [a1] := (Keep.refl h0 [a1]).wr W2 (Or.inl (List.mem_of_getElem? (i := 0) rfl))
  have Fw2 := F_piece_a1.same W2
  refine oS (fun t k => st2 t k) ?_
  refine oS (fun t k => XS.aloadN X2.here hx rfl (hb hby d2_9) rfl rfl k) ?_
  refine oS (fun t k => XS.iloadN X2.here hx rfl (hb hby d2_10) rfl k) ?_
  obtain ⟨T3, h3, X3, e3, W3, st3⟩ := putF X2 hx hZ hown (host := "") (Or.inl (oW hw 28 rfl)) Via.refl e2 (F_from_a1.other W2 (Or.inr (slot_ne (Or.inr (oW hw 29 rfl)) (Or.inr (oW hw 27 rfl)) (by decide) (t := .int) (t' := (.object "com/example/sixfold/sixfold/rules/Piece")) (by decide) (by decide)))) (E_a1.wr W2) (Or.inr ⟨(oW hw 29 rfl), rfl, hnm⟩) (oW hw 13 rfl) (ty := .int) (by decide) rfl rfl (g := (mkF m 11 #[.val (.ref a1), .val (.ref a2), .val (.int p3), .val (.int p4), .val (.ref a5), .val (.int p6), .val .null, .val .null] [(.int p3), (.ref a1)])) rfl rfl (hb hby d2_11)
  have O3 := O2.wr W3 g_a1
  have N3 := Fr.snoc X3 N2 g_a1
  have Kp3 : Keep h0 h3 [a1] := Kp2.wr W3 (Or.inl (List.mem_of_getElem? (i := 0) rfl))
  have Fw3 := (F_from_a1.other W2 (Or.inr (slot_ne (Or.inr (oW hw 29 rfl)) (Or.inr (oW hw 27 rfl)) (by decide) (t := .int) (t' := (.object "com/example/sixfold/sixfold/rules/Piece")) (by decide) (by decide)))).same W3
  refine oS (fun t k => st3 t k) ?_
  refine oS (fun t k => XS.aloadN X3.here hx rfl (hb hby d2_14) rfl rfl k) ?_
  refine oS (fun t k => XS.iloadN X3.here hx rfl (hb hby d2_15) rfl k) ?_
  obtain ⟨T4, h4, X4, e4, W4, st4⟩ := putF X3 hx hZ hown (host := "") (Or.inl (oW hw 30 rfl)) Via.refl e3 ((F_to_a1.other W2 (Or.inr (slot_ne (Or.inr (oW hw 31 rfl)) (Or.inr (oW hw 27 rfl)) (by decide) (t := .int) (t' := (.object "com/example/sixfold/sixfold/rules/Piece")) (by decide) (by decide)))).other W3 (Or.inr (slot_ne (Or.inr (oW hw 31 rfl)) (Or.inr (oW hw 29 rfl)) (by decide) (t := .int) (t' := .int) (by decide) (by decide)))) ((E_a1.wr W2).wr W3) (Or.inr ⟨(oW hw 31 rfl), rfl, hnm⟩) (oW hw 13 rfl) (ty := .int) (by decide) rfl rfl (g := (mkF m 16 #[.val (.ref a1), .val (.ref a2), .val (.int p3), .val (.int p4), .val (.ref a5), .val (.int p6), .val .null, .val .null] [(.int p4), (.ref a1)])) rfl rfl (hb hby d2_16)
  have O4 := O3.wr W4 g_a1
  have N4 := Fr.snoc X4 N3 g_a1
  have Kp4 : Keep h0 h4 [a1] := Kp3.wr W4 (Or.inl (List.mem_of_getElem? (i := 0) rfl))
  have Fw4 := ((F_to_a1.other W2 (Or.inr (slot_ne (Or.inr (oW hw 31 rfl)) (Or.inr (oW hw 27 rfl)) (by decide) (t := .int) (t' := (.object "com/example/sixfold/sixfold/rules/Piece")) (by decide) (by decide)))).other W3 (Or.inr (slot_ne (Or.inr (oW hw 31 rfl)) (Or.inr (oW hw 29 rfl)) (by decide) (t := .int) (t' := .int) (by decide) (by decide)))).same W4
  refine oS (fun t k => st4 t k) ?_
  refine oS (fun t k => XS.aloadN X4.here hx rfl (hb hby d2_19) rfl rfl k) ?_
  show oG _ _ _ _ _ _ _ (T4.setTop (mkF m 20 #[.val (.ref a1), .val (.ref a2), .val (.int p3), .val (.int p4), .val (.ref a5), .val (.int p6), .val .null, .val .null] [(.ref a1)]))
  refine oS (fun t k => XS.aload X4.here hx rfl (hb hby d2_20) rfl rfl k) ?_
  obtain ⟨T5, h5, X5, e5, W5, st5⟩ := putF X4 hx hZ hown (host := "") (Or.inl (oW hw 32 rfl)) Via.refl e4 (((F_captured_a1.other W2 (Or.inr (slot_ne (Or.inr (oW hw 33 rfl)) (Or.inr (oW hw 27 rfl)) (by decide) (t := (.object "com/example/sixfold/sixfold/rules/Piece")) (t' := (.object "com/example/sixfold/sixfold/rules/Piece")) (by decide) (by decide)))).other W3 (Or.inr (slot_ne (Or.inr (oW hw 33 rfl)) (Or.inr (oW hw 29 rfl)) (by decide) (t := (.object "com/example/sixfold/sixfold/rules/Piece")) (t' := .int) (by decide) (by decide)))).other W4 (Or.inr (slot_ne (Or.inr (oW hw 33 rfl)) (Or.inr (oW hw 31 rfl)) (by decide) (t := (.object "com/example/sixfold/sixfold/rules/Piece")) (t' := .int) (by decide) (by decide)))) (((E_a1.wr W2).wr W3).wr W4) (Or.inr ⟨(oW hw 33 rfl), rfl, hnm⟩) (oW hw 13 rfl) (ty := (.object "com/example/sixfold/sixfold/rules/Piece")) (by decide) rfl rfl (g := (mkF m 22 #[.val (.ref a1), .val (.ref a2), .val (.int p3), .val (.int p4), .val (.ref a5), .val (.int p6), .val .null, .val .null] [(.ref a5), (.ref a1)])) rfl rfl (hb hby d2_22)
  have O5 := O4.wr W5 g_a1
  have N5 := Fr.snoc X5 N4 g_a1
  have Kp5 : Keep h0 h5 [a1] := Kp4.wr W5 (Or.inl (List.mem_of_getElem? (i := 0) rfl))
  have Fw5 := (((F_captured_a1.other W2 (Or.inr (slot_ne (Or.inr (oW hw 33 rfl)) (Or.inr (oW hw 27 rfl)) (by decide) (t := (.object "com/example/sixfold/sixfold/rules/Piece")) (t' := (.object "com/example/sixfold/sixfold/rules/Piece")) (by decide) (by decide)))).other W3 (Or.inr (slot_ne (Or.inr (oW hw 33 rfl)) (Or.inr (oW hw 29 rfl)) (by decide) (t := (.object "com/example/sixfold/sixfold/rules/Piece")) (t' := .int) (by decide) (by decide)))).other W4 (Or.inr (slot_ne (Or.inr (oW hw 33 rfl)) (Or.inr (oW hw 31 rfl)) (by decide) (t := (.object "com/example/sixfold/sixfold/rules/Piece")) (t' := .int) (by decide) (by decide)))).same W5
  refine oS (fun t k => st5 t k) ?_
  refine oS (fun t k => XS.aloadN X5.here hx rfl (hb hby d2_25) rfl rfl k) ?_
  refine oS (fun t k => XS.iload X5.here hx rfl (hb hby d2_26) rfl k) ?_
  obtain ⟨T6, h6, X6, e6, W6, st6⟩ := putF X5 hx hZ hown (host := "") (Or.inl (oW hw 34 rfl)) Via.refl e5 ((((F_capturedOn_a1.other W2 (Or.inr (slot_ne (Or.inr (oW hw 35 rfl)) (Or.inr (oW hw 27 rfl)) (by decide) (t := .int) (t' := (.object "com/example/sixfold/sixfold/rules/Piece")) (by decide) (by decide)))).other W3 (Or.inr (slot_ne (Or.inr (oW hw 35 rfl)) (Or.inr (oW hw 29 rfl)) (by decide) (t := .int) (t' := .int) (by decide) (by decide)))).other W4 (Or.inr (slot_ne (Or.inr (oW hw 35 rfl)) (Or.inr (oW hw 31 rfl)) (by decide) (t := .int) (t' := .int) (by decide) (by decide)))).other W5 (Or.inr (slot_ne (Or.inr (oW hw 35 rfl)) (Or.inr (oW hw 33 rfl)) (by decide) (t := .int) (t' := (.object "com/example/sixfold/sixfold/rules/Piece")) (by decide) (by decide)))) ((((E_a1.wr W2).wr W3).wr W4).wr W5) (Or.inr ⟨(oW hw 35 rfl), rfl, hnm⟩) (oW hw 13 rfl) (ty := .int) (by decide) rfl rfl (g := (mkF m 28 #[.val (.ref a1), .val (.ref a2), .val (.int p3), .val (.int p4), .val (.ref a5), .val (.int p6), .val .null, .val .null] [(.int p6), (.ref a1)])) rfl rfl (hb hby d2_28)
  have O6 := O5.wr W6 g_a1
  have N6 := Fr.snoc X6 N5 g_a1
  have Kp6 : Keep h0 h6 [a1] := Kp5.wr W6 (Or.inl (List.mem_of_getElem? (i := 0) rfl))
  have Fw6 := ((((F_capturedOn_a1.other W2 (Or.inr (slot_ne (Or.inr (oW hw 35 rfl)) (Or.inr (oW hw 27 rfl)) (by decide) (t := .int) (t' := (.object "com/example/sixfold/sixfold/rules/Piece")) (by decide) (by decide)))).other W3 (Or.inr (slot_ne (Or.inr (oW hw 35 rfl)) (Or.inr (oW hw 29 rfl)) (by decide) (t := .int) (t' := .int) (by decide) (by decide)))).other W4 (Or.inr (slot_ne (Or.inr (oW hw 35 rfl)) (Or.inr (oW hw 31 rfl)) (by decide) (t := .int) (t' := .int) (by decide) (by decide)))).other W5 (Or.inr (slot_ne (Or.inr (oW hw 35 rfl)) (Or.inr (oW hw 33 rfl)) (by decide) (t := .int) (t' := (.object "com/example/sixfold/sixfold/rules/Piece")) (by decide) (by decide)))).same W6
  refine oS (fun t k => st6 t k) ?_
  refine oS (fun t k => XS.aloadN X6.here hx rfl (hb hby d2_31) rfl rfl k) ?_
  refine oS (fun t k => XS.aload X6.here hx rfl (hb hby d2_32) rfl rfl k) ?_
  obtain ⟨T7, h7, X7, e7, W7, st7⟩ := putF X6 hx hZ hown (host := "") (Or.inl (oW hw 36 rfl)) Via.refl e6 (((((F_castling_a1.other W2 (Or.inr (slot_ne (Or.inr (oW hw 37 rfl)) (Or.inr (oW hw 27 rfl)) (by decide) (t := (.object "com/example/sixfold/sixfold/rules/Castling")) (t' := (.object "com/example/sixfold/sixfold/rules/Piece")) (by decide) (by decide)))).other W3 (Or.inr (slot_ne (Or.inr (oW hw 37 rfl)) (Or.inr (oW hw 29 rfl)) (by decide) (t := (.object "com/example/sixfold/sixfold/rules/Castling")) (t' := .int) (by decide) (by decide)))).other W4 (Or.inr (slot_ne (Or.inr (oW hw 37 rfl)) (Or.inr (oW hw 31 rfl)) (by decide) (t := (.object "com/example/sixfold/sixfold/rules/Castling")) (t' := .int) (by decide) (by decide)))).other W5 (Or.inr (slot_ne (Or.inr (oW hw 37 rfl)) (Or.inr (oW hw 33 rfl)) (by decide) (t := (.object "com/example/sixfold/sixfold/rules/Castling")) (t' := (.object "com/example/sixfold/sixfold/rules/Piece")) (by decide) (by decide)))).other W6 (Or.inr (slot_ne (Or.inr (oW hw 37 rfl)) (Or.inr (oW hw 35 rfl)) (by decide) (t := (.object "com/example/sixfold/sixfold/rules/Castling")) (t' := .int) (by decide) (by decide)))) (((((E_a1.wr W2).wr W3).wr W4).wr W5).wr W6) (Or.inr ⟨(oW hw 37 rfl), rfl, hnm⟩) (oW hw 13 rfl) (ty := (.object "com/example/sixfold/sixfold/rules/Castling")) (by decide) rfl rfl (g := (mkF m 34 #[.val (.ref a1), .val (.ref a2), .val (.int p3), .val (.int p4), .val (.ref a5), .val (.int p6), .val .null, .val .null] [.null, (.ref a1)])) rfl rfl (hb hby d2_34)
  have O7 := O6.wr W7 g_a1
  have N7 := Fr.snoc X7 N6 g_a1
  have Kp7 : Keep h0 h7 [a1] := Kp6.wr W7 (Or.inl (List.mem_of_getElem? (i := 0) rfl))
  have Fw7 := (((((F_castling_a1.other W2 (Or.inr (slot_ne (Or.inr (oW hw 37 rfl)) (Or.inr (oW hw 27 rfl)) (by decide) (t := (.object "com/example/sixfold/sixfold/rules/Castling")) (t' := (.object "com/example/sixfold/sixfold/rules/Piece")) (by decide) (by decide)))).other W3 (Or.inr (slot_ne (Or.inr (oW hw 37 rfl)) (Or.inr (oW hw 29 rfl)) (by decide) (t := (.object "com/example/sixfold/sixfold/rules/Castling")) (t' := .int) (by decide) (by decide)))).other W4 (Or.inr (slot_ne (Or.inr (oW hw 37 rfl)) (Or.inr (oW hw 31 rfl)) (by decide) (t := (.object "com/example/sixfold/sixfold/rules/Castling")) (t' := .int) (by decide) (by decide)))).other W5 (Or.inr (slot_ne (Or.inr (oW hw 37 rfl)) (Or.inr (oW hw 33 rfl)) (by decide) (t := (.object "com/example/sixfold/sixfold/rules/Castling")) (t' := (.object "com/example/sixfold/sixfold/rules/Piece")) (by decide) (by decide)))).other W6 (Or.inr (slot_ne (Or.inr (oW hw 37 rfl)) (Or.inr (oW hw 35 rfl)) (by decide) (t := (.object "com/example/sixfold/sixfold/rules/Castling")) (t' := .int) (by decide) (by decide)))).same W7
  refine oS (fun t k => st7 t k) ?_
  refine oS (fun t k => XS.aloadN X7.here hx rfl (hb hby d2_37) rfl rfl k) ?_
  refine oS (fun t k => XS.aload X7.here hx rfl (hb hby d2_38) rfl rfl k) ?_
  show oG _ _ _ _ _ _ _ (T7.setTop (mkF m 40 #[.val (.ref a1), .val (.ref a2), .val (.int p3), .val (.int p4), .val (.ref a5), .val (.int p6), .val .null, .val .null] [.null, (.ref a1)]))
  obtain ⟨T8, h8, X8, e8, W8, st8⟩ := putF X7 hx hZ hown (host := "") (Or.inl (oW hw 38 rfl)) Via.refl e7 ((((((F_promotion_a1.other W2 (Or.inr (slot_ne (Or.inr (oW hw 39 rfl)) (Or.inr (oW hw 27 rfl)) (by decide) (t := (.object "com/example/sixfold/sixfold/rules/Piece")) (t' := (.object "com/example/sixfold/sixfold/rules/Piece")) (by decide) (by decide)))).other W3 (Or.inr (slot_ne (Or.inr (oW hw 39 rfl)) (Or.inr (oW hw 29 rfl)) (by decide) (t := (.object "com/example/sixfold/sixfold/rules/Piece")) (t' := .int) (by decide) (by decide)))).other W4 (Or.inr (slot_ne (Or.inr (oW hw 39 rfl)) (Or.inr (oW hw 31 rfl)) (by decide) (t := (.object "com/example/sixfold/sixfold/rules/Piece")) (t' := .int) (by decide) (by decide)))).other W5 (Or.inr (slot_ne (Or.inr (oW hw 39 rfl)) (Or.inr (oW hw 33 rfl)) (by decide) (t := (.object "com/example/sixfold/sixfold/rules/Piece")) (t' := (.object "com/example/sixfold/sixfold/rules/Piece")) (by decide) (by decide)))).other W6 (Or.inr (slot_ne (Or.inr (oW hw 39 rfl)) (Or.inr (oW hw 35 rfl)) (by decide) (t := (.object "com/example/sixfold/sixfold/rules/Piece")) (t' := .int) (by decide) (by decide)))).other W7 (Or.inr (slot_ne (Or.inr (oW hw 39 rfl)) (Or.inr (oW hw 37 rfl)) (by decide) (t := (.object "com/example/sixfold/sixfold/rules/Piece")) (t' := (.object "com/example/sixfold/sixfold/rules/Castling")) (by decide) (by decide)))) ((((((E_a1.wr W2).wr W3).wr W4).wr W5).wr W6).wr W7) (Or.inr ⟨(oW hw 39 rfl), rfl, hnm⟩) (oW hw 13 rfl) (ty := (.object "com/example/sixfold/sixfold/rules/Piece")) (by decide) rfl rfl (g := (mkF m 40 #[.val (.ref a1), .val (.ref a2), .val (.int p3), .val (.int p4), .val (.ref a5), .val (.int p6), .val .null, .val .null] [.null, (.ref a1)])) rfl rfl (hb hby d2_40)
  have O8 := O7.wr W8 g_a1
  have N8 := Fr.snoc X8 N7 g_a1
  have Kp8 : Keep h0 h8 [a1] := Kp7.wr W8 (Or.inl (List.mem_of_getElem? (i := 0) rfl))
  have Fw8 := ((((((F_promotion_a1.other W2 (Or.inr (slot_ne (Or.inr (oW hw 39 rfl)) (Or.inr (oW hw 27 rfl)) (by decide) (t := (.object "com/example/sixfold/sixfold/rules/Piece")) (t' := (.object "com/example/sixfold/sixfold/rules/Piece")) (by decide) (by decide)))).other W3 (Or.inr (slot_ne (Or.inr (oW hw 39 rfl)) (Or.inr (oW hw 29 rfl)) (by decide) (t := (.object "com/example/sixfold/sixfold/rules/Piece")) (t' := .int) (by decide) (by decide)))).other W4 (Or.inr (slot_ne (Or.inr (oW hw 39 rfl)) (Or.inr (oW hw 31 rfl)) (by decide) (t := (.object "com/example/sixfold/sixfold/rules/Piece")) (t' := .int) (by decide) (by decide)))).other W5 (Or.inr (slot_ne (Or.inr (oW hw 39 rfl)) (Or.inr (oW hw 33 rfl)) (by decide) (t := (.object "com/example/sixfold/sixfold/rules/Piece")) (t' := (.object "com/example/sixfold/sixfold/rules/Piece")) (by decide) (by decide)))).other W6 (Or.inr (slot_ne (Or.inr (oW hw 39 rfl)) (Or.inr (oW hw 35 rfl)) (by decide) (t := (.object "com/example/sixfold/sixfold/rules/Piece")) (t' := .int) (by decide) (by decide)))).other W7 (Or.inr (slot_ne (Or.inr (oW hw 39 rfl)) (Or.inr (oW hw 37 rfl)) (by decide) (t := (.object "com/example/sixfold/sixfold/rules/Piece")) (t' := (.object "com/example/sixfold/sixfold/rules/Castling")) (by decide) (by decide)))).same W8
  refine oS (fun t k => st8 t k) ?_
  exact own_ret (v := none) X8 (fun _ => rfl) Bd.notSynchronized (fun fs hr => X8.returnOut hx Bd.returns (hb hby d2_43) hr) (by rw [e8]; exact ⟨rfl, N8, Kp8, (((((((E_a1.wr W2).wr W3).wr W4).wr W5).wr W6).wr W7).wr W8), ((((((Fw2.other W3 (Or.inr (slot_ne (Or.inr (oW hw 27 rfl)) (Or.inr (oW hw 29 rfl)) (by decide) (t := (.object "com/example/sixfold/sixfold/rules/Piece")) (t' := .int) (by decide) (by decide)))).other W4 (Or.inr (slot_ne (Or.inr (oW hw 27 rfl)) (Or.inr (oW hw 31 rfl)) (by decide) (t := (.object "com/example/sixfold/sixfold/rules/Piece")) (t' := .int) (by decide) (by decide)))).other W5 (Or.inr (slot_ne (Or.inr (oW hw 27 rfl)) (Or.inr (oW hw 33 rfl)) (by decide) (t := (.object "com/example/sixfold/sixfold/rules/Piece")) (t' := (.object "com/example/sixfold/sixfold/rules/Piece")) (by decide) (by decide)))).other W6 (Or.inr (slot_ne (Or.inr (oW hw 27 rfl)) (Or.inr (oW hw 35 rfl)) (by decide) (t := (.object "com/example/sixfold/sixfold/rules/Piece")) (t' := .int) (by decide) (by decide)))).other W7 (Or.inr (slot_ne (Or.inr (oW hw 27 rfl)) (Or.inr (oW hw 37 rfl)) (by decide) (t := (.object "com/example/sixfold/sixfold/rules/Piece")) (t' := (.object "com/example/sixfold/sixfold/rules/Castling")) (by decide) (by decide)))).other W8 (Or.inr (slot_ne (Or.inr (oW hw 27 rfl)) (Or.inr (oW hw 39 rfl)) (by decide) (t := (.object "com/example/sixfold/sixfold/rules/Piece")) (t' := (.object "com/example/sixfold/sixfold/rules/Piece")) (by decide) (by decide)))), (((((Fw3.other W4 (Or.inr (slot_ne (Or.inr (oW hw 29 rfl)) (Or.inr (oW hw 31 rfl)) (by decide) (t := .int) (t' := .int) (by decide) (by decide)))).other W5 (Or.inr (slot_ne (Or.inr (oW hw 29 rfl)) (Or.inr (oW hw 33 rfl)) (by decide) (t := .int) (t' := (.object "com/example/sixfold/sixfold/rules/Piece")) (by decide) (by decide)))).other W6 (Or.inr (slot_ne (Or.inr (oW hw 29 rfl)) (Or.inr (oW hw 35 rfl)) (by decide) (t := .int) (t' := .int) (by decide) (by decide)))).other W7 (Or.inr (slot_ne (Or.inr (oW hw 29 rfl)) (Or.inr (oW hw 37 rfl)) (by decide) (t := .int) (t' := (.object "com/example/sixfold/sixfold/rules/Castling")) (by decide) (by decide)))).other W8 (Or.inr (slot_ne (Or.inr (oW hw 29 rfl)) (Or.inr (oW hw 39 rfl)) (by decide) (t := .int) (t' := (.object "com/example/sixfold/sixfold/rules/Piece")) (by decide) (by decide)))), ((((Fw4.other W5 (Or.inr (slot_ne (Or.inr (oW hw 31 rfl)) (Or.inr (oW hw 33 rfl)) (by decide) (t := .int) (t' := (.object "com/example/sixfold/sixfold/rules/Piece")) (by decide) (by decide)))).other W6 (Or.inr (slot_ne (Or.inr (oW hw 31 rfl)) (Or.inr (oW hw 35 rfl)) (by decide) (t := .int) (t' := .int) (by decide) (by decide)))).other W7 (Or.inr (slot_ne (Or.inr (oW hw 31 rfl)) (Or.inr (oW hw 37 rfl)) (by decide) (t := .int) (t' := (.object "com/example/sixfold/sixfold/rules/Castling")) (by decide) (by decide)))).other W8 (Or.inr (slot_ne (Or.inr (oW hw 31 rfl)) (Or.inr (oW hw 39 rfl)) (by decide) (t := .int) (t' := (.object "com/example/sixfold/sixfold/rules/Piece")) (by decide) (by decide)))), (((Fw5.other W6 (Or.inr (slot_ne (Or.inr (oW hw 33 rfl)) (Or.inr (oW hw 35 rfl)) (by decide) (t := (.object "com/example/sixfold/sixfold/rules/Piece")) (t' := .int) (by decide) (by decide)))).other W7 (Or.inr (slot_ne (Or.inr (oW hw 33 rfl)) (Or.inr (oW hw 37 rfl)) (by decide) (t := (.object "com/example/sixfold/sixfold/rules/Piece")) (t' := (.object "com/example/sixfold/sixfold/rules/Castling")) (by decide) (by decide)))).other W8 (Or.inr (slot_ne (Or.inr (oW hw 33 rfl)) (Or.inr (oW hw 39 rfl)) (by decide) (t := (.object "com/example/sixfold/sixfold/rules/Piece")) (t' := (.object "com/example/sixfold/sixfold/rules/Piece")) (by decide) (by decide)))), ((Fw6.other W7 (Or.inr (slot_ne (Or.inr (oW hw 35 rfl)) (Or.inr (oW hw 37 rfl)) (by decide) (t := .int) (t' := (.object "com/example/sixfold/sixfold/rules/Castling")) (by decide) (by decide)))).other W8 (Or.inr (slot_ne (Or.inr (oW hw 35 rfl)) (Or.inr (oW hw 39 rfl)) (by decide) (t := .int) (t' := (.object "com/example/sixfold/sixfold/rules/Piece")) (by decide) (by decide)))), (Fw7.other W8 (Or.inr (slot_ne (Or.inr (oW hw 37 rfl)) (Or.inr (oW hw 39 rfl)) (by decide) (t := (.object "com/example/sixfold/sixfold/rules/Castling")) (t' := (.object "com/example/sixfold/sixfold/rules/Piece")) (by decide) (by decide)))), Fw8⟩) (by decide) (by decide)
theorem ef_2_rriirinr (m : MethodId) (x0 : Addr) (x1 : Addr) (x2 : Int32) (x3 : Int32) (x4 : Addr) (x5 : Int32) (x7 : Addr) : entryFrame m #[(.ref x0), (.ref x1), (.int x2), (.int x3), (.ref x4), (.int x5), .null, (.ref x7)] 8 = mkF m 0 #[.val (.ref x0), .val (.ref x1), .val (.int x2), .val (.int x3), .val (.ref x4), .val (.int x5), .val .null, .val (.ref x7)] [] := by first | (simp [entryFrame, mkF, argsToLocals, Value.category]; done) | rfl
def Q_init_11 (Z : State) (a1 : Addr) (a2 : Addr) (p3 : Int32) (p4 : Int32) (a5 : Addr) (p6 : Int32) (a8 : Addr) (u_piece : Value) (u_from : Value) (u_to : Value) (u_captured : Value) (u_capturedOn : Value) (u_castling : Value) (u_promotion : Value) (w : Nat → Addr) (h0 : Heap) (n0 : Nat) (v : Option Value) (h : Heap) (L : List Loc) : Prop := v = none ∧ Fr n0 L ∧ Keep h0 h [a1] ∧ Exa Z h a1 "com/example/sixfold/sixfold/rules/Move" ∧ Fld Z h a1 "com/example/sixfold/sixfold/rules/Move" "piece" "Lcom/example/sixfold/sixfold/rules/Piece;" (.ref a2) ∧ Fld Z h a1 "com/example/sixfold/sixfold/rules/Move" "from" "I" (.int p3) ∧ Fld Z h a1 "com/example/sixfold/sixfold/rules/Move" "to" "I" (.int p4) ∧ Fld Z h a1 "com/example/sixfold/sixfold/rules/Move" "captured" "Lcom/example/sixfold/sixfold/rules/Piece;" (.ref a5) ∧ Fld Z h a1 "com/example/sixfold/sixfold/rules/Move" "capturedOn" "I" (.int p6) ∧ Fld Z h a1 "com/example/sixfold/sixfold/rules/Move" "castling" "Lcom/example/sixfold/sixfold/rules/Castling;" .null ∧ Fld Z h a1 "com/example/sixfold/sixfold/rules/Move" "promotion" "Lcom/example/sixfold/sixfold/rules/Piece;" (.ref a8)
set_option maxRecDepth 65536 in
set_option maxHeartbeats 40000000 in
theorem rm_init_11 (l : Launch) (Z : State) (a0 : Array Value) (hw : ∀ d ∈ tables_1, d.before a0 Z = true) (ws : List Jvm.Cond) (a1 : Addr) (a2 : Addr) (p3 : Int32) (p4 : Int32) (a5 : Addr) (p6 : Int32) (a8 : Addr) (u_piece : Value) (u_from : Value) (u_to : Value) (u_captured : Value) (u_capturedOn : Value) (u_castling : Value) (u_promotion : Value) (w : Nat → Addr) (h0 : Heap) (n0 : Nat) (O0 : Old Z n0 h0) (W : own_World Z w) (E_a1 : Exa Z h0 a1 "com/example/sixfold/sixfold/rules/Move") (g_a1 : n0 ≤ a1) (F_piece_a1 : Fld Z h0 a1 "com/example/sixfold/sixfold/rules/Move" "piece" "Lcom/example/sixfold/sixfold/rules/Piece;" u_piece) (F_from_a1 : Fld Z h0 a1 "com/example/sixfold/sixfold/rules/Move" "from" "I" u_from) (F_to_a1 : Fld Z h0 a1 "com/example/sixfold/sixfold/rules/Move" "to" "I" u_to) (F_captured_a1 : Fld Z h0 a1 "com/example/sixfold/sixfold/rules/Move" "captured" "Lcom/example/sixfold/sixfold/rules/Piece;" u_captured) (F_capturedOn_a1 : Fld Z h0 a1 "com/example/sixfold/sixfold/rules/Move" "capturedOn" "I" u_capturedOn) (F_castling_a1 : Fld Z h0 a1 "com/example/sixfold/sixfold/rules/Move" "castling" "Lcom/example/sixfold/sixfold/rules/Castling;" u_castling) (F_promotion_a1 : Fld Z h0 a1 "com/example/sixfold/sixfold/rules/Move" "promotion" "Lcom/example/sixfold/sixfold/rules/Piece;" u_promotion) :
    MetFree l mY2 (head1 (Jvm.Cond.code mY2 prog_16_method_5_code 8 none :: ws) ({ frames := 2, cells := 0, slots := 0, locals := 24 } : Room)) (fun a U => a = #[(.ref a1), (.ref a2), (.int p3), (.int p4), (.ref a5), (.int p6), .null, (.ref a8)] ∧ Z.Warmed39 U.vm ∧ U.heap = h0) (fun _ _ _ _ _ => True) (fun _ U o U' => ∃ v L, o = .returned v ∧ Q_init_11 Z a1 a2 p3 p4 a5 p6 a8 u_piece u_from u_to u_captured u_capturedOn u_castling u_promotion w h0 n0 v U'.heap L ∧ FrameEnd U o U' L ({ frames := 2, cells := 0, slots := 0, locals := 24 } : Room).cells ({ frames := 2, cells := 0, slots := 0, locals := 24 } : Room).slots) := by
  refine MetFree.of_bodySF (plainFor_of_name pn_2) hisR ?_
  intro p e s m args below meth c s₁ Bd hml0 hP hK
  obtain ⟨rfl, hZ, hh⟩ := hP
  have hx := Bd.exec
  have hby := Bd.bytes
  have hml : c.maxLocals = 8 := hml0
  have hown : s.vm.findClass "com/example/sixfold/sixfold/rules/Move" = some m.cls := findClass_of_methodNamed Bd.named
  have hnm := (name_of_methodNamed Bd.named Bd.method).1
  have X0 : Stand p l e ({ frames := 2, cells := 0, slots := 0, locals := 24 } : Room) s m #[(.ref a1), (.ref a2), (.int p3), (.int p4), (.ref a5), (.int p6), .null, (.ref a8)] below meth c s₁ [] 0 0 := Stand.of_body Bd
  have e0 : s₁.heap = h0 := by rw [← hh, Bd.state]; rfl
  have N0 := Fr.nil n0
  show oG p e below s (Q_init_11 Z a1 a2 p3 p4 a5 p6 a8 u_piece u_from u_to u_captured u_capturedOn u_castling u_promotion w h0 n0) ({ frames := 2, cells := 0, slots := 0, locals := 24 } : Room).cells ({ frames := 2, cells := 0, slots := 0, locals := 24 } : Room).slots _
  refine oS (fun t k => castTop (ef_2_rriirinr m a1 a2 p3 p4 a5 p6 a8) k) ?_
  show oG _ _ _ _ _ _ _ (s₁.setTop (mkF m 0 #[.val (.ref a1), .val (.ref a2), .val (.int p3), .val (.int p4), .val (.ref a5), .val (.int p6), .val .null, .val (.ref a8)] []))
  refine oS (fun t k => XS.aloadN X0.here hx rfl (hb hby d2_0) rfl rfl k) ?_
  obtain ⟨_, _, ⟨T1, L1, k1, n1⟩, -, X1, ⟨Lc1, hQ1, l1, y1, z1⟩, st1⟩ := X0.specialBack hx (y := mY1) rfl hown (mvT hZ (oW hw 18 rfl)) (mvT hZ (oW hw 19 rfl)) (mvT hZ (oW hw 22 rfl)) (by decide) (backOf (W := 0) (rm_rec l Z a0 hw [] a1  h0 n0 O0  ) hZ (oW hw 22 rfl) (oW hw 21 rfl) (by decide) (by decide)) (g := (mkF m 1 #[.val (.ref a1), .val (.ref a2), .val (.int p3), .val (.int p4), .val (.ref a5), .val (.int p6), .val .null, .val (.ref a8)] [(.ref a1)])) rfl (by rw [hml]; rfl) (Steps.refl _) (a := a1) (argsL := []) (rest := []) (lenOf pd_0 rfl) rfl (by show 2 * 0 + _ ≤ _; exact Nat.le_of_eq rfl) (hb hby d2_1) (fun _ _ => ⟨rfl, e0, (by decide : 0 + 0 ≤ _), (by decide : 0 + 0 ≤ _)⟩)
  dsimp only [Pt.U, Pt.locs, Pt.cells, Pt.slots] at X1 l1 y1 z1 st1 hQ1
  subst l1 y1 z1
  obtain ⟨rfl, Nq1, e1⟩ := hQ1
  have N1 := Fr.app N0 Nq1
  refine oS (fun t k => st1.trans k) ?_
  show oG _ _ _ _ _ _ _ (T1.setTop (mkF m 4 #[.val (.ref a1), .val (.ref a2), .val (.int p3), .val (.int p4), .val (.ref a5), .val (.int p6), .val .null, .val (.ref a8)] []))
  refine oS (fun t k => XS.aloadN X1.here hx rfl (hb hby d2_4) rfl rfl k) ?_
  refine oS (fun t k => XS.aloadN X1.here hx rfl (hb hby d2_5) rfl rfl k) ?_
  obtain ⟨T2, h2, X2, e2, W2, st2⟩ := putF X1 hx hZ hown (host := "") (Or.inl (oW hw 26 rfl)) Via.refl e1 F_piece_a1 E_a1 (Or.inr ⟨(oW hw 27 rfl), rfl, hnm⟩) (oW hw 13 rfl) (ty := (.object "com/example/sixfold/sixfold/rules/Piece")) (by decide) rfl rfl (g := (mkF m 6 #[.val (.ref a1), .val (.ref a2), .val (.int p3), .val (.int p4), .val (.ref a5), .val (.int p6), .val .null, .val (.ref a8)] [(.ref a2), (.ref a1)])) rfl rfl (hb hby d2_6)
  have O2 := O0.wr W2 g_a1
  have N2 := Fr.snoc X2 N1 g_a1
  have Kp2 : Keep h0 h2 [a1] := (Keep.refl h0 [a1]).wr W2 (Or.inl (List.mem_of_getElem? (i := 0) rfl))
  have Fw2 := F_piece_a1.same W2
  refine oS (fun t k => st2 t k) ?_
  refine oS (fun t k => XS.aloadN X2.here hx rfl (hb hby d2_9) rfl rfl k) ?_
  refine oS (fun t k => XS.iloadN X2.here hx rfl (hb hby d2_10) rfl k) ?_
  obtain ⟨T3, h3, X3, e3, W3, st3⟩ := putF X2 hx hZ hown (host := "") (Or.inl (oW hw 28 rfl)) Via.refl e2 (F_from_a1.other W2 (Or.inr (slot_ne (Or.inr (oW hw 29 rfl)) (Or.inr (oW hw 27 rfl)) (by decide) (t := .int) (t' := (.object "com/example/sixfold/sixfold/rules/Piece")) (by decide) (by decide)))) (E_a1.wr W2) (Or.inr ⟨(oW hw 29 rfl), rfl, hnm⟩) (oW hw 13 rfl) (ty := .int) (by decide) rfl rfl (g := (mkF m 11 #[.val (.ref a1), .val (.ref a2), .val (.int p3), .val (.int p4), .val (.ref a5), .val (.int p6), .val .null, .val (.ref a8)] [(.int p3), (.ref a1)])) rfl rfl (hb hby d2_11)
  have O3 := O2.wr W3 g_a1
  have N3 := Fr.snoc X3 N2 g_a1
  have Kp3 : Keep h0 h3 [a1] := Kp2.wr W3 (Or.inl (List.mem_of_getElem? (i := 0) rfl))
  have Fw3 := (F_from_a1.other W2 (Or.inr (slot_ne (Or.inr (oW hw 29 rfl)) (Or.inr (oW hw 27 rfl)) (by decide) (t := .int) (t' := (.object "com/example/sixfold/sixfold/rules/Piece")) (by decide) (by decide)))).same W3
  refine oS (fun t k => st3 t k) ?_
  refine oS (fun t k => XS.aloadN X3.here hx rfl (hb hby d2_14) rfl rfl k) ?_
  refine oS (fun t k => XS.iloadN X3.here hx rfl (hb hby d2_15) rfl k) ?_
  obtain ⟨T4, h4, X4, e4, W4, st4⟩ := putF X3 hx hZ hown (host := "") (Or.inl (oW hw 30 rfl)) Via.refl e3 ((F_to_a1.other W2 (Or.inr (slot_ne (Or.inr (oW hw 31 rfl)) (Or.inr (oW hw 27 rfl)) (by decide) (t := .int) (t' := (.object "com/example/sixfold/sixfold/rules/Piece")) (by decide) (by decide)))).other W3 (Or.inr (slot_ne (Or.inr (oW hw 31 rfl)) (Or.inr (oW hw 29 rfl)) (by decide) (t := .int) (t' := .int) (by decide) (by decide)))) ((E_a1.wr W2).wr W3) (Or.inr ⟨(oW hw 31 rfl), rfl, hnm⟩) (oW hw 13 rfl) (ty := .int) (by decide) rfl rfl (g := (mkF m 16 #[.val (.ref a1), .val (.ref a2), .val (.int p3), .val (.int p4), .val (.ref a5), .val (.int p6), .val .null, .val (.ref a8)] [(.int p4), (.ref a1)])) rfl rfl (hb hby d2_16)
  have O4 := O3.wr W4 g_a1
  have N4 := Fr.snoc X4 N3 g_a1
  have Kp4 : Keep h0 h4 [a1] := Kp3.wr W4 (Or.inl (List.mem_of_getElem? (i := 0) rfl))
  have Fw4 := ((F_to_a1.other W2 (Or.inr (slot_ne (Or.inr (oW hw 31 rfl)) (Or.inr (oW hw 27 rfl)) (by decide) (t := .int) (t' := (.object "com/example/sixfold/sixfold/rules/Piece")) (by decide) (by decide)))).other W3 (Or.inr (slot_ne (Or.inr (oW hw 31 rfl)) (Or.inr (oW hw 29 rfl)) (by decide) (t := .int) (t' := .int) (by decide) (by decide)))).same W4
  refine oS (fun t k => st4 t k) ?_
  refine oS (fun t k => XS.aloadN X4.here hx rfl (hb hby d2_19) rfl rfl k) ?_
  show oG _ _ _ _ _ _ _ (T4.setTop (mkF m 20 #[.val (.ref a1), .val (.ref a2), .val (.int p3), .val (.int p4), .val (.ref a5), .val (.int p6), .val .null, .val (.ref a8)] [(.ref a1)]))
  refine oS (fun t k => XS.aload X4.here hx rfl (hb hby d2_20) rfl rfl k) ?_
  obtain ⟨T5, h5, X5, e5, W5, st5⟩ := putF X4 hx hZ hown (host := "") (Or.inl (oW hw 32 rfl)) Via.refl e4 (((F_captured_a1.other W2 (Or.inr (slot_ne (Or.inr (oW hw 33 rfl)) (Or.inr (oW hw 27 rfl)) (by decide) (t := (.object "com/example/sixfold/sixfold/rules/Piece")) (t' := (.object "com/example/sixfold/sixfold/rules/Piece")) (by decide) (by decide)))).other W3 (Or.inr (slot_ne (Or.inr (oW hw 33 rfl)) (Or.inr (oW hw 29 rfl)) (by decide) (t := (.object "com/example/sixfold/sixfold/rules/Piece")) (t' := .int) (by decide) (by decide)))).other W4 (Or.inr (slot_ne (Or.inr (oW hw 33 rfl)) (Or.inr (oW hw 31 rfl)) (by decide) (t := (.object "com/example/sixfold/sixfold/rules/Piece")) (t' := .int) (by decide) (by decide)))) (((E_a1.wr W2).wr W3).wr W4) (Or.inr ⟨(oW hw 33 rfl), rfl, hnm⟩) (oW hw 13 rfl) (ty := (.object "com/example/sixfold/sixfold/rules/Piece")) (by decide) rfl rfl (g := (mkF m 22 #[.val (.ref a1), .val (.ref a2), .val (.int p3), .val (.int p4), .val (.ref a5), .val (.int p6), .val .null, .val (.ref a8)] [(.ref a5), (.ref a1)])) rfl rfl (hb hby d2_22)
  have O5 := O4.wr W5 g_a1
  have N5 := Fr.snoc X5 N4 g_a1
  have Kp5 : Keep h0 h5 [a1] := Kp4.wr W5 (Or.inl (List.mem_of_getElem? (i := 0) rfl))
  have Fw5 := (((F_captured_a1.other W2 (Or.inr (slot_ne (Or.inr (oW hw 33 rfl)) (Or.inr (oW hw 27 rfl)) (by decide) (t := (.object "com/example/sixfold/sixfold/rules/Piece")) (t' := (.object "com/example/sixfold/sixfold/rules/Piece")) (by decide) (by decide)))).other W3 (Or.inr (slot_ne (Or.inr (oW hw 33 rfl)) (Or.inr (oW hw 29 rfl)) (by decide) (t := (.object "com/example/sixfold/sixfold/rules/Piece")) (t' := .int) (by decide) (by decide)))).other W4 (Or.inr (slot_ne (Or.inr (oW hw 33 rfl)) (Or.inr (oW hw 31 rfl)) (by decide) (t := (.object "com/example/sixfold/sixfold/rules/Piece")) (t' := .int) (by decide) (by decide)))).same W5
  refine oS (fun t k => st5 t k) ?_
  refine oS (fun t k => XS.aloadN X5.here hx rfl (hb hby d2_25) rfl rfl k) ?_
  refine oS (fun t k => XS.iload X5.here hx rfl (hb hby d2_26) rfl k) ?_
  obtain ⟨T6, h6, X6, e6, W6, st6⟩ := putF X5 hx hZ hown (host := "") (Or.inl (oW hw 34 rfl)) Via.refl e5 ((((F_capturedOn_a1.other W2 (Or.inr (slot_ne (Or.inr (oW hw 35 rfl)) (Or.inr (oW hw 27 rfl)) (by decide) (t := .int) (t' := (.object "com/example/sixfold/sixfold/rules/Piece")) (by decide) (by decide)))).other W3 (Or.inr (slot_ne (Or.inr (oW hw 35 rfl)) (Or.inr (oW hw 29 rfl)) (by decide) (t := .int) (t' := .int) (by decide) (by decide)))).other W4 (Or.inr (slot_ne (Or.inr (oW hw 35 rfl)) (Or.inr (oW hw 31 rfl)) (by decide) (t := .int) (t' := .int) (by decide) (by decide)))).other W5 (Or.inr (slot_ne (Or.inr (oW hw 35 rfl)) (Or.inr (oW hw 33 rfl)) (by decide) (t := .int) (t' := (.object "com/example/sixfold/sixfold/rules/Piece")) (by decide) (by decide)))) ((((E_a1.wr W2).wr W3).wr W4).wr W5) (Or.inr ⟨(oW hw 35 rfl), rfl, hnm⟩) (oW hw 13 rfl) (ty := .int) (by decide) rfl rfl (g := (mkF m 28 #[.val (.ref a1), .val (.ref a2), .val (.int p3), .val (.int p4), .val (.ref a5), .val (.int p6), .val .null, .val (.ref a8)] [(.int p6), (.ref a1)])) rfl rfl (hb hby d2_28)
  have O6 := O5.wr W6 g_a1
  have N6 := Fr.snoc X6 N5 g_a1
  have Kp6 : Keep h0 h6 [a1] := Kp5.wr W6 (Or.inl (List.mem_of_getElem? (i := 0) rfl))
  have Fw6 := ((((F_capturedOn_a1.other W2 (Or.inr (slot_ne (Or.inr (oW hw 35 rfl)) (Or.inr (oW hw 27 rfl)) (by decide) (t := .int) (t' := (.object "com/example/sixfold/sixfold/rules/Piece")) (by decide) (by decide)))).other W3 (Or.inr (slot_ne (Or.inr (oW hw 35 rfl)) (Or.inr (oW hw 29 rfl)) (by decide) (t := .int) (t' := .int) (by decide) (by decide)))).other W4 (Or.inr (slot_ne (Or.inr (oW hw 35 rfl)) (Or.inr (oW hw 31 rfl)) (by decide) (t := .int) (t' := .int) (by decide) (by decide)))).other W5 (Or.inr (slot_ne (Or.inr (oW hw 35 rfl)) (Or.inr (oW hw 33 rfl)) (by decide) (t := .int) (t' := (.object "com/example/sixfold/sixfold/rules/Piece")) (by decide) (by decide)))).same W6
  refine oS (fun t k => st6 t k) ?_
  refine oS (fun t k => XS.aloadN X6.here hx rfl (hb hby d2_31) rfl rfl k) ?_
  refine oS (fun t k => XS.aload X6.here hx rfl (hb hby d2_32) rfl rfl k) ?_
  obtain ⟨T7, h7, X7, e7, W7, st7⟩ := putF X6 hx hZ hown (host := "") (Or.inl (oW hw 36 rfl)) Via.refl e6 (((((F_castling_a1.other W2 (Or.inr (slot_ne (Or.inr (oW hw 37 rfl)) (Or.inr (oW hw 27 rfl)) (by decide) (t := (.object "com/example/sixfold/sixfold/rules/Castling")) (t' := (.object "com/example/sixfold/sixfold/rules/Piece")) (by decide) (by decide)))).other W3 (Or.inr (slot_ne (Or.inr (oW hw 37 rfl)) (Or.inr (oW hw 29 rfl)) (by decide) (t := (.object "com/example/sixfold/sixfold/rules/Castling")) (t' := .int) (by decide) (by decide)))).other W4 (Or.inr (slot_ne (Or.inr (oW hw 37 rfl)) (Or.inr (oW hw 31 rfl)) (by decide) (t := (.object "com/example/sixfold/sixfold/rules/Castling")) (t' := .int) (by decide) (by decide)))).other W5 (Or.inr (slot_ne (Or.inr (oW hw 37 rfl)) (Or.inr (oW hw 33 rfl)) (by decide) (t := (.object "com/example/sixfold/sixfold/rules/Castling")) (t' := (.object "com/example/sixfold/sixfold/rules/Piece")) (by decide) (by decide)))).other W6 (Or.inr (slot_ne (Or.inr (oW hw 37 rfl)) (Or.inr (oW hw 35 rfl)) (by decide) (t := (.object "com/example/sixfold/sixfold/rules/Castling")) (t' := .int) (by decide) (by decide)))) (((((E_a1.wr W2).wr W3).wr W4).wr W5).wr W6) (Or.inr ⟨(oW hw 37 rfl), rfl, hnm⟩) (oW hw 13 rfl) (ty := (.object "com/example/sixfold/sixfold/rules/Castling")) (by decide) rfl rfl (g := (mkF m 34 #[.val (.ref a1), .val (.ref a2), .val (.int p3), .val (.int p4), .val (.ref a5), .val (.int p6), .val .null, .val (.ref a8)] [.null, (.ref a1)])) rfl rfl (hb hby d2_34)
  have O7 := O6.wr W7 g_a1
  have N7 := Fr.snoc X7 N6 g_a1
  have Kp7 : Keep h0 h7 [a1] := Kp6.wr W7 (Or.inl (List.mem_of_getElem? (i := 0) rfl))
  have Fw7 := (((((F_castling_a1.other W2 (Or.inr (slot_ne (Or.inr (oW hw 37 rfl)) (Or.inr (oW hw 27 rfl)) (by decide) (t := (.object "com/example/sixfold/sixfold/rules/Castling")) (t' := (.object "com/example/sixfold/sixfold/rules/Piece")) (by decide) (by decide)))).other W3 (Or.inr (slot_ne (Or.inr (oW hw 37 rfl)) (Or.inr (oW hw 29 rfl)) (by decide) (t := (.object "com/example/sixfold/sixfold/rules/Castling")) (t' := .int) (by decide) (by decide)))).other W4 (Or.inr (slot_ne (Or.inr (oW hw 37 rfl)) (Or.inr (oW hw 31 rfl)) (by decide) (t := (.object "com/example/sixfold/sixfold/rules/Castling")) (t' := .int) (by decide) (by decide)))).other W5 (Or.inr (slot_ne (Or.inr (oW hw 37 rfl)) (Or.inr (oW hw 33 rfl)) (by decide) (t := (.object "com/example/sixfold/sixfold/rules/Castling")) (t' := (.object "com/example/sixfold/sixfold/rules/Piece")) (by decide) (by decide)))).other W6 (Or.inr (slot_ne (Or.inr (oW hw 37 rfl)) (Or.inr (oW hw 35 rfl)) (by decide) (t := (.object "com/example/sixfold/sixfold/rules/Castling")) (t' := .int) (by decide) (by decide)))).same W7
  refine oS (fun t k => st7 t k) ?_
  refine oS (fun t k => XS.aloadN X7.here hx rfl (hb hby d2_37) rfl rfl k) ?_
  refine oS (fun t k => XS.aload X7.here hx rfl (hb hby d2_38) rfl rfl k) ?_
  show oG _ _ _ _ _ _ _ (T7.setTop (mkF m 40 #[.val (.ref a1), .val (.ref a2), .val (.int p3), .val (.int p4), .val (.ref a5), .val (.int p6), .val .null, .val (.ref a8)] [(.ref a8), (.ref a1)]))
  obtain ⟨T8, h8, X8, e8, W8, st8⟩ := putF X7 hx hZ hown (host := "") (Or.inl (oW hw 38 rfl)) Via.refl e7 ((((((F_promotion_a1.other W2 (Or.inr (slot_ne (Or.inr (oW hw 39 rfl)) (Or.inr (oW hw 27 rfl)) (by decide) (t := (.object "com/example/sixfold/sixfold/rules/Piece")) (t' := (.object "com/example/sixfold/sixfold/rules/Piece")) (by decide) (by decide)))).other W3 (Or.inr (slot_ne (Or.inr (oW hw 39 rfl)) (Or.inr (oW hw 29 rfl)) (by decide) (t := (.object "com/example/sixfold/sixfold/rules/Piece")) (t' := .int) (by decide) (by decide)))).other W4 (Or.inr (slot_ne (Or.inr (oW hw 39 rfl)) (Or.inr (oW hw 31 rfl)) (by decide) (t := (.object "com/example/sixfold/sixfold/rules/Piece")) (t' := .int) (by decide) (by decide)))).other W5 (Or.inr (slot_ne (Or.inr (oW hw 39 rfl)) (Or.inr (oW hw 33 rfl)) (by decide) (t := (.object "com/example/sixfold/sixfold/rules/Piece")) (t' := (.object "com/example/sixfold/sixfold/rules/Piece")) (by decide) (by decide)))).other W6 (Or.inr (slot_ne (Or.inr (oW hw 39 rfl)) (Or.inr (oW hw 35 rfl)) (by decide) (t := (.object "com/example/sixfold/sixfold/rules/Piece")) (t' := .int) (by decide) (by decide)))).other W7 (Or.inr (slot_ne (Or.inr (oW hw 39 rfl)) (Or.inr (oW hw 37 rfl)) (by decide) (t := (.object "com/example/sixfold/sixfold/rules/Piece")) (t' := (.object "com/example/sixfold/sixfold/rules/Castling")) (by decide) (by decide)))) ((((((E_a1.wr W2).wr W3).wr W4).wr W5).wr W6).wr W7) (Or.inr ⟨(oW hw 39 rfl), rfl, hnm⟩) (oW hw 13 rfl) (ty := (.object "com/example/sixfold/sixfold/rules/Piece")) (by decide) rfl rfl (g := (mkF m 40 #[.val (.ref a1), .val (.ref a2), .val (.int p3), .val (.int p4), .val (.ref a5), .val (.int p6), .val .null, .val (.ref a8)] [(.ref a8), (.ref a1)])) rfl rfl (hb hby d2_40)
  have O8 := O7.wr W8 g_a1
  have N8 := Fr.snoc X8 N7 g_a1
  have Kp8 : Keep h0 h8 [a1] := Kp7.wr W8 (Or.inl (List.mem_of_getElem? (i := 0) rfl))
  have Fw8 := ((((((F_promotion_a1.other W2 (Or.inr (slot_ne (Or.inr (oW hw 39 rfl)) (Or.inr (oW hw 27 rfl)) (by decide) (t := (.object "com/example/sixfold/sixfold/rules/Piece")) (t' := (.object "com/example/sixfold/sixfold/rules/Piece")) (by decide) (by decide)))).other W3 (Or.inr (slot_ne (Or.inr (oW hw 39 rfl)) (Or.inr (oW hw 29 rfl)) (by decide) (t := (.object "com/example/sixfold/sixfold/rules/Piece")) (t' := .int) (by decide) (by decide)))).other W4 (Or.inr (slot_ne (Or.inr (oW hw 39 rfl)) (Or.inr (oW hw 31 rfl)) (by decide) (t := (.object "com/example/sixfold/sixfold/rules/Piece")) (t' := .int) (by decide) (by decide)))).other W5 (Or.inr (slot_ne (Or.inr (oW hw 39 rfl)) (Or.inr (oW hw 33 rfl)) (by decide) (t := (.object "com/example/sixfold/sixfold/rules/Piece")) (t' := (.object "com/example/sixfold/sixfold/rules/Piece")) (by decide) (by decide)))).other W6 (Or.inr (slot_ne (Or.inr (oW hw 39 rfl)) (Or.inr (oW hw 35 rfl)) (by decide) (t := (.object "com/example/sixfold/sixfold/rules/Piece")) (t' := .int) (by decide) (by decide)))).other W7 (Or.inr (slot_ne (Or.inr (oW hw 39 rfl)) (Or.inr (oW hw 37 rfl)) (by decide) (t := (.object "com/example/sixfold/sixfold/rules/Piece")) (t' := (.object "com/example/sixfold/sixfold/rules/Castling")) (by decide) (by decide)))).same W8
  refine oS (fun t k => st8 t k) ?_
  exact own_ret (v := none) X8 (fun _ => rfl) Bd.notSynchronized (fun fs hr => X8.returnOut hx Bd.returns (hb hby d2_43) hr) (by rw [e8]; exact ⟨rfl, N8, Kp8, (((((((E_a1.wr W2).wr W3).wr W4).wr W5).wr W6).wr W7).wr W8), ((((((Fw2.other W3 (Or.inr (slot_ne (Or.inr (oW hw 27 rfl)) (Or.inr (oW hw 29 rfl)) (by decide) (t := (.object "com/example/sixfold/sixfold/rules/Piece")) (t' := .int) (by decide) (by decide)))).other W4 (Or.inr (slot_ne (Or.inr (oW hw 27 rfl)) (Or.inr (oW hw 31 rfl)) (by decide) (t := (.object "com/example/sixfold/sixfold/rules/Piece")) (t' := .int) (by decide) (by decide)))).other W5 (Or.inr (slot_ne (Or.inr (oW hw 27 rfl)) (Or.inr (oW hw 33 rfl)) (by decide) (t := (.object "com/example/sixfold/sixfold/rules/Piece")) (t' := (.object "com/example/sixfold/sixfold/rules/Piece")) (by decide) (by decide)))).other W6 (Or.inr (slot_ne (Or.inr (oW hw 27 rfl)) (Or.inr (oW hw 35 rfl)) (by decide) (t := (.object "com/example/sixfold/sixfold/rules/Piece")) (t' := .int) (by decide) (by decide)))).other W7 (Or.inr (slot_ne (Or.inr (oW hw 27 rfl)) (Or.inr (oW hw 37 rfl)) (by decide) (t := (.object "com/example/sixfold/sixfold/rules/Piece")) (t' := (.object "com/example/sixfold/sixfold/rules/Castling")) (by decide) (by decide)))).other W8 (Or.inr (slot_ne (Or.inr (oW hw 27 rfl)) (Or.inr (oW hw 39 rfl)) (by decide) (t := (.object "com/example/sixfold/sixfold/rules/Piece")) (t' := (.object "com/example/sixfold/sixfold/rules/Piece")) (by decide) (by decide)))), (((((Fw3.other W4 (Or.inr (slot_ne (Or.inr (oW hw 29 rfl)) (Or.inr (oW hw 31 rfl)) (by decide) (t := .int) (t' := .int) (by decide) (by decide)))).other W5 (Or.inr (slot_ne (Or.inr (oW hw 29 rfl)) (Or.inr (oW hw 33 rfl)) (by decide) (t := .int) (t' := (.object "com/example/sixfold/sixfold/rules/Piece")) (by decide) (by decide)))).other W6 (Or.inr (slot_ne (Or.inr (oW hw 29 rfl)) (Or.inr (oW hw 35 rfl)) (by decide) (t := .int) (t' := .int) (by decide) (by decide)))).other W7 (Or.inr (slot_ne (Or.inr (oW hw 29 rfl)) (Or.inr (oW hw 37 rfl)) (by decide) (t := .int) (t' := (.object "com/example/sixfold/sixfold/rules/Castling")) (by decide) (by decide)))).other W8 (Or.inr (slot_ne (Or.inr (oW hw 29 rfl)) (Or.inr (oW hw 39 rfl)) (by decide) (t := .int) (t' := (.object "com/example/sixfold/sixfold/rules/Piece")) (by decide) (by decide)))), ((((Fw4.other W5 (Or.inr (slot_ne (Or.inr (oW hw 31 rfl)) (Or.inr (oW hw 33 rfl)) (by decide) (t := .int) (t' := (.object "com/example/sixfold/sixfold/rules/Piece")) (by decide) (by decide)))).other W6 (Or.inr (slot_ne (Or.inr (oW hw 31 rfl)) (Or.inr (oW hw 35 rfl)) (by decide) (t := .int) (t' := .int) (by decide) (by decide)))).other W7 (Or.inr (slot_ne (Or.inr (oW hw 31 rfl)) (Or.inr (oW hw 37 rfl)) (by decide) (t := .int) (t' := (.object "com/example/sixfold/sixfold/rules/Castling")) (by decide) (by decide)))).other W8 (Or.inr (slot_ne (Or.inr (oW hw 31 rfl)) (Or.inr (oW hw 39 rfl)) (by decide) (t := .int) (t' := (.object "com/example/sixfold/sixfold/rules/Piece")) (by decide) (by decide)))), (((Fw5.other W6 (Or.inr (slot_ne (Or.inr (oW hw 33 rfl)) (Or.inr (oW hw 35 rfl)) (by decide) (t := (.object "com/example/sixfold/sixfold/rules/Piece")) (t' := .int) (by decide) (by decide)))).other W7 (Or.inr (slot_ne (Or.inr (oW hw 33 rfl)) (Or.inr (oW hw 37 rfl)) (by decide) (t := (.object "com/example/sixfold/sixfold/rules/Piece")) (t' := (.object "com/example/sixfold/sixfold/rules/Castling")) (by decide) (by decide)))).other W8 (Or.inr (slot_ne (Or.inr (oW hw 33 rfl)) (Or.inr (oW hw 39 rfl)) (by decide) (t := (.object "com/example/sixfold/sixfold/rules/Piece")) (t' := (.object "com/example/sixfold/sixfold/rules/Piece")) (by decide) (by decide)))), ((Fw6.other W7 (Or.inr (slot_ne (Or.inr (oW hw 35 rfl)) (Or.inr (oW hw 37 rfl)) (by decide) (t := .int) (t' := (.object "com/example/sixfold/sixfold/rules/Castling")) (by decide) (by decide)))).other W8 (Or.inr (slot_ne (Or.inr (oW hw 35 rfl)) (Or.inr (oW hw 39 rfl)) (by decide) (t := .int) (t' := (.object "com/example/sixfold/sixfold/rules/Piece")) (by decide) (by decide)))), (Fw7.other W8 (Or.inr (slot_ne (Or.inr (oW hw 37 rfl)) (Or.inr (oW hw 39 rfl)) (by decide) (t := (.object "com/example/sixfold/sixfold/rules/Castling")) (t' := (.object "com/example/sixfold/sixfold/rules/Piece")) (by decide) (by decide)))), Fw8⟩) (by decide) (by decide)
theorem d5_0 : decode prog_16_method_8_code 0 = .ok (.aload_n 0, 1) := by decide +kernel
theorem d5_1 : decode prog_16_method_8_code 1 = .ok (.getfield 30, 3) := by decide +kernel
theorem d5_4 : decode prog_16_method_8_code 4 = .ok (.ifnonnull 10, 3) := by decide +kernel
theorem d5_14 : decode prog_16_method_8_code 14 = .ok (.aload_n 0, 1) := by decide +kernel
theorem d5_15 : decode prog_16_method_8_code 15 = .ok (.getfield 30, 3) := by decide +kernel
theorem d5_18 : decode prog_16_method_8_code 18 = .ok (.areturn, 1) := by decide +kernel
abbrev mY3 : MethodName := (⟨"com/example/sixfold/sixfold/rules/Move", "landing", "()Lcom/example/sixfold/sixfold/rules/Piece;"⟩ : MethodName)
theorem ef_5_r (m : MethodId) (x0 : Addr) : entryFrame m #[(.ref x0)] 1 = mkF m 0 #[.val (.ref x0)] [] := by first | (simp [entryFrame, mkF, argsToLocals, Value.category]; done) | rfl
def Q_land_1 (Z : State) (a1 : Addr) (a2 : Addr) (h0 : Heap) (n0 : Nat) (v : Option Value) (h : Heap) (L : List Loc) : Prop := v = some (.ref a2) ∧ Fr n0 L ∧ h = h0
set_option maxRecDepth 65536 in
set_option maxHeartbeats 40000000 in
theorem rm_land_1 (l : Launch) (Z : State) (a0 : Array Value) (hw : ∀ d ∈ tables_1, d.before a0 Z = true) (ws : List Jvm.Cond) (a1 : Addr) (a2 : Addr) (h0 : Heap) (n0 : Nat) (O0 : Old Z n0 h0) (F_pro : Fld Z h0 a1 "com/example/sixfold/sixfold/rules/Move" "promotion" "Lcom/example/sixfold/sixfold/rules/Piece;" (.ref a2)) :
    MetFree l mY3 (head1 (Jvm.Cond.code mY3 prog_16_method_8_code 1 (some (.object "com/example/sixfold/sixfold/rules/Piece")) :: ws) ({ frames := 0, cells := 0, slots := 0, locals := 0 } : Room)) (fun a U => a = #[(.ref a1)] ∧ Z.Warmed39 U.vm ∧ U.heap = h0) (fun _ _ _ _ _ => True) (fun _ U o U' => ∃ v L, o = .returned v ∧ Q_land_1 Z a1 a2 h0 n0 v U'.heap L ∧ FrameEnd U o U' L ({ frames := 0, cells := 0, slots := 0, locals := 0 } : Room).cells ({ frames := 0, cells := 0, slots := 0, locals := 0 } : Room).slots) := by
  refine MetFree.of_bodySF (plainFor_of_name pn_2) hisR ?_
  intro p e s m args below meth c s₁ Bd hml0 hP hK
  obtain ⟨rfl, hZ, hh⟩ := hP
  have hx := Bd.exec
  have hby := Bd.bytes
  have hml : c.maxLocals = 1 := hml0
  have hown : s.vm.findClass "com/example/sixfold/sixfold/rules/Move" = some m.cls := findClass_of_methodNamed Bd.named
  have hnm := (name_of_methodNamed Bd.named Bd.method).1
  have X0 : Stand p l e ({ frames := 0, cells := 0, slots := 0, locals := 0 } : Room) s m #[(.ref a1)] below meth c s₁ [] 0 0 := Stand.of_body Bd
  have e0 : s₁.heap = h0 := by rw [← hh, Bd.state]; rfl
  have N0 := Fr.nil n0
  show oG p e below s (Q_land_1 Z a1 a2 h0 n0) ({ frames := 0, cells := 0, slots := 0, locals := 0 } : Room).cells ({ frames := 0, cells := 0, slots := 0, locals := 0 } : Room).slots _
  refine oS (fun t k => castTop (ef_5_r m a1) k) ?_
  show oG _ _ _ _ _ _ _ (s₁.setTop (mkF m 0 #[.val (.ref a1)] []))
  refine oS (fun t k => XS.aloadN X0.here hx rfl (hb hby d5_0) rfl rfl k) ?_
  obtain ⟨T1, X1, e1, st1⟩ := getF X0 hx hZ hown (host := "") (Or.inl (oW hw 38 rfl)) Via.refl e0 F_pro (g := (mkF m 1 #[.val (.ref a1)] [(.ref a1)])) rfl rfl (hb hby d5_1)
  refine oS (fun t k => st1 t k) ?_
  refine oS (fun t k => XS.ifnonnullYes X1.here hx rfl (pc0 := 4) (pc' := 14) rfl (hb hby d5_4) rfl (by decide) (by decide) k) ?_
  refine oS (fun t k => XS.aloadN X1.here hx rfl (hb hby d5_14) rfl rfl k) ?_
  obtain ⟨T2, X2, e2, st2⟩ := getF X1 hx hZ hown (host := "") (Or.inl (oW hw 38 rfl)) Via.refl e1 F_pro (g := (mkF m 15 #[.val (.ref a1)] [(.ref a1)])) rfl rfl (hb hby d5_15)
  refine oS (fun t k => st2 t k) ?_
  exact own_ret (v := some (.ref a2)) X2 (fun h => by rw [Bd.returns] at h; cases h) Bd.notSynchronized (fun fs hr => retOut X2 hx (t := (.object "com/example/sixfold/sixfold/rules/Piece")) Bd.returns rfl (Or.inr (Or.inr (Or.inr (Or.inr ⟨rfl, rfl, rfl⟩)))) (hb hby d5_18) hr) (by rw [e2]; exact ⟨rfl, N0, rfl⟩) (by decide) (by decide)
theorem d5_7 : decode prog_16_method_8_code 7 = .ok (.aload_n 0, 1) := by decide +kernel
theorem d5_8 : decode prog_16_method_8_code 8 = .ok (.getfield 7, 3) := by decide +kernel
theorem d5_11 : decode prog_16_method_8_code 11 = .ok (.goto 7, 3) := by decide +kernel
def Q_land_0 (Z : State) (a1 : Addr) (a2 : Addr) (h0 : Heap) (n0 : Nat) (v : Option Value) (h : Heap) (L : List Loc) : Prop := v = some (.ref a2) ∧ Fr n0 L ∧ h = h0
set_option maxRecDepth 65536 in
set_option maxHeartbeats 40000000 in
theorem rm_land_0 (l : Launch) (Z : State) (a0 : Array Value) (hw : ∀ d ∈ tables_1, d.before a0 Z = true) (ws : List Jvm.Cond) (a1 : Addr) (a2 : Addr) (h0 : Heap) (n0 : Nat) (O0 : Old Z n0 h0) (F_pro : Fld Z h0 a1 "com/example/sixfold/sixfold/rules/Move" "promotion" "Lcom/example/sixfold/sixfold/rules/Piece;" .null) (F_pie : Fld Z h0 a1 "com/example/sixfold/sixfold/rules/Move" "piece" "Lcom/example/sixfold/sixfold/rules/Piece;" (.ref a2)) :
    MetFree l mY3 (head1 (Jvm.Cond.code mY3 prog_16_method_8_code 1 (some (.object "com/example/sixfold/sixfold/rules/Piece")) :: ws) ({ frames := 0, cells := 0, slots := 0, locals := 0 } : Room)) (fun a U => a = #[(.ref a1)] ∧ Z.Warmed39 U.vm ∧ U.heap = h0) (fun _ _ _ _ _ => True) (fun _ U o U' => ∃ v L, o = .returned v ∧ Q_land_0 Z a1 a2 h0 n0 v U'.heap L ∧ FrameEnd U o U' L ({ frames := 0, cells := 0, slots := 0, locals := 0 } : Room).cells ({ frames := 0, cells := 0, slots := 0, locals := 0 } : Room).slots) := by
  refine MetFree.of_bodySF (plainFor_of_name pn_2) hisR ?_
  intro p e s m args below meth c s₁ Bd hml0 hP hK
  obtain ⟨rfl, hZ, hh⟩ := hP
  have hx := Bd.exec
  have hby := Bd.bytes
  have hml : c.maxLocals = 1 := hml0
  have hown : s.vm.findClass "com/example/sixfold/sixfold/rules/Move" = some m.cls := findClass_of_methodNamed Bd.named
  have hnm := (name_of_methodNamed Bd.named Bd.method).1
  have X0 : Stand p l e ({ frames := 0, cells := 0, slots := 0, locals := 0 } : Room) s m #[(.ref a1)] below meth c s₁ [] 0 0 := Stand.of_body Bd
  have e0 : s₁.heap = h0 := by rw [← hh, Bd.state]; rfl
  have N0 := Fr.nil n0
  show oG p e below s (Q_land_0 Z a1 a2 h0 n0) ({ frames := 0, cells := 0, slots := 0, locals := 0 } : Room).cells ({ frames := 0, cells := 0, slots := 0, locals := 0 } : Room).slots _
  refine oS (fun t k => castTop (ef_5_r m a1) k) ?_
  show oG _ _ _ _ _ _ _ (s₁.setTop (mkF m 0 #[.val (.ref a1)] []))
  refine oS (fun t k => XS.aloadN X0.here hx rfl (hb hby d5_0) rfl rfl k) ?_
  obtain ⟨T1, X1, e1, st1⟩ := getF X0 hx hZ hown (host := "") (Or.inl (oW hw 38 rfl)) Via.refl e0 F_pro (g := (mkF m 1 #[.val (.ref a1)] [(.ref a1)])) rfl rfl (hb hby d5_1)
  refine oS (fun t k => st1 t k) ?_
  refine oS (fun t k => XS.ifnonnullNo X1.here hx rfl (hb hby d5_4) rfl k) ?_
  refine oS (fun t k => XS.aloadN X1.here hx rfl (hb hby d5_7) rfl rfl k) ?_
  obtain ⟨T2, X2, e2, st2⟩ := getF X1 hx hZ hown (host := "") (Or.inl (oW hw 26 rfl)) Via.refl e1 F_pie (g := (mkF m 8 #[.val (.ref a1)] [(.ref a1)])) rfl rfl (hb hby d5_8)
  refine oS (fun t k => st2 t k) ?_
  refine oS (fun t k => XS.goto X2.here hx rfl (pc0 := 11) (pc' := 18) rfl (hb hby d5_11) (by decide) (by decide) k) ?_
  exact own_ret (v := some (.ref a2)) X2 (fun h => by rw [Bd.returns] at h; cases h) Bd.notSynchronized (fun fs hr => retOut X2 hx (t := (.object "com/example/sixfold/sixfold/rules/Piece")) Bd.returns rfl (Or.inr (Or.inr (Or.inr (Or.inr ⟨rfl, rfl, rfl⟩)))) (hb hby d5_18) hr) (by rw [e2]; exact ⟨rfl, N0, rfl⟩) (by decide) (by decide)
theorem pd_1 : parseMethodDescriptor "(I)Lcom/example/sixfold/sixfold/rules/Piece;" = some ⟨[.int], some (.object "com/example/sixfold/sixfold/rules/Piece")⟩ := by decide +kernel
theorem pd_2 : parseMethodDescriptor "(Lcom/example/sixfold/sixfold/rules/Piece;IILcom/example/sixfold/sixfold/rules/Piece;ILcom/example/sixfold/sixfold/rules/Castling;Lcom/example/sixfold/sixfold/rules/Piece;)V" = some ⟨[(.object "com/example/sixfold/sixfold/rules/Piece"), .int, .int, (.object "com/example/sixfold/sixfold/rules/Piece"), .int, (.object "com/example/sixfold/sixfold/rules/Castling"), (.object "com/example/sixfold/sixfold/rules/Piece")], none⟩ := by decide +kernel
theorem pd_3 : parseMethodDescriptor "()Lcom/example/sixfold/sixfold/rules/Piece;" = some ⟨[], some (.object "com/example/sixfold/sixfold/rules/Piece")⟩ := by decide +kernel
theorem ef_0_iiiiii (m : MethodId) (x0 : Int32) (x1 : Int32) (x2 : Int32) (x3 : Int32) (x4 : Int32) (x5 : Int32) : entryFrame m #[(.int x0), (.int x1), (.int x2), (.int x3), (.int x4), (.int x5)] maxLocals = mkF m 0 #[.val (.int x0), .val (.int x1), .val (.int x2), .val (.int x3), .val (.int x4), .val (.int x5), .unset, .unset, .unset, .unset, .unset, .unset, .unset] [] := by first | (simp [entryFrame, mkF, argsToLocals, Value.category, maxLocals]; done) | rfl
def Q_law (Z : State) (p1 : Int32) (p2 : Int32) (p3 : Int32) (p4 : Int32) (p5 : Int32) (p6 : Int32) (w : Nat → Addr) (h0 : Heap) (n0 : Nat) (v : Option Value) (h : Heap) (L : List Loc) : Prop := v = some (.int 1) ∧ Fr n0 L
set_option maxRecDepth 65536 in
set_option maxHeartbeats 40000000 in
theorem rm_law (l : Launch) (Z : State) (a0 : Array Value) (hw : ∀ d ∈ tables_1, d.before a0 Z = true) (ws : List Jvm.Cond) (p1 : Int32) (p2 : Int32) (p3 : Int32) (p4 : Int32) (p5 : Int32) (p6 : Int32) (w : Nat → Addr) (h0 : Heap) (n0 : Nat) (O0 : Old Z n0 h0) (W : own_World Z w) :
    MetFree l x (head1 (Jvm.Cond.code x code maxLocals ret :: ws) room_1) (fun a U => a = #[(.int p1), (.int p2), (.int p3), (.int p4), (.int p5), (.int p6)] ∧ Z.Warmed39 U.vm ∧ U.heap = h0) (fun _ _ _ _ _ => True) (fun _ U o U' => ∃ v L, o = .returned v ∧ Q_law Z p1 p2 p3 p4 p5 p6 w h0 n0 v U'.heap L ∧ FrameEnd U o U' L room_1.cells room_1.slots) := by
  refine MetFree.of_bodySF (plainFor_of_name pn_0) hisR ?_
  intro p e s m args below meth c s₁ Bd hml0 hP hK
  obtain ⟨rfl, hZ, hh⟩ := hP
  have hx := Bd.exec
  have hby := Bd.bytes
  have hml : c.maxLocals = 13 := hml0
  have hown : s.vm.findClass "com/example/sixfold/sixfold/rules/MoveLandingPinLaw" = some m.cls := findClass_of_methodNamed Bd.named
  have hnm := (name_of_methodNamed Bd.named Bd.method).1
  have X0 : Stand p l e room_1 s m #[(.int p1), (.int p2), (.int p3), (.int p4), (.int p5), (.int p6)] below meth c s₁ [] 0 0 := Stand.of_body Bd
  have e0 : s₁.heap = h0 := by rw [← hh, Bd.state]; rfl
  have N0 := Fr.nil n0
  show oG p e below s (Q_law Z p1 p2 p3 p4 p5 p6 w h0 n0) room_1.cells room_1.slots _
  refine oS (fun t k => castTop (ef_0_iiiiii m p1 p2 p3 p4 p5 p6) k) ?_
  show oG _ _ _ _ _ _ _ (s₁.setTop (mkF m 0 #[.val (.int p1), .val (.int p2), .val (.int p3), .val (.int p4), .val (.int p5), .val (.int p6), .unset, .unset, .unset, .unset, .unset, .unset, .unset] []))
  refine oS (fun t k => XS.iload X0.here hx rfl (hb hby at_0) rfl k) ?_
  refine oS (fun t k => XS.iconst X0.here hx rfl (hb hby at_2) k) ?_
  refine oS (fun t k => XS.iand X0.here hx rfl (hb hby at_3) rfl k) ?_
  by_cases hc4 : (p6 &&& (1 : Int32)) = (0 : Int32)
  · refine oS (fun t k => XS.ifYes X0.here hx rfl (pc0 := 4) (pc' := 11) rfl (hb hby at_4) rfl ((if0 _ _).trans (teq hc4).1) (by decide) (by decide) k) ?_
    refine oS (fun t k => XS.iconst X0.here hx rfl (hb hby at_11) k) ?_
    refine oS (fun t k => XS.istore X0.here hx rfl (hb hby at_12) rfl (l' := #[.val (.int p1), .val (.int p2), .val (.int p3), .val (.int p4), .val (.int p5), .val (.int p6), .val (.int 0), .unset, .unset, .unset, .unset, .unset, .unset]) rfl k) ?_
    refine oS (fun t k => XS.iload X0.here hx rfl (hb hby at_14) rfl k) ?_
    refine oS (fun t k => XS.iconst X0.here hx rfl (hb hby at_16) k) ?_
    refine oS (fun t k => XS.iand X0.here hx rfl (hb hby at_17) rfl k) ?_
    by_cases hc18 : (p6 &&& (2 : Int32)) = (0 : Int32)
    · refine oS (fun t k => XS.ifYes X0.here hx rfl (pc0 := 18) (pc' := 25) rfl (hb hby at_18) rfl ((if0 _ _).trans (teq hc18).1) (by decide) (by decide) k) ?_
      show oG _ _ _ _ _ _ _ (s₁.setTop (mkF m 25 #[.val (.int p1), .val (.int p2), .val (.int p3), .val (.int p4), .val (.int p5), .val (.int p6), .val (.int 0), .unset, .unset, .unset, .unset, .unset, .unset] []))
      refine oS (fun t k => XS.iconst X0.here hx rfl (hb hby at_25) k) ?_
      refine oS (fun t k => XS.istore X0.here hx rfl (hb hby at_26) rfl (l' := #[.val (.int p1), .val (.int p2), .val (.int p3), .val (.int p4), .val (.int p5), .val (.int p6), .val (.int 0), .val (.int 0), .unset, .unset, .unset, .unset, .unset]) rfl k) ?_
      refine oS (fun t k => XS.iloadN X0.here hx rfl (hb hby at_28) rfl k) ?_
      obtain ⟨_, _, ⟨T1, L1, k1, n1⟩, -, X1, ⟨Lc1, hQ1, l1, y1, z1⟩, st1⟩ := Jvm.LawKit.callS X0 hx (y := mY0) hown (mvT hZ (oW hw 0 rfl)) (mvT hZ (oW hw 1 rfl)) (mvT hZ (oW hw 2 rfl)) (mvT hZ (oW hw 3 rfl)) (by decide) (backOf (W := 0) (rm_pick l Z a0 hw [] p1 w h0 n0 O0 W ) hZ (oW hw 3 rfl) (oW hw 2 rfl) (by decide) (by decide)) (g := (mkF m 29 #[.val (.int p1), .val (.int p2), .val (.int p3), .val (.int p4), .val (.int p5), .val (.int p6), .val (.int 0), .val (.int 0), .unset, .unset, .unset, .unset, .unset] [(.int p1)])) rfl (by rw [hml]; rfl) (argsL := [(.int p1)]) (rest := []) (lenOf pd_1 rfl) rfl (by show 2 * 0 + _ ≤ _; exact Nat.le_of_eq rfl) (hb hby at_29) (fun _ _ => ⟨rfl, e0, (by decide : 0 + 0 ≤ _), (by decide : 0 + 0 ≤ _)⟩)
      dsimp only [Pt.U, Pt.locs, Pt.cells, Pt.slots] at X1 l1 y1 z1 st1 hQ1
      subst l1 y1 z1
      obtain ⟨rfl, Nq1, e1⟩ := hQ1
      have N1 := Fr.app N0 Nq1
      refine oS (fun t k => st1 t k) ?_
      show oG _ _ _ _ _ _ _ (T1.setTop (mkF m 32 #[.val (.int p1), .val (.int p2), .val (.int p3), .val (.int p4), .val (.int p5), .val (.int p6), .val (.int 0), .val (.int 0), .unset, .unset, .unset, .unset, .unset] [(.ref (own_pick w ((p1 &&& (2147483647 : Int32)) % (12 : Int32))))]))
      refine oS (fun t k => XS.astore X1.here hx rfl (hb hby at_32) rfl rfl (l' := #[.val (.int p1), .val (.int p2), .val (.int p3), .val (.int p4), .val (.int p5), .val (.int p6), .val (.int 0), .val (.int 0), .val (.ref (own_pick w ((p1 &&& (2147483647 : Int32)) % (12 : Int32)))), .unset, .unset, .unset, .unset]) rfl k) ?_
      refine oS (fun t k => XS.iload X1.here hx rfl (hb hby at_34) rfl k) ?_
      refine oS (fun t k => XS.ifYes X1.here hx rfl (pc0 := 36) (pc' := 46) rfl (hb hby at_36) rfl ((if0 _ _).trans (teq (by decide)).1) (by decide) (by decide) k) ?_
      refine oS (fun t k => XS.aconstNull X1.here hx rfl (hb hby at_46) k) ?_
      refine oS (fun t k => XS.astore X1.here hx rfl (hb hby at_47) rfl rfl (l' := #[.val (.int p1), .val (.int p2), .val (.int p3), .val (.int p4), .val (.int p5), .val (.int p6), .val (.int 0), .val (.int 0), .val (.ref (own_pick w ((p1 &&& (2147483647 : Int32)) % (12 : Int32)))), .val .null, .unset, .unset, .unset]) rfl k) ?_
      refine oS (fun t k => XS.iload X1.here hx rfl (hb hby at_49) rfl k) ?_
      refine oS (fun t k => XS.ifYes X1.here hx rfl (pc0 := 51) (pc' := 61) rfl (hb hby at_51) rfl ((if0 _ _).trans (teq (by decide)).1) (by decide) (by decide) k) ?_
      refine oS (fun t k => XS.aconstNull X1.here hx rfl (hb hby at_61) k) ?_
      refine oS (fun t k => XS.astore X1.here hx rfl (hb hby at_62) rfl rfl (l' := #[.val (.int p1), .val (.int p2), .val (.int p3), .val (.int p4), .val (.int p5), .val (.int p6), .val (.int 0), .val (.int 0), .val (.ref (own_pick w ((p1 &&& (2147483647 : Int32)) % (12 : Int32)))), .val .null, .val .null, .unset, .unset]) rfl k) ?_
      obtain ⟨T2, h2, X2, e2, E2, A2, D2, -, st2⟩ := newO X1 hx hZ hown (oW hw 12 rfl) (oW hw 13 rfl) (oW hw 14 rfl) e1 (g := (mkF m 64 #[.val (.int p1), .val (.int p2), .val (.int p3), .val (.int p4), .val (.int p5), .val (.int p6), .val (.int 0), .val (.int 0), .val (.ref (own_pick w ((p1 &&& (2147483647 : Int32)) % (12 : Int32)))), .val .null, .val .null, .unset, .unset] [])) rfl (hb hby at_64) (by decide) (by decide)
      obtain ⟨b2, g2⟩ : ∃ z, z = h0.size := ⟨_, rfl⟩
      rw [← g2] at A2 D2 st2
      have gx2 : n0 ≤ b2 := Nat.le_trans (O0.1 ▸ O0.2.1) (Nat.le_of_eq g2.symm)
      have O2 := O0.ext E2
      have F_piece_b2 : Fld Z h2 b2 "com/example/sixfold/sixfold/rules/Move" "piece" "Lcom/example/sixfold/sixfold/rules/Piece;" .null := D2 (Or.inr (oW hw 27 rfl)) (ty := (.object "com/example/sixfold/sixfold/rules/Piece")) (by decide)
      have F_from_b2 : Fld Z h2 b2 "com/example/sixfold/sixfold/rules/Move" "from" "I" (.int 0) := D2 (Or.inr (oW hw 29 rfl)) (ty := .int) (by decide)
      have F_to_b2 : Fld Z h2 b2 "com/example/sixfold/sixfold/rules/Move" "to" "I" (.int 0) := D2 (Or.inr (oW hw 31 rfl)) (ty := .int) (by decide)
      have F_captured_b2 : Fld Z h2 b2 "com/example/sixfold/sixfold/rules/Move" "captured" "Lcom/example/sixfold/sixfold/rules/Piece;" .null := D2 (Or.inr (oW hw 33 rfl)) (ty := (.object "com/example/sixfold/sixfold/rules/Piece")) (by decide)
      have F_capturedOn_b2 : Fld Z h2 b2 "com/example/sixfold/sixfold/rules/Move" "capturedOn" "I" (.int 0) := D2 (Or.inr (oW hw 35 rfl)) (ty := .int) (by decide)
      have F_castling_b2 : Fld Z h2 b2 "com/example/sixfold/sixfold/rules/Move" "castling" "Lcom/example/sixfold/sixfold/rules/Castling;" .null := D2 (Or.inr (oW hw 37 rfl)) (ty := (.object "com/example/sixfold/sixfold/rules/Castling")) (by decide)
      have F_promotion_b2 : Fld Z h2 b2 "com/example/sixfold/sixfold/rules/Move" "promotion" "Lcom/example/sixfold/sixfold/rules/Piece;" .null := D2 (Or.inr (oW hw 39 rfl)) (ty := (.object "com/example/sixfold/sixfold/rules/Piece")) (by decide)
      refine oS (fun t k => st2 t k) ?_
      show oG _ _ _ _ _ _ _ (T2.setTop (mkF m 67 #[.val (.int p1), .val (.int p2), .val (.int p3), .val (.int p4), .val (.int p5), .val (.int p6), .val (.int 0), .val (.int 0), .val (.ref (own_pick w ((p1 &&& (2147483647 : Int32)) % (12 : Int32)))), .val .null, .val .null, .unset, .unset] [(.ref b2)]))
      refine oS (fun t k => XS.dup X2.here hx rfl (hb hby at_67) rfl rfl k) ?_
      refine oS (fun t k => XS.aload X2.here hx rfl (hb hby at_68) rfl rfl k) ?_
      refine oS (fun t k => XS.iloadN X2.here hx rfl (hb hby at_70) rfl k) ?_
      refine oS (fun t k => XS.iload X2.here hx rfl (hb hby at_71) rfl k) ?_
      refine oS (fun t k => XS.aload X2.here hx rfl (hb hby at_73) rfl rfl k) ?_
      refine oS (fun t k => XS.iloadN X2.here hx rfl (hb hby at_75) rfl k) ?_
      refine oS (fun t k => XS.aconstNull X2.here hx rfl (hb hby at_76) k) ?_
      refine oS (fun t k => XS.aload X2.here hx rfl (hb hby at_77) rfl rfl k) ?_
      obtain ⟨_, _, ⟨T3, L3, k3, n3⟩, -, X3, ⟨Lc3, hQ3, l3, y3, z3⟩, st3⟩ := X2.specialBack hx (y := mY2) rfl hown (mvT hZ (oW hw 15 rfl)) (mvT hZ (oW hw 16 rfl)) (mvT hZ (oW hw 17 rfl)) (by decide) (backOf (W := 1) (rm_init_00 l Z a0 hw [] b2 (own_pick w ((p1 &&& (2147483647 : Int32)) % (12 : Int32))) p4 p5 p3 .null (.int 0) (.int 0) .null (.int 0) .null .null w h2 n0 O2 W A2 gx2 F_piece_b2 F_from_b2 F_to_b2 F_captured_b2 F_capturedOn_b2 F_castling_b2 F_promotion_b2) hZ (oW hw 17 rfl) (oW hw 14 rfl) (by decide) (by decide)) (g := (mkF m 79 #[.val (.int p1), .val (.int p2), .val (.int p3), .val (.int p4), .val (.int p5), .val (.int p6), .val (.int 0), .val (.int 0), .val (.ref (own_pick w ((p1 &&& (2147483647 : Int32)) % (12 : Int32)))), .val .null, .val .null, .unset, .unset] [.null, .null, (.int p3), .null, (.int p5), (.int p4), (.ref (own_pick w ((p1 &&& (2147483647 : Int32)) % (12 : Int32)))), (.ref b2), (.ref b2)])) rfl (by rw [hml]; rfl) (Steps.refl _) (a := b2) (argsL := [(.ref (own_pick w ((p1 &&& (2147483647 : Int32)) % (12 : Int32)))), (.int p4), (.int p5), .null, (.int p3), .null, .null]) (rest := [(.ref b2)]) (lenOf pd_2 rfl) rfl (by show 2 * 0 + _ ≤ _; exact Nat.le_of_eq rfl) (hb hby at_79) (fun _ _ => ⟨rfl, e2, (by decide : 1 + 0 ≤ _), (by decide : 7 + 0 ≤ _)⟩)
      dsimp only [Pt.U, Pt.locs, Pt.cells, Pt.slots] at X3 l3 y3 z3 st3 hQ3
      subst l3 y3 z3
      obtain ⟨rfl, Nq3, K3, P3_0, P3_1, P3_2, P3_3, P3_4, P3_5, P3_6, P3_7⟩ := hQ3
      have N3 := Fr.app N1 Nq3
      have O3 := O2.keep K3 (allS gx2 all0)
      refine oS (fun t k => st3.trans k) ?_
      show oG _ _ _ _ _ _ _ (T3.setTop (mkF m 82 #[.val (.int p1), .val (.int p2), .val (.int p3), .val (.int p4), .val (.int p5), .val (.int p6), .val (.int 0), .val (.int 0), .val (.ref (own_pick w ((p1 &&& (2147483647 : Int32)) % (12 : Int32)))), .val .null, .val .null, .unset, .unset] [(.ref b2)]))
      refine oS (fun t k => XS.astore X3.here hx rfl (hb hby at_82) rfl rfl (l' := #[.val (.int p1), .val (.int p2), .val (.int p3), .val (.int p4), .val (.int p5), .val (.int p6), .val (.int 0), .val (.int 0), .val (.ref (own_pick w ((p1 &&& (2147483647 : Int32)) % (12 : Int32)))), .val .null, .val .null, .val (.ref b2), .unset]) rfl k) ?_
      refine oS (fun t k => XS.aload X3.here hx rfl (hb hby at_84) rfl rfl k) ?_
      obtain ⟨cq4, kq4, q4a, q4b, q4c⟩ := isOf hZ rfl P3_0
      obtain ⟨_, _, ⟨T4, L4, k4, n4⟩, -, X4, ⟨Lc4, hQ4, l4, y4, z4⟩, st4⟩ := X3.virtualBack hx (y := mY3) (z := mY3) hown (mvT hZ (oW hw 40 rfl)) (mvT hZ (oW hw 41 rfl)) (notFace_of_selects (args := #[]) (mvT hZ (oW hw 43 rfl))) (mvT hZ (oW hw 43 rfl)) (mvT hZ (oW hw 42 rfl)) (by decide) (backOf (W := 0) (rm_land_0 l Z a0 hw [] b2 (own_pick w ((p1 &&& (2147483647 : Int32)) % (12 : Int32)))  T3.heap n0 O3  P3_7 P3_1) hZ (oW hw 44 rfl) (oW hw 14 rfl) (by decide) (by decide)) q4a q4c (g := (mkF m 86 #[.val (.int p1), .val (.int p2), .val (.int p3), .val (.int p4), .val (.int p5), .val (.int p6), .val (.int 0), .val (.int 0), .val (.ref (own_pick w ((p1 &&& (2147483647 : Int32)) % (12 : Int32)))), .val .null, .val .null, .val (.ref b2), .unset] [(.ref b2)])) rfl (by rw [hml]; rfl) (Steps.refl _) (argsL := []) (rest := []) (lenOf pd_3 rfl) rfl (by show 2 * 0 + _ ≤ _; exact Nat.le_of_eq rfl) (hb hby at_86) (fun _ _ => ⟨rfl, rfl, (by decide : 1 + 0 ≤ _), (by decide : 7 + 0 ≤ _)⟩)
      dsimp only [Pt.U, Pt.locs, Pt.cells, Pt.slots] at X4 l4 y4 z4 st4 hQ4
      subst l4 y4 z4
      obtain ⟨rfl, Nq4, e4⟩ := hQ4
      have N4 := Fr.app N3 Nq4
      refine oS (fun t k => st4.trans k) ?_
      show oG _ _ _ _ _ _ _ (T4.setTop (mkF m 89 #[.val (.int p1), .val (.int p2), .val (.int p3), .val (.int p4), .val (.int p5), .val (.int p6), .val (.int 0), .val (.int 0), .val (.ref (own_pick w ((p1 &&& (2147483647 : Int32)) % (12 : Int32)))), .val .null, .val .null, .val (.ref b2), .unset] [(.ref (own_pick w ((p1 &&& (2147483647 : Int32)) % (12 : Int32))))]))
      refine oS (fun t k => XS.astore X4.here hx rfl (hb hby at_89) rfl rfl (l' := #[.val (.int p1), .val (.int p2), .val (.int p3), .val (.int p4), .val (.int p5), .val (.int p6), .val (.int 0), .val (.int 0), .val (.ref (own_pick w ((p1 &&& (2147483647 : Int32)) % (12 : Int32)))), .val .null, .val .null, .val (.ref b2), .val (.ref (own_pick w ((p1 &&& (2147483647 : Int32)) % (12 : Int32))))]) rfl k) ?_
      refine oS (fun t k => XS.iload X4.here hx rfl (hb hby at_91) rfl k) ?_
      refine oS (fun t k => XS.ifYes X4.here hx rfl (pc0 := 93) (pc' := 111) rfl (hb hby at_93) rfl ((if0 _ _).trans (teq (by decide)).1) (by decide) (by decide) k) ?_
      refine oS (fun t k => XS.aload X4.here hx rfl (hb hby at_111) rfl rfl k) ?_
      refine oS (fun t k => XS.iloadN X4.here hx rfl (hb hby at_113) rfl k) ?_
      obtain ⟨_, _, ⟨T5, L5, k5, n5⟩, -, X5, ⟨Lc5, hQ5, l5, y5, z5⟩, st5⟩ := Jvm.LawKit.callS X4 hx (y := mY0) hown (mvT hZ (oW hw 0 rfl)) (mvT hZ (oW hw 1 rfl)) (mvT hZ (oW hw 2 rfl)) (mvT hZ (oW hw 3 rfl)) (by decide) (backOf (W := 1) (rm_pick l Z a0 hw [] p1 w T3.heap n0 O3 W ) hZ (oW hw 3 rfl) (oW hw 2 rfl) (by decide) (by decide)) (g := (mkF m 114 #[.val (.int p1), .val (.int p2), .val (.int p3), .val (.int p4), .val (.int p5), .val (.int p6), .val (.int 0), .val (.int 0), .val (.ref (own_pick w ((p1 &&& (2147483647 : Int32)) % (12 : Int32)))), .val .null, .val .null, .val (.ref b2), .val (.ref (own_pick w ((p1 &&& (2147483647 : Int32)) % (12 : Int32))))] [(.int p1), (.ref (own_pick w ((p1 &&& (2147483647 : Int32)) % (12 : Int32))))])) rfl (by rw [hml]; rfl) (argsL := [(.int p1)]) (rest := [(.ref (own_pick w ((p1 &&& (2147483647 : Int32)) % (12 : Int32))))]) (lenOf pd_1 rfl) rfl (by show 2 * 0 + _ ≤ _; exact Nat.le_of_eq rfl) (hb hby at_114) (fun _ _ => ⟨rfl, e4, (by decide : 1 + 0 ≤ _), (by decide : 7 + 0 ≤ _)⟩)
      dsimp only [Pt.U, Pt.locs, Pt.cells, Pt.slots] at X5 l5 y5 z5 st5 hQ5
      subst l5 y5 z5
      obtain ⟨rfl, Nq5, e5⟩ := hQ5
      have N5 := Fr.app N4 Nq5
      refine oS (fun t k => st5 t k) ?_
      show oG _ _ _ _ _ _ _ (T5.setTop (mkF m 117 #[.val (.int p1), .val (.int p2), .val (.int p3), .val (.int p4), .val (.int p5), .val (.int p6), .val (.int 0), .val (.int 0), .val (.ref (own_pick w ((p1 &&& (2147483647 : Int32)) % (12 : Int32)))), .val .null, .val .null, .val (.ref b2), .val (.ref (own_pick w ((p1 &&& (2147483647 : Int32)) % (12 : Int32))))] [(.ref (own_pick w ((p1 &&& (2147483647 : Int32)) % (12 : Int32)))), (.ref (own_pick w ((p1 &&& (2147483647 : Int32)) % (12 : Int32))))]))
      refine oS (fun t k => Jvm.RoadKit.acmp (g := (mkF m 117 #[.val (.int p1), .val (.int p2), .val (.int p3), .val (.int p4), .val (.int p5), .val (.int p6), .val (.int 0), .val (.int 0), .val (.ref (own_pick w ((p1 &&& (2147483647 : Int32)) % (12 : Int32)))), .val .null, .val .null, .val (.ref b2), .val (.ref (own_pick w ((p1 &&& (2147483647 : Int32)) % (12 : Int32))))] [(.ref (own_pick w ((p1 &&& (2147483647 : Int32)) % (12 : Int32)))), (.ref (own_pick w ((p1 &&& (2147483647 : Int32)) % (12 : Int32))))])) X5 hx rfl rfl rfl (pc0 := 117) (pc' := 120) (same := true) rfl (hb hby at_117) rfl (decide_eq_true rfl) (by decide) (by decide) k) ?_
      refine oS (fun t k => XS.iconst X5.here hx rfl (hb hby at_120) k) ?_
      refine oS (fun t k => XS.goto X5.here hx rfl (pc0 := 121) (pc' := 125) rfl (hb hby at_121) (by decide) (by decide) k) ?_
      exact own_ret (v := some (.int 1)) X5 (fun h => by rw [Bd.returns] at h; cases h) Bd.notSynchronized (fun fs hr => retN X5 hx (t := .boolean) Bd.returns (by simp) (hb hby at_125) hr) (by rw [e5]; exact ⟨rfl, N5⟩) (by decide) (by decide)
    · refine oS (fun t k => XS.ifNo X0.here hx rfl (hb hby at_18) rfl ((if0 _ _).trans (feq hc18).1) k) ?_
      show oG _ _ _ _ _ _ _ (s₁.setTop (mkF m 21 #[.val (.int p1), .val (.int p2), .val (.int p3), .val (.int p4), .val (.int p5), .val (.int p6), .val (.int 0), .unset, .unset, .unset, .unset, .unset, .unset] []))
      refine oS (fun t k => XS.iconst X0.here hx rfl (hb hby at_21) k) ?_
      refine oS (fun t k => XS.goto X0.here hx rfl (pc0 := 22) (pc' := 26) rfl (hb hby at_22) (by decide) (by decide) k) ?_
      refine oS (fun t k => XS.istore X0.here hx rfl (hb hby at_26) rfl (l' := #[.val (.int p1), .val (.int p2), .val (.int p3), .val (.int p4), .val (.int p5), .val (.int p6), .val (.int 0), .val (.int 1), .unset, .unset, .unset, .unset, .unset]) rfl k) ?_
      refine oS (fun t k => XS.iloadN X0.here hx rfl (hb hby at_28) rfl k) ?_
      obtain ⟨_, _, ⟨T6, L6, k6, n6⟩, -, X6, ⟨Lc6, hQ6, l6, y6, z6⟩, st6⟩ := Jvm.LawKit.callS X0 hx (y := mY0) hown (mvT hZ (oW hw 0 rfl)) (mvT hZ (oW hw 1 rfl)) (mvT hZ (oW hw 2 rfl)) (mvT hZ (oW hw 3 rfl)) (by decide) (backOf (W := 0) (rm_pick l Z a0 hw [] p1 w h0 n0 O0 W ) hZ (oW hw 3 rfl) (oW hw 2 rfl) (by decide) (by decide)) (g := (mkF m 29 #[.val (.int p1), .val (.int p2), .val (.int p3), .val (.int p4), .val (.int p5), .val (.int p6), .val (.int 0), .val (.int 1), .unset, .unset, .unset, .unset, .unset] [(.int p1)])) rfl (by rw [hml]; rfl) (argsL := [(.int p1)]) (rest := []) (lenOf pd_1 rfl) rfl (by show 2 * 0 + _ ≤ _; exact Nat.le_of_eq rfl) (hb hby at_29) (fun _ _ => ⟨rfl, e0, (by decide : 0 + 0 ≤ _), (by decide : 0 + 0 ≤ _)⟩)
      dsimp only [Pt.U, Pt.locs, Pt.cells, Pt.slots] at X6 l6 y6 z6 st6 hQ6
      subst l6 y6 z6
      obtain ⟨rfl, Nq6, e6⟩ := hQ6
      have N6 := Fr.app N0 Nq6
      refine oS (fun t k => st6 t k) ?_
      show oG _ _ _ _ _ _ _ (T6.setTop (mkF m 32 #[.val (.int p1), .val (.int p2), .val (.int p3), .val (.int p4), .val (.int p5), .val (.int p6), .val (.int 0), .val (.int 1), .unset, .unset, .unset, .unset, .unset] [(.ref (own_pick w ((p1 &&& (2147483647 : Int32)) % (12 : Int32))))]))
      refine oS (fun t k => XS.astore X6.here hx rfl (hb hby at_32) rfl rfl (l' := #[.val (.int p1), .val (.int p2), .val (.int p3), .val (.int p4), .val (.int p5), .val (.int p6), .val (.int 0), .val (.int 1), .val (.ref (own_pick w ((p1 &&& (2147483647 : Int32)) % (12 : Int32)))), .unset, .unset, .unset, .unset]) rfl k) ?_
      refine oS (fun t k => XS.iload X6.here hx rfl (hb hby at_34) rfl k) ?_
      refine oS (fun t k => XS.ifYes X6.here hx rfl (pc0 := 36) (pc' := 46) rfl (hb hby at_36) rfl ((if0 _ _).trans (teq (by decide)).1) (by decide) (by decide) k) ?_
      refine oS (fun t k => XS.aconstNull X6.here hx rfl (hb hby at_46) k) ?_
      refine oS (fun t k => XS.astore X6.here hx rfl (hb hby at_47) rfl rfl (l' := #[.val (.int p1), .val (.int p2), .val (.int p3), .val (.int p4), .val (.int p5), .val (.int p6), .val (.int 0), .val (.int 1), .val (.ref (own_pick w ((p1 &&& (2147483647 : Int32)) % (12 : Int32)))), .val .null, .unset, .unset, .unset]) rfl k) ?_
      refine oS (fun t k => XS.iload X6.here hx rfl (hb hby at_49) rfl k) ?_
      refine oS (fun t k => XS.ifNo X6.here hx rfl (hb hby at_51) rfl ((if0 _ _).trans (feq (by decide)).1) k) ?_
      refine oS (fun t k => XS.iloadN X6.here hx rfl (hb hby at_54) rfl k) ?_
      obtain ⟨_, _, ⟨T7, L7, k7, n7⟩, -, X7, ⟨Lc7, hQ7, l7, y7, z7⟩, st7⟩ := Jvm.LawKit.callS X6 hx (y := mY0) hown (mvT hZ (oW hw 0 rfl)) (mvT hZ (oW hw 1 rfl)) (mvT hZ (oW hw 2 rfl)) (mvT hZ (oW hw 3 rfl)) (by decide) (backOf (W := 0) (rm_pick l Z a0 hw [] p3 w h0 n0 O0 W ) hZ (oW hw 3 rfl) (oW hw 2 rfl) (by decide) (by decide)) (g := (mkF m 55 #[.val (.int p1), .val (.int p2), .val (.int p3), .val (.int p4), .val (.int p5), .val (.int p6), .val (.int 0), .val (.int 1), .val (.ref (own_pick w ((p1 &&& (2147483647 : Int32)) % (12 : Int32)))), .val .null, .unset, .unset, .unset] [(.int p3)])) rfl (by rw [hml]; rfl) (argsL := [(.int p3)]) (rest := []) (lenOf pd_1 rfl) rfl (by show 2 * 0 + _ ≤ _; exact Nat.le_of_eq rfl) (hb hby at_55) (fun _ _ => ⟨rfl, e6, (by decide : 0 + 0 ≤ _), (by decide : 0 + 0 ≤ _)⟩)
      dsimp only [Pt.U, Pt.locs, Pt.cells, Pt.slots] at X7 l7 y7 z7 st7 hQ7
      subst l7 y7 z7
      obtain ⟨rfl, Nq7, e7⟩ := hQ7
      have N7 := Fr.app N6 Nq7
      refine oS (fun t k => st7 t k) ?_
      show oG _ _ _ _ _ _ _ (T7.setTop (mkF m 58 #[.val (.int p1), .val (.int p2), .val (.int p3), .val (.int p4), .val (.int p5), .val (.int p6), .val (.int 0), .val (.int 1), .val (.ref (own_pick w ((p1 &&& (2147483647 : Int32)) % (12 : Int32)))), .val .null, .unset, .unset, .unset] [(.ref (own_pick w ((p3 &&& (2147483647 : Int32)) % (12 : Int32))))]))
      refine oS (fun t k => XS.goto X7.here hx rfl (pc0 := 58) (pc' := 62) rfl (hb hby at_58) (by decide) (by decide) k) ?_
      refine oS (fun t k => XS.astore X7.here hx rfl (hb hby at_62) rfl rfl (l' := #[.val (.int p1), .val (.int p2), .val (.int p3), .val (.int p4), .val (.int p5), .val (.int p6), .val (.int 0), .val (.int 1), .val (.ref (own_pick w ((p1 &&& (2147483647 : Int32)) % (12 : Int32)))), .val .null, .val (.ref (own_pick w ((p3 &&& (2147483647 : Int32)) % (12 : Int32)))), .unset, .unset]) rfl k) ?_
      obtain ⟨T8, h8, X8, e8, E8, A8, D8, -, st8⟩ := newO X7 hx hZ hown (oW hw 12 rfl) (oW hw 13 rfl) (oW hw 14 rfl) e7 (g := (mkF m 64 #[.val (.int p1), .val (.int p2), .val (.int p3), .val (.int p4), .val (.int p5), .val (.int p6), .val (.int 0), .val (.int 1), .val (.ref (own_pick w ((p1 &&& (2147483647 : Int32)) % (12 : Int32)))), .val .null, .val (.ref (own_pick w ((p3 &&& (2147483647 : Int32)) % (12 : Int32)))), .unset, .unset] [])) rfl (hb hby at_64) (by decide) (by decide)
      obtain ⟨b8, g8⟩ : ∃ z, z = h0.size := ⟨_, rfl⟩
      rw [← g8] at A8 D8 st8
      have gx8 : n0 ≤ b8 := Nat.le_trans (O0.1 ▸ O0.2.1) (Nat.le_of_eq g8.symm)
      have O8 := O0.ext E8
      have F_piece_b8 : Fld Z h8 b8 "com/example/sixfold/sixfold/rules/Move" "piece" "Lcom/example/sixfold/sixfold/rules/Piece;" .null := D8 (Or.inr (oW hw 27 rfl)) (ty := (.object "com/example/sixfold/sixfold/rules/Piece")) (by decide)
      have F_from_b8 : Fld Z h8 b8 "com/example/sixfold/sixfold/rules/Move" "from" "I" (.int 0) := D8 (Or.inr (oW hw 29 rfl)) (ty := .int) (by decide)
      have F_to_b8 : Fld Z h8 b8 "com/example/sixfold/sixfold/rules/Move" "to" "I" (.int 0) := D8 (Or.inr (oW hw 31 rfl)) (ty := .int) (by decide)
      have F_captured_b8 : Fld Z h8 b8 "com/example/sixfold/sixfold/rules/Move" "captured" "Lcom/example/sixfold/sixfold/rules/Piece;" .null := D8 (Or.inr (oW hw 33 rfl)) (ty := (.object "com/example/sixfold/sixfold/rules/Piece")) (by decide)
      have F_capturedOn_b8 : Fld Z h8 b8 "com/example/sixfold/sixfold/rules/Move" "capturedOn" "I" (.int 0) := D8 (Or.inr (oW hw 35 rfl)) (ty := .int) (by decide)
      have F_castling_b8 : Fld Z h8 b8 "com/example/sixfold/sixfold/rules/Move" "castling" "Lcom/example/sixfold/sixfold/rules/Castling;" .null := D8 (Or.inr (oW hw 37 rfl)) (ty := (.object "com/example/sixfold/sixfold/rules/Castling")) (by decide)
      have F_promotion_b8 : Fld Z h8 b8 "com/example/sixfold/sixfold/rules/Move" "promotion" "Lcom/example/sixfold/sixfold/rules/Piece;" .null := D8 (Or.inr (oW hw 39 rfl)) (ty := (.object "com/example/sixfold/sixfold/rules/Piece")) (by decide)
      refine oS (fun t k => st8 t k) ?_
      refine oS (fun t k => XS.dup X8.here hx rfl (hb hby at_67) rfl rfl k) ?_
      refine oS (fun t k => XS.aload X8.here hx rfl (hb hby at_68) rfl rfl k) ?_
      refine oS (fun t k => XS.iloadN X8.here hx rfl (hb hby at_70) rfl k) ?_
      refine oS (fun t k => XS.iload X8.here hx rfl (hb hby at_71) rfl k) ?_
      refine oS (fun t k => XS.aload X8.here hx rfl (hb hby at_73) rfl rfl k) ?_
      refine oS (fun t k => XS.iloadN X8.here hx rfl (hb hby at_75) rfl k) ?_
      refine oS (fun t k => XS.aconstNull X8.here hx rfl (hb hby at_76) k) ?_
      show oG _ _ _ _ _ _ _ (T8.setTop (mkF m 77 #[.val (.int p1), .val (.int p2), .val (.int p3), .val (.int p4), .val (.int p5), .val (.int p6), .val (.int 0), .val (.int 1), .val (.ref (own_pick w ((p1 &&& (2147483647 : Int32)) % (12 : Int32)))), .val .null, .val (.ref (own_pick w ((p3 &&& (2147483647 : Int32)) % (12 : Int32)))), .unset, .unset] [.null, (.int p3), (.ref (own_pick w ((p3 &&& (2147483647 : Int32)) % (12 : Int32)))), (.int p5), (.int p4), (.ref (own_pick w ((p1 &&& (2147483647 : Int32)) % (12 : Int32)))), (.ref b8), (.ref b8)]))
      refine oS (fun t k => XS.aload X8.here hx rfl (hb hby at_77) rfl rfl k) ?_
      obtain ⟨_, _, ⟨T9, L9, k9, n9⟩, -, X9, ⟨Lc9, hQ9, l9, y9, z9⟩, st9⟩ := X8.specialBack hx (y := mY2) rfl hown (mvT hZ (oW hw 15 rfl)) (mvT hZ (oW hw 16 rfl)) (mvT hZ (oW hw 17 rfl)) (by decide) (backOf (W := 1) (rm_init_10 l Z a0 hw [] b8 (own_pick w ((p1 &&& (2147483647 : Int32)) % (12 : Int32))) p4 p5 (own_pick w ((p3 &&& (2147483647 : Int32)) % (12 : Int32))) p3 .null (.int 0) (.int 0) .null (.int 0) .null .null w h8 n0 O8 W A8 gx8 F_piece_b8 F_from_b8 F_to_b8 F_captured_b8 F_capturedOn_b8 F_castling_b8 F_promotion_b8) hZ (oW hw 17 rfl) (oW hw 14 rfl) (by decide) (by decide)) (g := (mkF m 79 #[.val (.int p1), .val (.int p2), .val (.int p3), .val (.int p4), .val (.int p5), .val (.int p6), .val (.int 0), .val (.int 1), .val (.ref (own_pick w ((p1 &&& (2147483647 : Int32)) % (12 : Int32)))), .val .null, .val (.ref (own_pick w ((p3 &&& (2147483647 : Int32)) % (12 : Int32)))), .unset, .unset] [.null, .null, (.int p3), (.ref (own_pick w ((p3 &&& (2147483647 : Int32)) % (12 : Int32)))), (.int p5), (.int p4), (.ref (own_pick w ((p1 &&& (2147483647 : Int32)) % (12 : Int32)))), (.ref b8), (.ref b8)])) rfl (by rw [hml]; rfl) (Steps.refl _) (a := b8) (argsL := [(.ref (own_pick w ((p1 &&& (2147483647 : Int32)) % (12 : Int32)))), (.int p4), (.int p5), (.ref (own_pick w ((p3 &&& (2147483647 : Int32)) % (12 : Int32)))), (.int p3), .null, .null]) (rest := [(.ref b8)]) (lenOf pd_2 rfl) rfl (by show 2 * 0 + _ ≤ _; exact Nat.le_of_eq rfl) (hb hby at_79) (fun _ _ => ⟨rfl, e8, (by decide : 1 + 0 ≤ _), (by decide : 7 + 0 ≤ _)⟩)
      dsimp only [Pt.U, Pt.locs, Pt.cells, Pt.slots] at X9 l9 y9 z9 st9 hQ9
      subst l9 y9 z9
      obtain ⟨rfl, Nq9, K9, P9_0, P9_1, P9_2, P9_3, P9_4, P9_5, P9_6, P9_7⟩ := hQ9
      have N9 := Fr.app N7 Nq9
      have O9 := O8.keep K9 (allS gx8 all0)
      refine oS (fun t k => st9.trans k) ?_
      show oG _ _ _ _ _ _ _ (T9.setTop (mkF m 82 #[.val (.int p1), .val (.int p2), .val (.int p3), .val (.int p4), .val (.int p5), .val (.int p6), .val (.int 0), .val (.int 1), .val (.ref (own_pick w ((p1 &&& (2147483647 : Int32)) % (12 : Int32)))), .val .null, .val (.ref (own_pick w ((p3 &&& (2147483647 : Int32)) % (12 : Int32)))), .unset, .unset] [(.ref b8)]))
      refine oS (fun t k => XS.astore X9.here hx rfl (hb hby at_82) rfl rfl (l' := #[.val (.int p1), .val (.int p2), .val (.int p3), .val (.int p4), .val (.int p5), .val (.int p6), .val (.int 0), .val (.int 1), .val (.ref (own_pick w ((p1 &&& (2147483647 : Int32)) % (12 : Int32)))), .val .null, .val (.ref (own_pick w ((p3 &&& (2147483647 : Int32)) % (12 : Int32)))), .val (.ref b8), .unset]) rfl k) ?_
      refine oS (fun t k => XS.aload X9.here hx rfl (hb hby at_84) rfl rfl k) ?_
      obtain ⟨cq10, kq10, q10a, q10b, q10c⟩ := isOf hZ rfl P9_0
      obtain ⟨_, _, ⟨T10, L10, k10, n10⟩, -, X10, ⟨Lc10, hQ10, l10, y10, z10⟩, st10⟩ := X9.virtualBack hx (y := mY3) (z := mY3) hown (mvT hZ (oW hw 40 rfl)) (mvT hZ (oW hw 41 rfl)) (notFace_of_selects (args := #[]) (mvT hZ (oW hw 43 rfl))) (mvT hZ (oW hw 43 rfl)) (mvT hZ (oW hw 42 rfl)) (by decide) (backOf (W := 0) (rm_land_0 l Z a0 hw [] b8 (own_pick w ((p1 &&& (2147483647 : Int32)) % (12 : Int32)))  T9.heap n0 O9  P9_7 P9_1) hZ (oW hw 44 rfl) (oW hw 14 rfl) (by decide) (by decide)) q10a q10c (g := (mkF m 86 #[.val (.int p1), .val (.int p2), .val (.int p3), .val (.int p4), .val (.int p5), .val (.int p6), .val (.int 0), .val (.int 1), .val (.ref (own_pick w ((p1 &&& (2147483647 : Int32)) % (12 : Int32)))), .val .null, .val (.ref (own_pick w ((p3 &&& (2147483647 : Int32)) % (12 : Int32)))), .val (.ref b8), .unset] [(.ref b8)])) rfl (by rw [hml]; rfl) (Steps.refl _) (argsL := []) (rest := []) (lenOf pd_3 rfl) rfl (by show 2 * 0 + _ ≤ _; exact Nat.le_of_eq rfl) (hb hby at_86) (fun _ _ => ⟨rfl, rfl, (by decide : 1 + 0 ≤ _), (by decide : 7 + 0 ≤ _)⟩)
      dsimp only [Pt.U, Pt.locs, Pt.cells, Pt.slots] at X10 l10 y10 z10 st10 hQ10
      subst l10 y10 z10
      obtain ⟨rfl, Nq10, e10⟩ := hQ10
      have N10 := Fr.app N9 Nq10
      refine oS (fun t k => st10.trans k) ?_
      show oG _ _ _ _ _ _ _ (T10.setTop (mkF m 89 #[.val (.int p1), .val (.int p2), .val (.int p3), .val (.int p4), .val (.int p5), .val (.int p6), .val (.int 0), .val (.int 1), .val (.ref (own_pick w ((p1 &&& (2147483647 : Int32)) % (12 : Int32)))), .val .null, .val (.ref (own_pick w ((p3 &&& (2147483647 : Int32)) % (12 : Int32)))), .val (.ref b8), .unset] [(.ref (own_pick w ((p1 &&& (2147483647 : Int32)) % (12 : Int32))))]))
      refine oS (fun t k => XS.astore X10.here hx rfl (hb hby at_89) rfl rfl (l' := #[.val (.int p1), .val (.int p2), .val (.int p3), .val (.int p4), .val (.int p5), .val (.int p6), .val (.int 0), .val (.int 1), .val (.ref (own_pick w ((p1 &&& (2147483647 : Int32)) % (12 : Int32)))), .val .null, .val (.ref (own_pick w ((p3 &&& (2147483647 : Int32)) % (12 : Int32)))), .val (.ref b8), .val (.ref (own_pick w ((p1 &&& (2147483647 : Int32)) % (12 : Int32))))]) rfl k) ?_
      refine oS (fun t k => XS.iload X10.here hx rfl (hb hby at_91) rfl k) ?_
      refine oS (fun t k => XS.ifYes X10.here hx rfl (pc0 := 93) (pc' := 111) rfl (hb hby at_93) rfl ((if0 _ _).trans (teq (by decide)).1) (by decide) (by decide) k) ?_
      refine oS (fun t k => XS.aload X10.here hx rfl (hb hby at_111) rfl rfl k) ?_
      refine oS (fun t k => XS.iloadN X10.here hx rfl (hb hby at_113) rfl k) ?_
      obtain ⟨_, _, ⟨T11, L11, k11, n11⟩, -, X11, ⟨Lc11, hQ11, l11, y11, z11⟩, st11⟩ := Jvm.LawKit.callS X10 hx (y := mY0) hown (mvT hZ (oW hw 0 rfl)) (mvT hZ (oW hw 1 rfl)) (mvT hZ (oW hw 2 rfl)) (mvT hZ (oW hw 3 rfl)) (by decide) (backOf (W := 1) (rm_pick l Z a0 hw [] p1 w T9.heap n0 O9 W ) hZ (oW hw 3 rfl) (oW hw 2 rfl) (by decide) (by decide)) (g := (mkF m 114 #[.val (.int p1), .val (.int p2), .val (.int p3), .val (.int p4), .val (.int p5), .val (.int p6), .val (.int 0), .val (.int 1), .val (.ref (own_pick w ((p1 &&& (2147483647 : Int32)) % (12 : Int32)))), .val .null, .val (.ref (own_pick w ((p3 &&& (2147483647 : Int32)) % (12 : Int32)))), .val (.ref b8), .val (.ref (own_pick w ((p1 &&& (2147483647 : Int32)) % (12 : Int32))))] [(.int p1), (.ref (own_pick w ((p1 &&& (2147483647 : Int32)) % (12 : Int32))))])) rfl (by rw [hml]; rfl) (argsL := [(.int p1)]) (rest := [(.ref (own_pick w ((p1 &&& (2147483647 : Int32)) % (12 : Int32))))]) (lenOf pd_1 rfl) rfl (by show 2 * 0 + _ ≤ _; exact Nat.le_of_eq rfl) (hb hby at_114) (fun _ _ => ⟨rfl, e10, (by decide : 1 + 0 ≤ _), (by decide : 7 + 0 ≤ _)⟩)
      dsimp only [Pt.U, Pt.locs, Pt.cells, Pt.slots] at X11 l11 y11 z11 st11 hQ11
      subst l11 y11 z11
      obtain ⟨rfl, Nq11, e11⟩ := hQ11
      have N11 := Fr.app N10 Nq11
      refine oS (fun t k => st11 t k) ?_
      show oG _ _ _ _ _ _ _ (T11.setTop (mkF m 117 #[.val (.int p1), .val (.int p2), .val (.int p3), .val (.int p4), .val (.int p5), .val (.int p6), .val (.int 0), .val (.int 1), .val (.ref (own_pick w ((p1 &&& (2147483647 : Int32)) % (12 : Int32)))), .val .null, .val (.ref (own_pick w ((p3 &&& (2147483647 : Int32)) % (12 : Int32)))), .val (.ref b8), .val (.ref (own_pick w ((p1 &&& (2147483647 : Int32)) % (12 : Int32))))] [(.ref (own_pick w ((p1 &&& (2147483647 : Int32)) % (12 : Int32)))), (.ref (own_pick w ((p1 &&& (2147483647 : Int32)) % (12 : Int32))))]))
      refine oS (fun t k => Jvm.RoadKit.acmp (g := (mkF m 117 #[.val (.int p1), .val (.int p2), .val (.int p3), .val (.int p4), .val (.int p5), .val (.int p6), .val (.int 0), .val (.int 1), .val (.ref (own_pick w ((p1 &&& (2147483647 : Int32)) % (12 : Int32)))), .val .null, .val (.ref (own_pick w ((p3 &&& (2147483647 : Int32)) % (12 : Int32)))), .val (.ref b8), .val (.ref (own_pick w ((p1 &&& (2147483647 : Int32)) % (12 : Int32))))] [(.ref (own_pick w ((p1 &&& (2147483647 : Int32)) % (12 : Int32)))), (.ref (own_pick w ((p1 &&& (2147483647 : Int32)) % (12 : Int32))))])) X11 hx rfl rfl rfl (pc0 := 117) (pc' := 120) (same := true) rfl (hb hby at_117) rfl (decide_eq_true rfl) (by decide) (by decide) k) ?_
      refine oS (fun t k => XS.iconst X11.here hx rfl (hb hby at_120) k) ?_
      refine oS (fun t k => XS.goto X11.here hx rfl (pc0 := 121) (pc' := 125) rfl (hb hby at_121) (by decide) (by decide) k) ?_
      exact own_ret (v := some (.int 1)) X11 (fun h => by rw [Bd.returns] at h; cases h) Bd.notSynchronized (fun fs hr => retN X11 hx (t := .boolean) Bd.returns (by simp) (hb hby at_125) hr) (by rw [e11]; exact ⟨rfl, N11⟩) (by decide) (by decide)
  · refine oS (fun t k => XS.ifNo X0.here hx rfl (hb hby at_4) rfl ((if0 _ _).trans (feq hc4).1) k) ?_
    refine oS (fun t k => XS.iconst X0.here hx rfl (hb hby at_7) k) ?_
    refine oS (fun t k => XS.goto X0.here hx rfl (pc0 := 8) (pc' := 12) rfl (hb hby at_8) (by decide) (by decide) k) ?_
    refine oS (fun t k => XS.istore X0.here hx rfl (hb hby at_12) rfl (l' := #[.val (.int p1), .val (.int p2), .val (.int p3), .val (.int p4), .val (.int p5), .val (.int p6), .val (.int 1), .unset, .unset, .unset, .unset, .unset, .unset]) rfl k) ?_
    refine oS (fun t k => XS.iload X0.here hx rfl (hb hby at_14) rfl k) ?_
    refine oS (fun t k => XS.iconst X0.here hx rfl (hb hby at_16) k) ?_
    refine oS (fun t k => XS.iand X0.here hx rfl (hb hby at_17) rfl k) ?_
    show oG _ _ _ _ _ _ _ (s₁.setTop (mkF m 18 #[.val (.int p1), .val (.int p2), .val (.int p3), .val (.int p4), .val (.int p5), .val (.int p6), .val (.int 1), .unset, .unset, .unset, .unset, .unset, .unset] [(.int (p6 &&& (2 : Int32)))]))
    by_cases hc18 : (p6 &&& (2 : Int32)) = (0 : Int32)
    · refine oS (fun t k => XS.ifYes X0.here hx rfl (pc0 := 18) (pc' := 25) rfl (hb hby at_18) rfl ((if0 _ _).trans (teq hc18).1) (by decide) (by decide) k) ?_
      refine oS (fun t k => XS.iconst X0.here hx rfl (hb hby at_25) k) ?_
      refine oS (fun t k => XS.istore X0.here hx rfl (hb hby at_26) rfl (l' := #[.val (.int p1), .val (.int p2), .val (.int p3), .val (.int p4), .val (.int p5), .val (.int p6), .val (.int 1), .val (.int 0), .unset, .unset, .unset, .unset, .unset]) rfl k) ?_
      refine oS (fun t k => XS.iloadN X0.here hx rfl (hb hby at_28) rfl k) ?_
      obtain ⟨_, _, ⟨T12, L12, k12, n12⟩, -, X12, ⟨Lc12, hQ12, l12, y12, z12⟩, st12⟩ := Jvm.LawKit.callS X0 hx (y := mY0) hown (mvT hZ (oW hw 0 rfl)) (mvT hZ (oW hw 1 rfl)) (mvT hZ (oW hw 2 rfl)) (mvT hZ (oW hw 3 rfl)) (by decide) (backOf (W := 0) (rm_pick l Z a0 hw [] p1 w h0 n0 O0 W ) hZ (oW hw 3 rfl) (oW hw 2 rfl) (by decide) (by decide)) (g := (mkF m 29 #[.val (.int p1), .val (.int p2), .val (.int p3), .val (.int p4), .val (.int p5), .val (.int p6), .val (.int 1), .val (.int 0), .unset, .unset, .unset, .unset, .unset] [(.int p1)])) rfl (by rw [hml]; rfl) (argsL := [(.int p1)]) (rest := []) (lenOf pd_1 rfl) rfl (by show 2 * 0 + _ ≤ _; exact Nat.le_of_eq rfl) (hb hby at_29) (fun _ _ => ⟨rfl, e0, (by decide : 0 + 0 ≤ _), (by decide : 0 + 0 ≤ _)⟩)
      dsimp only [Pt.U, Pt.locs, Pt.cells, Pt.slots] at X12 l12 y12 z12 st12 hQ12
      subst l12 y12 z12
      obtain ⟨rfl, Nq12, e12⟩ := hQ12
      have N12 := Fr.app N0 Nq12
      refine oS (fun t k => st12 t k) ?_
      show oG _ _ _ _ _ _ _ (T12.setTop (mkF m 32 #[.val (.int p1), .val (.int p2), .val (.int p3), .val (.int p4), .val (.int p5), .val (.int p6), .val (.int 1), .val (.int 0), .unset, .unset, .unset, .unset, .unset] [(.ref (own_pick w ((p1 &&& (2147483647 : Int32)) % (12 : Int32))))]))
      refine oS (fun t k => XS.astore X12.here hx rfl (hb hby at_32) rfl rfl (l' := #[.val (.int p1), .val (.int p2), .val (.int p3), .val (.int p4), .val (.int p5), .val (.int p6), .val (.int 1), .val (.int 0), .val (.ref (own_pick w ((p1 &&& (2147483647 : Int32)) % (12 : Int32)))), .unset, .unset, .unset, .unset]) rfl k) ?_
      refine oS (fun t k => XS.iload X12.here hx rfl (hb hby at_34) rfl k) ?_
      refine oS (fun t k => XS.ifNo X12.here hx rfl (hb hby at_36) rfl ((if0 _ _).trans (feq (by decide)).1) k) ?_
      refine oS (fun t k => XS.iloadN X12.here hx rfl (hb hby at_39) rfl k) ?_
      obtain ⟨_, _, ⟨T13, L13, k13, n13⟩, -, X13, ⟨Lc13, hQ13, l13, y13, z13⟩, st13⟩ := Jvm.LawKit.callS X12 hx (y := mY0) hown (mvT hZ (oW hw 0 rfl)) (mvT hZ (oW hw 1 rfl)) (mvT hZ (oW hw 2 rfl)) (mvT hZ (oW hw 3 rfl)) (by decide) (backOf (W := 0) (rm_pick l Z a0 hw [] p2 w h0 n0 O0 W ) hZ (oW hw 3 rfl) (oW hw 2 rfl) (by decide) (by decide)) (g := (mkF m 40 #[.val (.int p1), .val (.int p2), .val (.int p3), .val (.int p4), .val (.int p5), .val (.int p6), .val (.int 1), .val (.int 0), .val (.ref (own_pick w ((p1 &&& (2147483647 : Int32)) % (12 : Int32)))), .unset, .unset, .unset, .unset] [(.int p2)])) rfl (by rw [hml]; rfl) (argsL := [(.int p2)]) (rest := []) (lenOf pd_1 rfl) rfl (by show 2 * 0 + _ ≤ _; exact Nat.le_of_eq rfl) (hb hby at_40) (fun _ _ => ⟨rfl, e12, (by decide : 0 + 0 ≤ _), (by decide : 0 + 0 ≤ _)⟩)
      dsimp only [Pt.U, Pt.locs, Pt.cells, Pt.slots] at X13 l13 y13 z13 st13 hQ13
      subst l13 y13 z13
      obtain ⟨rfl, Nq13, e13⟩ := hQ13
      have N13 := Fr.app N12 Nq13
      refine oS (fun t k => st13 t k) ?_
      show oG _ _ _ _ _ _ _ (T13.setTop (mkF m 43 #[.val (.int p1), .val (.int p2), .val (.int p3), .val (.int p4), .val (.int p5), .val (.int p6), .val (.int 1), .val (.int 0), .val (.ref (own_pick w ((p1 &&& (2147483647 : Int32)) % (12 : Int32)))), .unset, .unset, .unset, .unset] [(.ref (own_pick w ((p2 &&& (2147483647 : Int32)) % (12 : Int32))))]))
      refine oS (fun t k => XS.goto X13.here hx rfl (pc0 := 43) (pc' := 47) rfl (hb hby at_43) (by decide) (by decide) k) ?_
      refine oS (fun t k => XS.astore X13.here hx rfl (hb hby at_47) rfl rfl (l' := #[.val (.int p1), .val (.int p2), .val (.int p3), .val (.int p4), .val (.int p5), .val (.int p6), .val (.int 1), .val (.int 0), .val (.ref (own_pick w ((p1 &&& (2147483647 : Int32)) % (12 : Int32)))), .val (.ref (own_pick w ((p2 &&& (2147483647 : Int32)) % (12 : Int32)))), .unset, .unset, .unset]) rfl k) ?_
      refine oS (fun t k => XS.iload X13.here hx rfl (hb hby at_49) rfl k) ?_
      refine oS (fun t k => XS.ifYes X13.here hx rfl (pc0 := 51) (pc' := 61) rfl (hb hby at_51) rfl ((if0 _ _).trans (teq (by decide)).1) (by decide) (by decide) k) ?_
      refine oS (fun t k => XS.aconstNull X13.here hx rfl (hb hby at_61) k) ?_
      refine oS (fun t k => XS.astore X13.here hx rfl (hb hby at_62) rfl rfl (l' := #[.val (.int p1), .val (.int p2), .val (.int p3), .val (.int p4), .val (.int p5), .val (.int p6), .val (.int 1), .val (.int 0), .val (.ref (own_pick w ((p1 &&& (2147483647 : Int32)) % (12 : Int32)))), .val (.ref (own_pick w ((p2 &&& (2147483647 : Int32)) % (12 : Int32)))), .val .null, .unset, .unset]) rfl k) ?_
      obtain ⟨T14, h14, X14, e14, E14, A14, D14, -, st14⟩ := newO X13 hx hZ hown (oW hw 12 rfl) (oW hw 13 rfl) (oW hw 14 rfl) e13 (g := (mkF m 64 #[.val (.int p1), .val (.int p2), .val (.int p3), .val (.int p4), .val (.int p5), .val (.int p6), .val (.int 1), .val (.int 0), .val (.ref (own_pick w ((p1 &&& (2147483647 : Int32)) % (12 : Int32)))), .val (.ref (own_pick w ((p2 &&& (2147483647 : Int32)) % (12 : Int32)))), .val .null, .unset, .unset] [])) rfl (hb hby at_64) (by decide) (by decide)
      obtain ⟨b14, g14⟩ : ∃ z, z = h0.size := ⟨_, rfl⟩
      rw [← g14] at A14 D14 st14
      have gx14 : n0 ≤ b14 := Nat.le_trans (O0.1 ▸ O0.2.1) (Nat.le_of_eq g14.symm)
      have O14 := O0.ext E14
      have F_piece_b14 : Fld Z h14 b14 "com/example/sixfold/sixfold/rules/Move" "piece" "Lcom/example/sixfold/sixfold/rules/Piece;" .null := D14 (Or.inr (oW hw 27 rfl)) (ty := (.object "com/example/sixfold/sixfold/rules/Piece")) (by decide)
      have F_from_b14 : Fld Z h14 b14 "com/example/sixfold/sixfold/rules/Move" "from" "I" (.int 0) := D14 (Or.inr (oW hw 29 rfl)) (ty := .int) (by decide)
      have F_to_b14 : Fld Z h14 b14 "com/example/sixfold/sixfold/rules/Move" "to" "I" (.int 0) := D14 (Or.inr (oW hw 31 rfl)) (ty := .int) (by decide)
      have F_captured_b14 : Fld Z h14 b14 "com/example/sixfold/sixfold/rules/Move" "captured" "Lcom/example/sixfold/sixfold/rules/Piece;" .null := D14 (Or.inr (oW hw 33 rfl)) (ty := (.object "com/example/sixfold/sixfold/rules/Piece")) (by decide)
      have F_capturedOn_b14 : Fld Z h14 b14 "com/example/sixfold/sixfold/rules/Move" "capturedOn" "I" (.int 0) := D14 (Or.inr (oW hw 35 rfl)) (ty := .int) (by decide)
      have F_castling_b14 : Fld Z h14 b14 "com/example/sixfold/sixfold/rules/Move" "castling" "Lcom/example/sixfold/sixfold/rules/Castling;" .null := D14 (Or.inr (oW hw 37 rfl)) (ty := (.object "com/example/sixfold/sixfold/rules/Castling")) (by decide)
      have F_promotion_b14 : Fld Z h14 b14 "com/example/sixfold/sixfold/rules/Move" "promotion" "Lcom/example/sixfold/sixfold/rules/Piece;" .null := D14 (Or.inr (oW hw 39 rfl)) (ty := (.object "com/example/sixfold/sixfold/rules/Piece")) (by decide)
      refine oS (fun t k => st14 t k) ?_
      refine oS (fun t k => XS.dup X14.here hx rfl (hb hby at_67) rfl rfl k) ?_
      refine oS (fun t k => XS.aload X14.here hx rfl (hb hby at_68) rfl rfl k) ?_
      refine oS (fun t k => XS.iloadN X14.here hx rfl (hb hby at_70) rfl k) ?_
      show oG _ _ _ _ _ _ _ (T14.setTop (mkF m 71 #[.val (.int p1), .val (.int p2), .val (.int p3), .val (.int p4), .val (.int p5), .val (.int p6), .val (.int 1), .val (.int 0), .val (.ref (own_pick w ((p1 &&& (2147483647 : Int32)) % (12 : Int32)))), .val (.ref (own_pick w ((p2 &&& (2147483647 : Int32)) % (12 : Int32)))), .val .null, .unset, .unset] [(.int p4), (.ref (own_pick w ((p1 &&& (2147483647 : Int32)) % (12 : Int32)))), (.ref b14), (.ref b14)]))
      refine oS (fun t k => XS.iload X14.here hx rfl (hb hby at_71) rfl k) ?_
      refine oS (fun t k => XS.aload X14.here hx rfl (hb hby at_73) rfl rfl k) ?_
      refine oS (fun t k => XS.iloadN X14.here hx rfl (hb hby at_75) rfl k) ?_
      refine oS (fun t k => XS.aconstNull X14.here hx rfl (hb hby at_76) k) ?_
      refine oS (fun t k => XS.aload X14.here hx rfl (hb hby at_77) rfl rfl k) ?_
      obtain ⟨_, _, ⟨T15, L15, k15, n15⟩, -, X15, ⟨Lc15, hQ15, l15, y15, z15⟩, st15⟩ := X14.specialBack hx (y := mY2) rfl hown (mvT hZ (oW hw 15 rfl)) (mvT hZ (oW hw 16 rfl)) (mvT hZ (oW hw 17 rfl)) (by decide) (backOf (W := 1) (rm_init_01 l Z a0 hw [] b14 (own_pick w ((p1 &&& (2147483647 : Int32)) % (12 : Int32))) p4 p5 p3 (own_pick w ((p2 &&& (2147483647 : Int32)) % (12 : Int32))) .null (.int 0) (.int 0) .null (.int 0) .null .null w h14 n0 O14 W A14 gx14 F_piece_b14 F_from_b14 F_to_b14 F_captured_b14 F_capturedOn_b14 F_castling_b14 F_promotion_b14) hZ (oW hw 17 rfl) (oW hw 14 rfl) (by decide) (by decide)) (g := (mkF m 79 #[.val (.int p1), .val (.int p2), .val (.int p3), .val (.int p4), .val (.int p5), .val (.int p6), .val (.int 1), .val (.int 0), .val (.ref (own_pick w ((p1 &&& (2147483647 : Int32)) % (12 : Int32)))), .val (.ref (own_pick w ((p2 &&& (2147483647 : Int32)) % (12 : Int32)))), .val .null, .unset, .unset] [(.ref (own_pick w ((p2 &&& (2147483647 : Int32)) % (12 : Int32)))), .null, (.int p3), .null, (.int p5), (.int p4), (.ref (own_pick w ((p1 &&& (2147483647 : Int32)) % (12 : Int32)))), (.ref b14), (.ref b14)])) rfl (by rw [hml]; rfl) (Steps.refl _) (a := b14) (argsL := [(.ref (own_pick w ((p1 &&& (2147483647 : Int32)) % (12 : Int32)))), (.int p4), (.int p5), .null, (.int p3), .null, (.ref (own_pick w ((p2 &&& (2147483647 : Int32)) % (12 : Int32))))]) (rest := [(.ref b14)]) (lenOf pd_2 rfl) rfl (by show 2 * 0 + _ ≤ _; exact Nat.le_of_eq rfl) (hb hby at_79) (fun _ _ => ⟨rfl, e14, (by decide : 1 + 0 ≤ _), (by decide : 7 + 0 ≤ _)⟩)
      dsimp only [Pt.U, Pt.locs, Pt.cells, Pt.slots] at X15 l15 y15 z15 st15 hQ15
      subst l15 y15 z15
      obtain ⟨rfl, Nq15, K15, P15_0, P15_1, P15_2, P15_3, P15_4, P15_5, P15_6, P15_7⟩ := hQ15
      have N15 := Fr.app N13 Nq15
      have O15 := O14.keep K15 (allS gx14 all0)
      refine oS (fun t k => st15.trans k) ?_
      show oG _ _ _ _ _ _ _ (T15.setTop (mkF m 82 #[.val (.int p1), .val (.int p2), .val (.int p3), .val (.int p4), .val (.int p5), .val (.int p6), .val (.int 1), .val (.int 0), .val (.ref (own_pick w ((p1 &&& (2147483647 : Int32)) % (12 : Int32)))), .val (.ref (own_pick w ((p2 &&& (2147483647 : Int32)) % (12 : Int32)))), .val .null, .unset, .unset] [(.ref b14)]))
      refine oS (fun t k => XS.astore X15.here hx rfl (hb hby at_82) rfl rfl (l' := #[.val (.int p1), .val (.int p2), .val (.int p3), .val (.int p4), .val (.int p5), .val (.int p6), .val (.int 1), .val (.int 0), .val (.ref (own_pick w ((p1 &&& (2147483647 : Int32)) % (12 : Int32)))), .val (.ref (own_pick w ((p2 &&& (2147483647 : Int32)) % (12 : Int32)))), .val .null, .val (.ref b14), .unset]) rfl k) ?_
      refine oS (fun t k => XS.aload X15.here hx rfl (hb hby at_84) rfl rfl k) ?_
      obtain ⟨cq16, kq16, q16a, q16b, q16c⟩ := isOf hZ rfl P15_0
      obtain ⟨_, _, ⟨T16, L16, k16, n16⟩, -, X16, ⟨Lc16, hQ16, l16, y16, z16⟩, st16⟩ := X15.virtualBack hx (y := mY3) (z := mY3) hown (mvT hZ (oW hw 40 rfl)) (mvT hZ (oW hw 41 rfl)) (notFace_of_selects (args := #[]) (mvT hZ (oW hw 43 rfl))) (mvT hZ (oW hw 43 rfl)) (mvT hZ (oW hw 42 rfl)) (by decide) (backOf (W := 0) (rm_land_1 l Z a0 hw [] b14 (own_pick w ((p2 &&& (2147483647 : Int32)) % (12 : Int32)))  T15.heap n0 O15  P15_7) hZ (oW hw 44 rfl) (oW hw 14 rfl) (by decide) (by decide)) q16a q16c (g := (mkF m 86 #[.val (.int p1), .val (.int p2), .val (.int p3), .val (.int p4), .val (.int p5), .val (.int p6), .val (.int 1), .val (.int 0), .val (.ref (own_pick w ((p1 &&& (2147483647 : Int32)) % (12 : Int32)))), .val (.ref (own_pick w ((p2 &&& (2147483647 : Int32)) % (12 : Int32)))), .val .null, .val (.ref b14), .unset] [(.ref b14)])) rfl (by rw [hml]; rfl) (Steps.refl _) (argsL := []) (rest := []) (lenOf pd_3 rfl) rfl (by show 2 * 0 + _ ≤ _; exact Nat.le_of_eq rfl) (hb hby at_86) (fun _ _ => ⟨rfl, rfl, (by decide : 1 + 0 ≤ _), (by decide : 7 + 0 ≤ _)⟩)
      dsimp only [Pt.U, Pt.locs, Pt.cells, Pt.slots] at X16 l16 y16 z16 st16 hQ16
      subst l16 y16 z16
      obtain ⟨rfl, Nq16, e16⟩ := hQ16
      have N16 := Fr.app N15 Nq16
      refine oS (fun t k => st16.trans k) ?_
      show oG _ _ _ _ _ _ _ (T16.setTop (mkF m 89 #[.val (.int p1), .val (.int p2), .val (.int p3), .val (.int p4), .val (.int p5), .val (.int p6), .val (.int 1), .val (.int 0), .val (.ref (own_pick w ((p1 &&& (2147483647 : Int32)) % (12 : Int32)))), .val (.ref (own_pick w ((p2 &&& (2147483647 : Int32)) % (12 : Int32)))), .val .null, .val (.ref b14), .unset] [(.ref (own_pick w ((p2 &&& (2147483647 : Int32)) % (12 : Int32))))]))
      refine oS (fun t k => XS.astore X16.here hx rfl (hb hby at_89) rfl rfl (l' := #[.val (.int p1), .val (.int p2), .val (.int p3), .val (.int p4), .val (.int p5), .val (.int p6), .val (.int 1), .val (.int 0), .val (.ref (own_pick w ((p1 &&& (2147483647 : Int32)) % (12 : Int32)))), .val (.ref (own_pick w ((p2 &&& (2147483647 : Int32)) % (12 : Int32)))), .val .null, .val (.ref b14), .val (.ref (own_pick w ((p2 &&& (2147483647 : Int32)) % (12 : Int32))))]) rfl k) ?_
      refine oS (fun t k => XS.iload X16.here hx rfl (hb hby at_91) rfl k) ?_
      refine oS (fun t k => XS.ifNo X16.here hx rfl (hb hby at_93) rfl ((if0 _ _).trans (feq (by decide)).1) k) ?_
      refine oS (fun t k => XS.aload X16.here hx rfl (hb hby at_96) rfl rfl k) ?_
      refine oS (fun t k => XS.iloadN X16.here hx rfl (hb hby at_98) rfl k) ?_
      obtain ⟨_, _, ⟨T17, L17, k17, n17⟩, -, X17, ⟨Lc17, hQ17, l17, y17, z17⟩, st17⟩ := Jvm.LawKit.callS X16 hx (y := mY0) hown (mvT hZ (oW hw 0 rfl)) (mvT hZ (oW hw 1 rfl)) (mvT hZ (oW hw 2 rfl)) (mvT hZ (oW hw 3 rfl)) (by decide) (backOf (W := 1) (rm_pick l Z a0 hw [] p2 w T15.heap n0 O15 W ) hZ (oW hw 3 rfl) (oW hw 2 rfl) (by decide) (by decide)) (g := (mkF m 99 #[.val (.int p1), .val (.int p2), .val (.int p3), .val (.int p4), .val (.int p5), .val (.int p6), .val (.int 1), .val (.int 0), .val (.ref (own_pick w ((p1 &&& (2147483647 : Int32)) % (12 : Int32)))), .val (.ref (own_pick w ((p2 &&& (2147483647 : Int32)) % (12 : Int32)))), .val .null, .val (.ref b14), .val (.ref (own_pick w ((p2 &&& (2147483647 : Int32)) % (12 : Int32))))] [(.int p2), (.ref (own_pick w ((p2 &&& (2147483647 : Int32)) % (12 : Int32))))])) rfl (by rw [hml]; rfl) (argsL := [(.int p2)]) (rest := [(.ref (own_pick w ((p2 &&& (2147483647 : Int32)) % (12 : Int32))))]) (lenOf pd_1 rfl) rfl (by show 2 * 0 + _ ≤ _; exact Nat.le_of_eq rfl) (hb hby at_99) (fun _ _ => ⟨rfl, e16, (by decide : 1 + 0 ≤ _), (by decide : 7 + 0 ≤ _)⟩)
      dsimp only [Pt.U, Pt.locs, Pt.cells, Pt.slots] at X17 l17 y17 z17 st17 hQ17
      subst l17 y17 z17
      obtain ⟨rfl, Nq17, e17⟩ := hQ17
      have N17 := Fr.app N16 Nq17
      refine oS (fun t k => st17 t k) ?_
      show oG _ _ _ _ _ _ _ (T17.setTop (mkF m 102 #[.val (.int p1), .val (.int p2), .val (.int p3), .val (.int p4), .val (.int p5), .val (.int p6), .val (.int 1), .val (.int 0), .val (.ref (own_pick w ((p1 &&& (2147483647 : Int32)) % (12 : Int32)))), .val (.ref (own_pick w ((p2 &&& (2147483647 : Int32)) % (12 : Int32)))), .val .null, .val (.ref b14), .val (.ref (own_pick w ((p2 &&& (2147483647 : Int32)) % (12 : Int32))))] [(.ref (own_pick w ((p2 &&& (2147483647 : Int32)) % (12 : Int32)))), (.ref (own_pick w ((p2 &&& (2147483647 : Int32)) % (12 : Int32))))]))
      refine oS (fun t k => Jvm.RoadKit.acmp (g := (mkF m 102 #[.val (.int p1), .val (.int p2), .val (.int p3), .val (.int p4), .val (.int p5), .val (.int p6), .val (.int 1), .val (.int 0), .val (.ref (own_pick w ((p1 &&& (2147483647 : Int32)) % (12 : Int32)))), .val (.ref (own_pick w ((p2 &&& (2147483647 : Int32)) % (12 : Int32)))), .val .null, .val (.ref b14), .val (.ref (own_pick w ((p2 &&& (2147483647 : Int32)) % (12 : Int32))))] [(.ref (own_pick w ((p2 &&& (2147483647 : Int32)) % (12 : Int32)))), (.ref (own_pick w ((p2 &&& (2147483647 : Int32)) % (12 : Int32))))])) X17 hx rfl rfl rfl (pc0 := 102) (pc' := 105) (same := true) rfl (hb hby at_102) rfl (decide_eq_true rfl) (by decide) (by decide) k) ?_
      refine oS (fun t k => XS.iconst X17.here hx rfl (hb hby at_105) k) ?_
      refine oS (fun t k => XS.goto X17.here hx rfl (pc0 := 106) (pc' := 110) rfl (hb hby at_106) (by decide) (by decide) k) ?_
      exact own_ret (v := some (.int 1)) X17 (fun h => by rw [Bd.returns] at h; cases h) Bd.notSynchronized (fun fs hr => retN X17 hx (t := .boolean) Bd.returns (by simp) (hb hby at_110) hr) (by rw [e17]; exact ⟨rfl, N17⟩) (by decide) (by decide)
    · refine oS (fun t k => XS.ifNo X0.here hx rfl (hb hby at_18) rfl ((if0 _ _).trans (feq hc18).1) k) ?_
      refine oS (fun t k => XS.iconst X0.here hx rfl (hb hby at_21) k) ?_
      refine oS (fun t k => XS.goto X0.here hx rfl (pc0 := 22) (pc' := 26) rfl (hb hby at_22) (by decide) (by decide) k) ?_
      refine oS (fun t k => XS.istore X0.here hx rfl (hb hby at_26) rfl (l' := #[.val (.int p1), .val (.int p2), .val (.int p3), .val (.int p4), .val (.int p5), .val (.int p6), .val (.int 1), .val (.int 1), .unset, .unset, .unset, .unset, .unset]) rfl k) ?_
      refine oS (fun t k => XS.iloadN X0.here hx rfl (hb hby at_28) rfl k) ?_
      obtain ⟨_, _, ⟨T18, L18, k18, n18⟩, -, X18, ⟨Lc18, hQ18, l18, y18, z18⟩, st18⟩ := Jvm.LawKit.callS X0 hx (y := mY0) hown (mvT hZ (oW hw 0 rfl)) (mvT hZ (oW hw 1 rfl)) (mvT hZ (oW hw 2 rfl)) (mvT hZ (oW hw 3 rfl)) (by decide) (backOf (W := 0) (rm_pick l Z a0 hw [] p1 w h0 n0 O0 W ) hZ (oW hw 3 rfl) (oW hw 2 rfl) (by decide) (by decide)) (g := (mkF m 29 #[.val (.int p1), .val (.int p2), .val (.int p3), .val (.int p4), .val (.int p5), .val (.int p6), .val (.int 1), .val (.int 1), .unset, .unset, .unset, .unset, .unset] [(.int p1)])) rfl (by rw [hml]; rfl) (argsL := [(.int p1)]) (rest := []) (lenOf pd_1 rfl) rfl (by show 2 * 0 + _ ≤ _; exact Nat.le_of_eq rfl) (hb hby at_29) (fun _ _ => ⟨rfl, e0, (by decide : 0 + 0 ≤ _), (by decide : 0 + 0 ≤ _)⟩)
      dsimp only [Pt.U, Pt.locs, Pt.cells, Pt.slots] at X18 l18 y18 z18 st18 hQ18
      subst l18 y18 z18
      obtain ⟨rfl, Nq18, e18⟩ := hQ18
      have N18 := Fr.app N0 Nq18
      refine oS (fun t k => st18 t k) ?_
      show oG _ _ _ _ _ _ _ (T18.setTop (mkF m 32 #[.val (.int p1), .val (.int p2), .val (.int p3), .val (.int p4), .val (.int p5), .val (.int p6), .val (.int 1), .val (.int 1), .unset, .unset, .unset, .unset, .unset] [(.ref (own_pick w ((p1 &&& (2147483647 : Int32)) % (12 : Int32))))]))
      refine oS (fun t k => XS.astore X18.here hx rfl (hb hby at_32) rfl rfl (l' := #[.val (.int p1), .val (.int p2), .val (.int p3), .val (.int p4), .val (.int p5), .val (.int p6), .val (.int 1), .val (.int 1), .val (.ref (own_pick w ((p1 &&& (2147483647 : Int32)) % (12 : Int32)))), .unset, .unset, .unset, .unset]) rfl k) ?_
      refine oS (fun t k => XS.iload X18.here hx rfl (hb hby at_34) rfl k) ?_
      refine oS (fun t k => XS.ifNo X18.here hx rfl (hb hby at_36) rfl ((if0 _ _).trans (feq (by decide)).1) k) ?_
      refine oS (fun t k => XS.iloadN X18.here hx rfl (hb hby at_39) rfl k) ?_
      obtain ⟨_, _, ⟨T19, L19, k19, n19⟩, -, X19, ⟨Lc19, hQ19, l19, y19, z19⟩, st19⟩ := Jvm.LawKit.callS X18 hx (y := mY0) hown (mvT hZ (oW hw 0 rfl)) (mvT hZ (oW hw 1 rfl)) (mvT hZ (oW hw 2 rfl)) (mvT hZ (oW hw 3 rfl)) (by decide) (backOf (W := 0) (rm_pick l Z a0 hw [] p2 w h0 n0 O0 W ) hZ (oW hw 3 rfl) (oW hw 2 rfl) (by decide) (by decide)) (g := (mkF m 40 #[.val (.int p1), .val (.int p2), .val (.int p3), .val (.int p4), .val (.int p5), .val (.int p6), .val (.int 1), .val (.int 1), .val (.ref (own_pick w ((p1 &&& (2147483647 : Int32)) % (12 : Int32)))), .unset, .unset, .unset, .unset] [(.int p2)])) rfl (by rw [hml]; rfl) (argsL := [(.int p2)]) (rest := []) (lenOf pd_1 rfl) rfl (by show 2 * 0 + _ ≤ _; exact Nat.le_of_eq rfl) (hb hby at_40) (fun _ _ => ⟨rfl, e18, (by decide : 0 + 0 ≤ _), (by decide : 0 + 0 ≤ _)⟩)
      dsimp only [Pt.U, Pt.locs, Pt.cells, Pt.slots] at X19 l19 y19 z19 st19 hQ19
      subst l19 y19 z19
      obtain ⟨rfl, Nq19, e19⟩ := hQ19
      have N19 := Fr.app N18 Nq19
      refine oS (fun t k => st19 t k) ?_
      show oG _ _ _ _ _ _ _ (T19.setTop (mkF m 43 #[.val (.int p1), .val (.int p2), .val (.int p3), .val (.int p4), .val (.int p5), .val (.int p6), .val (.int 1), .val (.int 1), .val (.ref (own_pick w ((p1 &&& (2147483647 : Int32)) % (12 : Int32)))), .unset, .unset, .unset, .unset] [(.ref (own_pick w ((p2 &&& (2147483647 : Int32)) % (12 : Int32))))]))
      refine oS (fun t k => XS.goto X19.here hx rfl (pc0 := 43) (pc' := 47) rfl (hb hby at_43) (by decide) (by decide) k) ?_
      refine oS (fun t k => XS.astore X19.here hx rfl (hb hby at_47) rfl rfl (l' := #[.val (.int p1), .val (.int p2), .val (.int p3), .val (.int p4), .val (.int p5), .val (.int p6), .val (.int 1), .val (.int 1), .val (.ref (own_pick w ((p1 &&& (2147483647 : Int32)) % (12 : Int32)))), .val (.ref (own_pick w ((p2 &&& (2147483647 : Int32)) % (12 : Int32)))), .unset, .unset, .unset]) rfl k) ?_
      refine oS (fun t k => XS.iload X19.here hx rfl (hb hby at_49) rfl k) ?_
      refine oS (fun t k => XS.ifNo X19.here hx rfl (hb hby at_51) rfl ((if0 _ _).trans (feq (by decide)).1) k) ?_
      refine oS (fun t k => XS.iloadN X19.here hx rfl (hb hby at_54) rfl k) ?_
      obtain ⟨_, _, ⟨T20, L20, k20, n20⟩, -, X20, ⟨Lc20, hQ20, l20, y20, z20⟩, st20⟩ := Jvm.LawKit.callS X19 hx (y := mY0) hown (mvT hZ (oW hw 0 rfl)) (mvT hZ (oW hw 1 rfl)) (mvT hZ (oW hw 2 rfl)) (mvT hZ (oW hw 3 rfl)) (by decide) (backOf (W := 0) (rm_pick l Z a0 hw [] p3 w h0 n0 O0 W ) hZ (oW hw 3 rfl) (oW hw 2 rfl) (by decide) (by decide)) (g := (mkF m 55 #[.val (.int p1), .val (.int p2), .val (.int p3), .val (.int p4), .val (.int p5), .val (.int p6), .val (.int 1), .val (.int 1), .val (.ref (own_pick w ((p1 &&& (2147483647 : Int32)) % (12 : Int32)))), .val (.ref (own_pick w ((p2 &&& (2147483647 : Int32)) % (12 : Int32)))), .unset, .unset, .unset] [(.int p3)])) rfl (by rw [hml]; rfl) (argsL := [(.int p3)]) (rest := []) (lenOf pd_1 rfl) rfl (by show 2 * 0 + _ ≤ _; exact Nat.le_of_eq rfl) (hb hby at_55) (fun _ _ => ⟨rfl, e19, (by decide : 0 + 0 ≤ _), (by decide : 0 + 0 ≤ _)⟩)
      dsimp only [Pt.U, Pt.locs, Pt.cells, Pt.slots] at X20 l20 y20 z20 st20 hQ20
      subst l20 y20 z20
      obtain ⟨rfl, Nq20, e20⟩ := hQ20
      have N20 := Fr.app N19 Nq20
      refine oS (fun t k => st20 t k) ?_
      show oG _ _ _ _ _ _ _ (T20.setTop (mkF m 58 #[.val (.int p1), .val (.int p2), .val (.int p3), .val (.int p4), .val (.int p5), .val (.int p6), .val (.int 1), .val (.int 1), .val (.ref (own_pick w ((p1 &&& (2147483647 : Int32)) % (12 : Int32)))), .val (.ref (own_pick w ((p2 &&& (2147483647 : Int32)) % (12 : Int32)))), .unset, .unset, .unset] [(.ref (own_pick w ((p3 &&& (2147483647 : Int32)) % (12 : Int32))))]))
      refine oS (fun t k => XS.goto X20.here hx rfl (pc0 := 58) (pc' := 62) rfl (hb hby at_58) (by decide) (by decide) k) ?_
      refine oS (fun t k => XS.astore X20.here hx rfl (hb hby at_62) rfl rfl (l' := #[.val (.int p1), .val (.int p2), .val (.int p3), .val (.int p4), .val (.int p5), .val (.int p6), .val (.int 1), .val (.int 1), .val (.ref (own_pick w ((p1 &&& (2147483647 : Int32)) % (12 : Int32)))), .val (.ref (own_pick w ((p2 &&& (2147483647 : Int32)) % (12 : Int32)))), .val (.ref (own_pick w ((p3 &&& (2147483647 : Int32)) % (12 : Int32)))), .unset, .unset]) rfl k) ?_
      obtain ⟨T21, h21, X21, e21, E21, A21, D21, -, st21⟩ := newO X20 hx hZ hown (oW hw 12 rfl) (oW hw 13 rfl) (oW hw 14 rfl) e20 (g := (mkF m 64 #[.val (.int p1), .val (.int p2), .val (.int p3), .val (.int p4), .val (.int p5), .val (.int p6), .val (.int 1), .val (.int 1), .val (.ref (own_pick w ((p1 &&& (2147483647 : Int32)) % (12 : Int32)))), .val (.ref (own_pick w ((p2 &&& (2147483647 : Int32)) % (12 : Int32)))), .val (.ref (own_pick w ((p3 &&& (2147483647 : Int32)) % (12 : Int32)))), .unset, .unset] [])) rfl (hb hby at_64) (by decide) (by decide)
      obtain ⟨b21, g21⟩ : ∃ z, z = h0.size := ⟨_, rfl⟩
      rw [← g21] at A21 D21 st21
      have gx21 : n0 ≤ b21 := Nat.le_trans (O0.1 ▸ O0.2.1) (Nat.le_of_eq g21.symm)
      have O21 := O0.ext E21
      have F_piece_b21 : Fld Z h21 b21 "com/example/sixfold/sixfold/rules/Move" "piece" "Lcom/example/sixfold/sixfold/rules/Piece;" .null := D21 (Or.inr (oW hw 27 rfl)) (ty := (.object "com/example/sixfold/sixfold/rules/Piece")) (by decide)
      have F_from_b21 : Fld Z h21 b21 "com/example/sixfold/sixfold/rules/Move" "from" "I" (.int 0) := D21 (Or.inr (oW hw 29 rfl)) (ty := .int) (by decide)
      have F_to_b21 : Fld Z h21 b21 "com/example/sixfold/sixfold/rules/Move" "to" "I" (.int 0) := D21 (Or.inr (oW hw 31 rfl)) (ty := .int) (by decide)
      have F_captured_b21 : Fld Z h21 b21 "com/example/sixfold/sixfold/rules/Move" "captured" "Lcom/example/sixfold/sixfold/rules/Piece;" .null := D21 (Or.inr (oW hw 33 rfl)) (ty := (.object "com/example/sixfold/sixfold/rules/Piece")) (by decide)
      have F_capturedOn_b21 : Fld Z h21 b21 "com/example/sixfold/sixfold/rules/Move" "capturedOn" "I" (.int 0) := D21 (Or.inr (oW hw 35 rfl)) (ty := .int) (by decide)
      have F_castling_b21 : Fld Z h21 b21 "com/example/sixfold/sixfold/rules/Move" "castling" "Lcom/example/sixfold/sixfold/rules/Castling;" .null := D21 (Or.inr (oW hw 37 rfl)) (ty := (.object "com/example/sixfold/sixfold/rules/Castling")) (by decide)
      have F_promotion_b21 : Fld Z h21 b21 "com/example/sixfold/sixfold/rules/Move" "promotion" "Lcom/example/sixfold/sixfold/rules/Piece;" .null := D21 (Or.inr (oW hw 39 rfl)) (ty := (.object "com/example/sixfold/sixfold/rules/Piece")) (by decide)
      refine oS (fun t k => st21 t k) ?_
      refine oS (fun t k => XS.dup X21.here hx rfl (hb hby at_67) rfl rfl k) ?_
      refine oS (fun t k => XS.aload X21.here hx rfl (hb hby at_68) rfl rfl k) ?_
      refine oS (fun t k => XS.iloadN X21.here hx rfl (hb hby at_70) rfl k) ?_
      refine oS (fun t k => XS.iload X21.here hx rfl (hb hby at_71) rfl k) ?_
      refine oS (fun t k => XS.aload X21.here hx rfl (hb hby at_73) rfl rfl k) ?_
      refine oS (fun t k => XS.iloadN X21.here hx rfl (hb hby at_75) rfl k) ?_
      refine oS (fun t k => XS.aconstNull X21.here hx rfl (hb hby at_76) k) ?_
      show oG _ _ _ _ _ _ _ (T21.setTop (mkF m 77 #[.val (.int p1), .val (.int p2), .val (.int p3), .val (.int p4), .val (.int p5), .val (.int p6), .val (.int 1), .val (.int 1), .val (.ref (own_pick w ((p1 &&& (2147483647 : Int32)) % (12 : Int32)))), .val (.ref (own_pick w ((p2 &&& (2147483647 : Int32)) % (12 : Int32)))), .val (.ref (own_pick w ((p3 &&& (2147483647 : Int32)) % (12 : Int32)))), .unset, .unset] [.null, (.int p3), (.ref (own_pick w ((p3 &&& (2147483647 : Int32)) % (12 : Int32)))), (.int p5), (.int p4), (.ref (own_pick w ((p1 &&& (2147483647 : Int32)) % (12 : Int32)))), (.ref b21), (.ref b21)]))
      refine oS (fun t k => XS.aload X21.here hx rfl (hb hby at_77) rfl rfl k) ?_
      obtain ⟨_, _, ⟨T22, L22, k22, n22⟩, -, X22, ⟨Lc22, hQ22, l22, y22, z22⟩, st22⟩ := X21.specialBack hx (y := mY2) rfl hown (mvT hZ (oW hw 15 rfl)) (mvT hZ (oW hw 16 rfl)) (mvT hZ (oW hw 17 rfl)) (by decide) (backOf (W := 1) (rm_init_11 l Z a0 hw [] b21 (own_pick w ((p1 &&& (2147483647 : Int32)) % (12 : Int32))) p4 p5 (own_pick w ((p3 &&& (2147483647 : Int32)) % (12 : Int32))) p3 (own_pick w ((p2 &&& (2147483647 : Int32)) % (12 : Int32))) .null (.int 0) (.int 0) .null (.int 0) .null .null w h21 n0 O21 W A21 gx21 F_piece_b21 F_from_b21 F_to_b21 F_captured_b21 F_capturedOn_b21 F_castling_b21 F_promotion_b21) hZ (oW hw 17 rfl) (oW hw 14 rfl) (by decide) (by decide)) (g := (mkF m 79 #[.val (.int p1), .val (.int p2), .val (.int p3), .val (.int p4), .val (.int p5), .val (.int p6), .val (.int 1), .val (.int 1), .val (.ref (own_pick w ((p1 &&& (2147483647 : Int32)) % (12 : Int32)))), .val (.ref (own_pick w ((p2 &&& (2147483647 : Int32)) % (12 : Int32)))), .val (.ref (own_pick w ((p3 &&& (2147483647 : Int32)) % (12 : Int32)))), .unset, .unset] [(.ref (own_pick w ((p2 &&& (2147483647 : Int32)) % (12 : Int32)))), .null, (.int p3), (.ref (own_pick w ((p3 &&& (2147483647 : Int32)) % (12 : Int32)))), (.int p5), (.int p4), (.ref (own_pick w ((p1 &&& (2147483647 : Int32)) % (12 : Int32)))), (.ref b21), (.ref b21)])) rfl (by rw [hml]; rfl) (Steps.refl _) (a := b21) (argsL := [(.ref (own_pick w ((p1 &&& (2147483647 : Int32)) % (12 : Int32)))), (.int p4), (.int p5), (.ref (own_pick w ((p3 &&& (2147483647 : Int32)) % (12 : Int32)))), (.int p3), .null, (.ref (own_pick w ((p2 &&& (2147483647 : Int32)) % (12 : Int32))))]) (rest := [(.ref b21)]) (lenOf pd_2 rfl) rfl (by show 2 * 0 + _ ≤ _; exact Nat.le_of_eq rfl) (hb hby at_79) (fun _ _ => ⟨rfl, e21, (by decide : 1 + 0 ≤ _), (by decide : 7 + 0 ≤ _)⟩)
      dsimp only [Pt.U, Pt.locs, Pt.cells, Pt.slots] at X22 l22 y22 z22 st22 hQ22
      subst l22 y22 z22
      obtain ⟨rfl, Nq22, K22, P22_0, P22_1, P22_2, P22_3, P22_4, P22_5, P22_6, P22_7⟩ := hQ22
      have N22 := Fr.app N20 Nq22
      have O22 := O21.keep K22 (allS gx21 all0)
      refine oS (fun t k => st22.trans k) ?_
      show oG _ _ _ _ _ _ _ (T22.setTop (mkF m 82 #[.val (.int p1), .val (.int p2), .val (.int p3), .val (.int p4), .val (.int p5), .val (.int p6), .val (.int 1), .val (.int 1), .val (.ref (own_pick w ((p1 &&& (2147483647 : Int32)) % (12 : Int32)))), .val (.ref (own_pick w ((p2 &&& (2147483647 : Int32)) % (12 : Int32)))), .val (.ref (own_pick w ((p3 &&& (2147483647 : Int32)) % (12 : Int32)))), .unset, .unset] [(.ref b21)]))
      refine oS (fun t k => XS.astore X22.here hx rfl (hb hby at_82) rfl rfl (l' := #[.val (.int p1), .val (.int p2), .val (.int p3), .val (.int p4), .val (.int p5), .val (.int p6), .val (.int 1), .val (.int 1), .val (.ref (own_pick w ((p1 &&& (2147483647 : Int32)) % (12 : Int32)))), .val (.ref (own_pick w ((p2 &&& (2147483647 : Int32)) % (12 : Int32)))), .val (.ref (own_pick w ((p3 &&& (2147483647 : Int32)) % (12 : Int32)))), .val (.ref b21), .unset]) rfl k) ?_
      refine oS (fun t k => XS.aload X22.here hx rfl (hb hby at_84) rfl rfl k) ?_
      obtain ⟨cq23, kq23, q23a, q23b, q23c⟩ := isOf hZ rfl P22_0
      obtain ⟨_, _, ⟨T23, L23, k23, n23⟩, -, X23, ⟨Lc23, hQ23, l23, y23, z23⟩, st23⟩ := X22.virtualBack hx (y := mY3) (z := mY3) hown (mvT hZ (oW hw 40 rfl)) (mvT hZ (oW hw 41 rfl)) (notFace_of_selects (args := #[]) (mvT hZ (oW hw 43 rfl))) (mvT hZ (oW hw 43 rfl)) (mvT hZ (oW hw 42 rfl)) (by decide) (backOf (W := 0) (rm_land_1 l Z a0 hw [] b21 (own_pick w ((p2 &&& (2147483647 : Int32)) % (12 : Int32)))  T22.heap n0 O22  P22_7) hZ (oW hw 44 rfl) (oW hw 14 rfl) (by decide) (by decide)) q23a q23c (g := (mkF m 86 #[.val (.int p1), .val (.int p2), .val (.int p3), .val (.int p4), .val (.int p5), .val (.int p6), .val (.int 1), .val (.int 1), .val (.ref (own_pick w ((p1 &&& (2147483647 : Int32)) % (12 : Int32)))), .val (.ref (own_pick w ((p2 &&& (2147483647 : Int32)) % (12 : Int32)))), .val (.ref (own_pick w ((p3 &&& (2147483647 : Int32)) % (12 : Int32)))), .val (.ref b21), .unset] [(.ref b21)])) rfl (by rw [hml]; rfl) (Steps.refl _) (argsL := []) (rest := []) (lenOf pd_3 rfl) rfl (by show 2 * 0 + _ ≤ _; exact Nat.le_of_eq rfl) (hb hby at_86) (fun _ _ => ⟨rfl, rfl, (by decide : 1 + 0 ≤ _), (by decide : 7 + 0 ≤ _)⟩)
      dsimp only [Pt.U, Pt.locs, Pt.cells, Pt.slots] at X23 l23 y23 z23 st23 hQ23
      subst l23 y23 z23
      obtain ⟨rfl, Nq23, e23⟩ := hQ23
      have N23 := Fr.app N22 Nq23
      refine oS (fun t k => st23.trans k) ?_
      show oG _ _ _ _ _ _ _ (T23.setTop (mkF m 89 #[.val (.int p1), .val (.int p2), .val (.int p3), .val (.int p4), .val (.int p5), .val (.int p6), .val (.int 1), .val (.int 1), .val (.ref (own_pick w ((p1 &&& (2147483647 : Int32)) % (12 : Int32)))), .val (.ref (own_pick w ((p2 &&& (2147483647 : Int32)) % (12 : Int32)))), .val (.ref (own_pick w ((p3 &&& (2147483647 : Int32)) % (12 : Int32)))), .val (.ref b21), .unset] [(.ref (own_pick w ((p2 &&& (2147483647 : Int32)) % (12 : Int32))))]))
      refine oS (fun t k => XS.astore X23.here hx rfl (hb hby at_89) rfl rfl (l' := #[.val (.int p1), .val (.int p2), .val (.int p3), .val (.int p4), .val (.int p5), .val (.int p6), .val (.int 1), .val (.int 1), .val (.ref (own_pick w ((p1 &&& (2147483647 : Int32)) % (12 : Int32)))), .val (.ref (own_pick w ((p2 &&& (2147483647 : Int32)) % (12 : Int32)))), .val (.ref (own_pick w ((p3 &&& (2147483647 : Int32)) % (12 : Int32)))), .val (.ref b21), .val (.ref (own_pick w ((p2 &&& (2147483647 : Int32)) % (12 : Int32))))]) rfl k) ?_
      refine oS (fun t k => XS.iload X23.here hx rfl (hb hby at_91) rfl k) ?_
      refine oS (fun t k => XS.ifNo X23.here hx rfl (hb hby at_93) rfl ((if0 _ _).trans (feq (by decide)).1) k) ?_
      refine oS (fun t k => XS.aload X23.here hx rfl (hb hby at_96) rfl rfl k) ?_
      refine oS (fun t k => XS.iloadN X23.here hx rfl (hb hby at_98) rfl k) ?_
      obtain ⟨_, _, ⟨T24, L24, k24, n24⟩, -, X24, ⟨Lc24, hQ24, l24, y24, z24⟩, st24⟩ := Jvm.LawKit.callS X23 hx (y := mY0) hown (mvT hZ (oW hw 0 rfl)) (mvT hZ (oW hw 1 rfl)) (mvT hZ (oW hw 2 rfl)) (mvT hZ (oW hw 3 rfl)) (by decide) (backOf (W := 1) (rm_pick l Z a0 hw [] p2 w T22.heap n0 O22 W ) hZ (oW hw 3 rfl) (oW hw 2 rfl) (by decide) (by decide)) (g := (mkF m 99 #[.val (.int p1), .val (.int p2), .val (.int p3), .val (.int p4), .val (.int p5), .val (.int p6), .val (.int 1), .val (.int 1), .val (.ref (own_pick w ((p1 &&& (2147483647 : Int32)) % (12 : Int32)))), .val (.ref (own_pick w ((p2 &&& (2147483647 : Int32)) % (12 : Int32)))), .val (.ref (own_pick w ((p3 &&& (2147483647 : Int32)) % (12 : Int32)))), .val (.ref b21), .val (.ref (own_pick w ((p2 &&& (2147483647 : Int32)) % (12 : Int32))))] [(.int p2), (.ref (own_pick w ((p2 &&& (2147483647 : Int32)) % (12 : Int32))))])) rfl (by rw [hml]; rfl) (argsL := [(.int p2)]) (rest := [(.ref (own_pick w ((p2 &&& (2147483647 : Int32)) % (12 : Int32))))]) (lenOf pd_1 rfl) rfl (by show 2 * 0 + _ ≤ _; exact Nat.le_of_eq rfl) (hb hby at_99) (fun _ _ => ⟨rfl, e23, (by decide : 1 + 0 ≤ _), (by decide : 7 + 0 ≤ _)⟩)
      dsimp only [Pt.U, Pt.locs, Pt.cells, Pt.slots] at X24 l24 y24 z24 st24 hQ24
      subst l24 y24 z24
      obtain ⟨rfl, Nq24, e24⟩ := hQ24
      have N24 := Fr.app N23 Nq24
      refine oS (fun t k => st24 t k) ?_
      show oG _ _ _ _ _ _ _ (T24.setTop (mkF m 102 #[.val (.int p1), .val (.int p2), .val (.int p3), .val (.int p4), .val (.int p5), .val (.int p6), .val (.int 1), .val (.int 1), .val (.ref (own_pick w ((p1 &&& (2147483647 : Int32)) % (12 : Int32)))), .val (.ref (own_pick w ((p2 &&& (2147483647 : Int32)) % (12 : Int32)))), .val (.ref (own_pick w ((p3 &&& (2147483647 : Int32)) % (12 : Int32)))), .val (.ref b21), .val (.ref (own_pick w ((p2 &&& (2147483647 : Int32)) % (12 : Int32))))] [(.ref (own_pick w ((p2 &&& (2147483647 : Int32)) % (12 : Int32)))), (.ref (own_pick w ((p2 &&& (2147483647 : Int32)) % (12 : Int32))))]))
      refine oS (fun t k => Jvm.RoadKit.acmp (g := (mkF m 102 #[.val (.int p1), .val (.int p2), .val (.int p3), .val (.int p4), .val (.int p5), .val (.int p6), .val (.int 1), .val (.int 1), .val (.ref (own_pick w ((p1 &&& (2147483647 : Int32)) % (12 : Int32)))), .val (.ref (own_pick w ((p2 &&& (2147483647 : Int32)) % (12 : Int32)))), .val (.ref (own_pick w ((p3 &&& (2147483647 : Int32)) % (12 : Int32)))), .val (.ref b21), .val (.ref (own_pick w ((p2 &&& (2147483647 : Int32)) % (12 : Int32))))] [(.ref (own_pick w ((p2 &&& (2147483647 : Int32)) % (12 : Int32)))), (.ref (own_pick w ((p2 &&& (2147483647 : Int32)) % (12 : Int32))))])) X24 hx rfl rfl rfl (pc0 := 102) (pc' := 105) (same := true) rfl (hb hby at_102) rfl (decide_eq_true rfl) (by decide) (by decide) k) ?_
      refine oS (fun t k => XS.iconst X24.here hx rfl (hb hby at_105) k) ?_
      refine oS (fun t k => XS.goto X24.here hx rfl (pc0 := 106) (pc' := 110) rfl (hb hby at_106) (by decide) (by decide) k) ?_
      exact own_ret (v := some (.int 1)) X24 (fun h => by rw [Bd.returns] at h; cases h) Bd.notSynchronized (fun fs hr => retN X24 hx (t := .boolean) Bd.returns (by simp) (hb hby at_110) hr) (by rw [e24]; exact ⟨rfl, N24⟩) (by decide) (by decide)
set_option maxRecDepth 65536 in
set_option maxHeartbeats 40000000 in
theorem comes_1 {Post : Tables → Env → Array Value → State → Outcome → State → Prop} (hpost : ∀ tb e args s v u, (limb_1_1.after args s (.returned v) u = true ∧ limb_1_2.after args s (.returned v) u = true ∧ True) → FrameEnd s (.returned v) u (Jvm.fieldLocs frame_1_writes args s ++ Jvm.arrayLocs frame_1_arrays args s ++ Jvm.staticLocs frame_1_statics s) 16 128 → Post tb e args s (.returned v) u) :
    ArmFor flags0 classFile x code maxLocals ret World_1 tables_1 room_1 Calls_1 rest_1 Pre_1 Post := by
  intro l hfl _ _ p e ha hc hk s m args below hf hA hF happ hP
  obtain ⟨hcalls, hrest, hpre⟩ := hP
  obtain ⟨-, -, -, hnamed, -, -, -, hat⟩ := (Spec.applies_iff hf).mp happ
  obtain ⟨hg, hn⟩ := and_e (Cond.before_iff.mp (show (Jvm.Cond.and given_1 narrow_1).before args s = true from hpre))
  obtain ⟨g0, g1⟩ := and_e hg
  obtain ⟨g2, g3⟩ := and_e g1
  obtain ⟨g4, g5⟩ := and_e g3
  obtain ⟨g6, g7⟩ := and_e g5
  obtain ⟨g8, g9⟩ := and_e g7
  obtain ⟨g10, g11⟩ := and_e g9
  obtain ⟨w0, w1, w2, w3, w4, w5, rfl⟩ : ∃ w0 w1 w2 w3 w4 w5 : Value, args = #[w0, w1, w2, w3, w4, w5] := by
    have hs : args.size = 6 := by simpa [Cond.value, given_1] using g0
    obtain ⟨L⟩ := args
    match L, hs with
    | [w0, w1, w2, w3, w4, w5], _ => exact ⟨w0, w1, w2, w3, w4, w5, rfl⟩
  have hw := fun d (hd : d ∈ tables_1) => atoms_spec (ws := Jvm.Cond.code x code maxLocals ret :: tables_1) hat d (List.mem_cons_of_mem _ hd)
  have hfit : Fit s := fun {y c} hc i hi => by
    obtain ⟨ha, rfl⟩ := Array.getElem?_eq_some_iff.mp hc
    have q := List.all_eq_true.mp ((Array.all_eq_true_iff_forall_mem.mp hF) _ (Array.getElem_mem ha)) i (List.mem_range.mpr hi)
    simpa [Array.getElem?_eq_getElem hi] using q
  obtain ⟨i0, ei0⟩ := is_v g2
  obtain rfl : w0 = (.int i0) := Option.some.inj ei0
  obtain ⟨i1, ei1⟩ := is_v g4
  obtain rfl : w1 = (.int i1) := Option.some.inj ei1
  obtain ⟨i2, ei2⟩ := is_v g6
  obtain rfl : w2 = (.int i2) := Option.some.inj ei2
  obtain ⟨i3, ei3⟩ := is_v g8
  obtain rfl : w3 = (.int i3) := Option.some.inj ei3
  obtain ⟨i4, ei4⟩ := is_v g10
  obtain rfl : w4 = (.int i4) := Option.some.inj ei4
  obtain ⟨i5, ei5⟩ := is_v g11
  obtain rfl : w5 = (.int i5) := Option.some.inj ei5
  obtain ⟨w, W⟩ := own_world hw hfit hn
  obtain ⟨n, o, h1, h2, h3, _, L, rfl, ⟨rfl, N⟩, hq⟩ := rm_law l s _ hw tables_1 i0 i1 i2 i3 i4 i5 w s.heap s.heap.size (Old.start s) W  p e ha hc hk s m _ below hf ((Spec.applies_iff_loose hf).mp happ).1 ⟨rfl, State.Warmed39.refl s, rfl⟩ trivial
  refine ⟨n, _, h1, h2, h3, hpost _ _ _ _ _ _ ⟨Cond.after_iff.mpr rfl, Cond.after_iff.mpr (eq_i res_at (Term.int_eval (1)) rfl), trivial⟩ ⟨hq.1, hq.2.1, (hq.2.2.sift fun y hy => Or.inr (N y hy)).mono (by decide) (by decide)⟩⟩
theorem main_1_1 : Claimed_1_1 := comes_1 fun _ _ _ _ _ _ h hF => ⟨h.1, hF⟩
theorem main_1_2 : Claimed_1_2 := comes_1 fun _ _ _ _ _ _ h hF => ⟨h.2.1, hF⟩
end Jvm.Pilot.@@N@@
namespace Jvm.Pilot.@@N@@
open Jvm Jvm.ClassFile Sem Op Lib Jvm.Free Jvm.Stand Jvm.Pilot.@@N@@.Jvm.D
/-! MADE BY PROGRAM (witnessworld.py) out of the Statement's table words and the real class files: 14 classes; the members and pool entries that the words name. The judged class is class 1, her method 2. -/
namespace start1
open Jvm.ClassFile
def u (s : String) : CpInfo := .utf8 (stringToUtf16 s)
/-- a pool by its gaps: so many unusable entries, then the entry; so many at the end -/
def gap : Nat → List CpInfo → List CpInfo
  | 0, r => r
  | n + 1, r => .unusable :: gap n r
def poolList (es : List (Nat × CpInfo)) (last : Nat) : List CpInfo := es.foldr (fun e r => gap e.1 (e.2 :: r)) (gap last [])
def pool (es : List (Nat × CpInfo)) (last : Nat) : Array CpInfo := ⟨poolList es last⟩
def fileOf (pool : Array CpInfo) (this : Nat) (attrs : Array Attribute := #[]) (ms : Array MethodInfo := #[]) (fl : Nat := 33) (sup : Nat := 0) (ifs : Array Nat := #[]) (fds : Array FieldInfo := #[]) : ClassFile where
  minorVersion := 0
  majorVersion := 65
  constantPool := pool
  accessFlags := fl
  thisClass := this
  superClass := sup
  interfaces := ifs
  fields := fds
  methods := ms
  attributes := attrs
def plain (name : String) (sup : Option ClassId) : Class where
  name := name
  kind := .ordinary
  loader := none
  accessFlags := 33
  super := sup
  interfaces := #[]
  cf := none
  fields := #[]
  methods := #[]
  instanceTypes := #[]
  staticTypes := #[]
  resolved := #[]
  callSites := []
  init := .initialized
  statics := none
  mirror := none

def pool0 : Array CpInfo := pool [(5, u "<init>"), (0, u "()V"), (1, .class_ 10), (1, u "java/lang/Object")] 113

def k0c0 : Code := { maxStack := 0, maxLocals := 1, code := object_method_1_code, exceptionTable := #[], attributes := #[] }
def k0m0 : Method := { name := "<init>", desc := "()V", sig := { parameters := [], returnType := none }, accessFlags := 1, code := some k0c0 }
/-- java/lang/Object -/
def k0 : Class := { plain "java/lang/Object" none with
  accessFlags := 33
  interfaces := #[]
  cf := some (fileOf pool0 8 #[] #[{ accessFlags := 1, nameIndex := 5, descriptorIndex := 6, attributes := #[] }] 33 0 #[] #[])
  fields := #[]
  methods := #[k0m0]
  instanceTypes := #[]
  staticTypes := #[]
  resolved := Array.replicate 124 none
  statics := none }

def pool1 : Array CpInfo := pool [(2, .class_ 4), (1, u "java/lang/Object"), (0, u "<init>"), (0, u "()V"), (0, .integer 2147483647), (0, .fieldref 9 10), (0, .class_ 11), (0, .nameAndType 12 13), (0, u "com/example/sixfold/sixfold/rules/Piece"), (0, u "WHITE_KING"), (0, u "Lcom/example/sixfold/sixfold/rules/Piece;"), (0, .fieldref 9 15), (0, .nameAndType 16 13), (0, u "WHITE_QUEEN"), (0, .fieldref 9 18), (0, .nameAndType 19 13), (0, u "WHITE_ROOK"), (0, .fieldref 9 21), (0, .nameAndType 22 13), (0, u "WHITE_BISHOP"), (0, .fieldref 9 24), (0, .nameAndType 25 13), (0, u "WHITE_KNIGHT"), (0, .fieldref 9 27), (0, .nameAndType 28 13), (0, u "WHITE_PAWN"), (0, .fieldref 9 30), (0, .nameAndType 31 13), (0, u "BLACK_KING"), (0, .fieldref 9 33), (0, .nameAndType 34 13), (0, u "BLACK_QUEEN"), (0, .fieldref 9 36), (0, .nameAndType 37 13), (0, u "BLACK_ROOK"), (0, .fieldref 9 39), (0, .nameAndType 40 13), (0, u "BLACK_BISHOP"), (0, .fieldref 9 42), (0, .nameAndType 43 13), (0, u "BLACK_KNIGHT"), (0, .fieldref 9 45), (0, .nameAndType 46 13), (0, u "BLACK_PAWN"), (0, .methodref 48 49), (0, .class_ 50), (0, .nameAndType 51 52), (0, u "com/example/sixfold/sixfold/rules/MoveLandingPinLaw"), (0, u "pick"), (0, u "(I)Lcom/example/sixfold/sixfold/rules/Piece;"), (0, .class_ 54), (0, u "com/example/sixfold/sixfold/rules/Move"), (0, .methodref 53 56), (0, .nameAndType 5 57), (0, u "(Lcom/example/sixfold/sixfold/rules/Piece;IILcom/example/sixfold/sixfold/rules/Piece;ILcom/example/sixfold/sixfold/rules/Castling;Lcom/example/sixfold/sixfold/rules/Piece;)V"), (0, .methodref 53 59), (0, .nameAndType 60 61), (0, u "landing"), (0, u "()Lcom/example/sixfold/sixfold/rules/Piece;"), (3, u "law"), (0, u "(IIIIII)Z")] 2

def k1m0 : Method := { name := "<init>", desc := "()V", sig := { parameters := [], returnType := none }, accessFlags := 2, code := none }
def k1c1 : Code := { maxStack := 2, maxLocals := 2, code := method_2_code, exceptionTable := #[], attributes := #[] }
def k1m1 : Method := { name := "pick", desc := "(I)Lcom/example/sixfold/sixfold/rules/Piece;", sig := { parameters := [.int], returnType := some (.object "com/example/sixfold/sixfold/rules/Piece") }, accessFlags := 10, code := some k1c1 }
def k1c2 : Code := { maxStack := 9, maxLocals := 13, code := code, exceptionTable := #[], attributes := #[] }
def k1m2 : Method := { name := "law", desc := "(IIIIII)Z", sig := { parameters := [.int, .int, .int, .int, .int, .int], returnType := some .boolean }, accessFlags := 9, code := some k1c2 }
/-- com/example/sixfold/sixfold/rules/MoveLandingPinLaw -/
def k1 : Class := { plain "com/example/sixfold/sixfold/rules/MoveLandingPinLaw" (some 0) with
  accessFlags := 49
  interfaces := #[]
  cf := some (fileOf pool1 48 #[] #[{ accessFlags := 2, nameIndex := 5, descriptorIndex := 6, attributes := #[] }, { accessFlags := 10, nameIndex := 51, descriptorIndex := 52, attributes := #[] }, { accessFlags := 9, nameIndex := 65, descriptorIndex := 66, attributes := #[] }] 49 2 #[] #[])
  fields := #[]
  methods := #[k1m0, k1m1, k1m2]
  instanceTypes := #[]
  staticTypes := #[]
  resolved := Array.replicate 69 none
  statics := none }

def pool2 : Array CpInfo := pool [(1, .class_ 2), (0, u "java/lang/constant/Constable"), (0, .class_ 4), (0, u "java/lang/Object")] 6

/-- java/lang/constant/Constable -/
def k2 : Class := { plain "java/lang/constant/Constable" (some 0) with
  accessFlags := 1537
  interfaces := #[]
  cf := some (fileOf pool2 1 #[] #[] 1537 3 #[] #[])
  fields := #[]
  methods := #[]
  instanceTypes := #[]
  staticTypes := #[]
  resolved := Array.replicate 11 none
  statics := none }

def pool3 : Array CpInfo := pool [(1, .class_ 2), (0, u "java/lang/Comparable"), (0, .class_ 4), (0, u "java/lang/Object")] 7

/-- java/lang/Comparable -/
def k3 : Class := { plain "java/lang/Comparable" (some 0) with
  accessFlags := 1537
  interfaces := #[]
  cf := some (fileOf pool3 1 #[] #[] 1537 3 #[] #[])
  fields := #[]
  methods := #[]
  instanceTypes := #[]
  staticTypes := #[]
  resolved := Array.replicate 12 none
  statics := none }

def pool4 : Array CpInfo := pool [(1, .class_ 2), (0, u "java/io/Serializable"), (0, .class_ 4), (0, u "java/lang/Object")] 2

/-- java/io/Serializable -/
def k4 : Class := { plain "java/io/Serializable" (some 0) with
  accessFlags := 1537
  interfaces := #[]
  cf := some (fileOf pool4 1 #[] #[] 1537 3 #[] #[])
  fields := #[]
  methods := #[]
  instanceTypes := #[]
  staticTypes := #[]
  resolved := Array.replicate 7 none
  statics := none }

def pool5 : Array CpInfo := pool [(2, .class_ 4), (1, u "java/lang/Enum"), (0, u "name"), (0, u "Ljava/lang/String;"), (2, u "ordinal"), (0, u "I"), (1, .class_ 14), (1, u "java/lang/Object"), (4, u "hash"), (86, .class_ 108), (1, u "java/lang/Enum$EnumDesc"), (2, .class_ 112), (0, u "java/lang/constant/Constable"), (0, .class_ 114), (0, u "java/lang/Comparable"), (0, .class_ 116), (0, u "java/io/Serializable")] 87

/-- java/lang/Enum -/
def k5 : Class := { plain "java/lang/Enum" (some 0) with
  accessFlags := 1057
  interfaces := #[2, 3, 4]
  cf := some (fileOf pool5 2 #[.nestMembers #[106]] #[] 1057 12 #[111, 113, 115] #[{ accessFlags := 18, nameIndex := 5, descriptorIndex := 6, attributes := #[] }, { accessFlags := 18, nameIndex := 9, descriptorIndex := 10, attributes := #[] }, { accessFlags := 2, nameIndex := 19, descriptorIndex := 10, attributes := #[] }])
  fields := #[{ name := "name", type := (.object "java/lang/String"), accessFlags := 18, slot := 0, constantValue := 0 }, { name := "ordinal", type := .int, accessFlags := 18, slot := 1, constantValue := 0 }, { name := "hash", type := .int, accessFlags := 2, slot := 2, constantValue := 0 }]
  methods := #[]
  instanceTypes := #[(.object "java/lang/String"), .int, .int]
  staticTypes := #[]
  resolved := Array.replicate 204 none
  statics := none }

def pool6 : Array CpInfo := pool [(1, .class_ 2), (0, u "com/example/sixfold/sixfold/rules/Piece"), (2, u "WHITE_KING"), (0, u "Lcom/example/sixfold/sixfold/rules/Piece;"), (2, u "WHITE_QUEEN"), (2, u "WHITE_ROOK"), (2, u "WHITE_BISHOP"), (2, u "WHITE_KNIGHT"), (2, u "WHITE_PAWN"), (2, u "BLACK_KING"), (2, u "BLACK_QUEEN"), (2, u "BLACK_ROOK"), (2, u "BLACK_BISHOP"), (2, u "BLACK_KNIGHT"), (2, u "BLACK_PAWN"), (2, u "$VALUES"), (0, u "[Lcom/example/sixfold/sixfold/rules/Piece;"), (6, .class_ 52), (1, u "java/lang/Enum"), (8, u "side"), (0, u "Lcom/example/sixfold/sixfold/rules/Side;"), (2, u "kind"), (0, u "Lcom/example/sixfold/sixfold/rules/Kind;"), (2, u "BY_SIDE_AND_KIND"), (0, u "[[Lcom/example/sixfold/sixfold/rules/Piece;")] 91

/-- com/example/sixfold/sixfold/rules/Piece -/
def k6 : Class := { plain "com/example/sixfold/sixfold/rules/Piece" (some 5) with
  accessFlags := 16433
  interfaces := #[]
  cf := some (fileOf pool6 1 #[] #[] 16433 50 #[] #[{ accessFlags := 16409, nameIndex := 5, descriptorIndex := 6, attributes := #[] }, { accessFlags := 16409, nameIndex := 9, descriptorIndex := 6, attributes := #[] }, { accessFlags := 16409, nameIndex := 12, descriptorIndex := 6, attributes := #[] }, { accessFlags := 16409, nameIndex := 15, descriptorIndex := 6, attributes := #[] }, { accessFlags := 16409, nameIndex := 18, descriptorIndex := 6, attributes := #[] }, { accessFlags := 16409, nameIndex := 21, descriptorIndex := 6, attributes := #[] }, { accessFlags := 16409, nameIndex := 24, descriptorIndex := 6, attributes := #[] }, { accessFlags := 16409, nameIndex := 27, descriptorIndex := 6, attributes := #[] }, { accessFlags := 16409, nameIndex := 30, descriptorIndex := 6, attributes := #[] }, { accessFlags := 16409, nameIndex := 33, descriptorIndex := 6, attributes := #[] }, { accessFlags := 16409, nameIndex := 36, descriptorIndex := 6, attributes := #[] }, { accessFlags := 16409, nameIndex := 39, descriptorIndex := 6, attributes := #[] }, { accessFlags := 26, nameIndex := 69, descriptorIndex := 70, attributes := #[] }, { accessFlags := 18, nameIndex := 61, descriptorIndex := 62, attributes := #[] }, { accessFlags := 18, nameIndex := 65, descriptorIndex := 66, attributes := #[] }, { accessFlags := 4122, nameIndex := 42, descriptorIndex := 43, attributes := #[] }])
  fields := #[{ name := "WHITE_KING", type := (.object "com/example/sixfold/sixfold/rules/Piece"), accessFlags := 16409, slot := 0, constantValue := 0 }, { name := "WHITE_QUEEN", type := (.object "com/example/sixfold/sixfold/rules/Piece"), accessFlags := 16409, slot := 1, constantValue := 0 }, { name := "WHITE_ROOK", type := (.object "com/example/sixfold/sixfold/rules/Piece"), accessFlags := 16409, slot := 2, constantValue := 0 }, { name := "WHITE_BISHOP", type := (.object "com/example/sixfold/sixfold/rules/Piece"), accessFlags := 16409, slot := 3, constantValue := 0 }, { name := "WHITE_KNIGHT", type := (.object "com/example/sixfold/sixfold/rules/Piece"), accessFlags := 16409, slot := 4, constantValue := 0 }, { name := "WHITE_PAWN", type := (.object "com/example/sixfold/sixfold/rules/Piece"), accessFlags := 16409, slot := 5, constantValue := 0 }, { name := "BLACK_KING", type := (.object "com/example/sixfold/sixfold/rules/Piece"), accessFlags := 16409, slot := 6, constantValue := 0 }, { name := "BLACK_QUEEN", type := (.object "com/example/sixfold/sixfold/rules/Piece"), accessFlags := 16409, slot := 7, constantValue := 0 }, { name := "BLACK_ROOK", type := (.object "com/example/sixfold/sixfold/rules/Piece"), accessFlags := 16409, slot := 8, constantValue := 0 }, { name := "BLACK_BISHOP", type := (.object "com/example/sixfold/sixfold/rules/Piece"), accessFlags := 16409, slot := 9, constantValue := 0 }, { name := "BLACK_KNIGHT", type := (.object "com/example/sixfold/sixfold/rules/Piece"), accessFlags := 16409, slot := 10, constantValue := 0 }, { name := "BLACK_PAWN", type := (.object "com/example/sixfold/sixfold/rules/Piece"), accessFlags := 16409, slot := 11, constantValue := 0 }, { name := "BY_SIDE_AND_KIND", type := (.array (.array (.object "com/example/sixfold/sixfold/rules/Piece"))), accessFlags := 26, slot := 12, constantValue := 0 }, { name := "side", type := (.object "com/example/sixfold/sixfold/rules/Side"), accessFlags := 18, slot := 3, constantValue := 0 }, { name := "kind", type := (.object "com/example/sixfold/sixfold/rules/Kind"), accessFlags := 18, slot := 4, constantValue := 0 }, { name := "$VALUES", type := (.array (.object "com/example/sixfold/sixfold/rules/Piece")), accessFlags := 4122, slot := 13, constantValue := 0 }]
  methods := #[]
  instanceTypes := #[(.object "java/lang/String"), .int, .int, (.object "com/example/sixfold/sixfold/rules/Side"), (.object "com/example/sixfold/sixfold/rules/Kind")]
  staticTypes := #[(.object "com/example/sixfold/sixfold/rules/Piece"), (.object "com/example/sixfold/sixfold/rules/Piece"), (.object "com/example/sixfold/sixfold/rules/Piece"), (.object "com/example/sixfold/sixfold/rules/Piece"), (.object "com/example/sixfold/sixfold/rules/Piece"), (.object "com/example/sixfold/sixfold/rules/Piece"), (.object "com/example/sixfold/sixfold/rules/Piece"), (.object "com/example/sixfold/sixfold/rules/Piece"), (.object "com/example/sixfold/sixfold/rules/Piece"), (.object "com/example/sixfold/sixfold/rules/Piece"), (.object "com/example/sixfold/sixfold/rules/Piece"), (.object "com/example/sixfold/sixfold/rules/Piece"), (.array (.array (.object "com/example/sixfold/sixfold/rules/Piece"))), (.array (.object "com/example/sixfold/sixfold/rules/Piece"))]
  resolved := Array.replicate 162 none
  statics := some 0 }

def pool7 : Array CpInfo := pool [(1, .methodref 2 3), (0, .class_ 4), (0, .nameAndType 5 6), (0, u "java/lang/Object"), (0, u "<init>"), (0, u "()V"), (0, .class_ 8), (0, u "java/lang/Record")] 13

def k7c0 : Code := { maxStack := 1, maxLocals := 1, code := jdk_30_method_1_code, exceptionTable := #[], attributes := #[] }
def k7m0 : Method := { name := "<init>", desc := "()V", sig := { parameters := [], returnType := none }, accessFlags := 4, code := some k7c0 }
/-- java/lang/Record -/
def k7 : Class := { plain "java/lang/Record" (some 0) with
  accessFlags := 1057
  interfaces := #[]
  cf := some (fileOf pool7 7 #[] #[{ accessFlags := 4, nameIndex := 5, descriptorIndex := 6, attributes := #[] }] 1057 2 #[] #[])
  fields := #[]
  methods := #[k7m0]
  instanceTypes := #[]
  staticTypes := #[]
  resolved := Array.replicate 22 none
  statics := none }

def pool8 : Array CpInfo := pool [(1, .methodref 2 3), (0, .class_ 4), (0, .nameAndType 5 6), (0, u "java/lang/Record"), (0, u "<init>"), (0, u "()V"), (0, .fieldref 8 9), (0, .class_ 10), (0, .nameAndType 11 12), (0, u "com/example/sixfold/sixfold/rules/Move"), (0, u "piece"), (0, u "Lcom/example/sixfold/sixfold/rules/Piece;"), (0, .fieldref 8 14), (0, .nameAndType 15 16), (0, u "from"), (0, u "I"), (0, .fieldref 8 18), (0, .nameAndType 19 16), (0, u "to"), (0, .fieldref 8 21), (0, .nameAndType 22 12), (0, u "captured"), (0, .fieldref 8 24), (0, .nameAndType 25 16), (0, u "capturedOn"), (0, .fieldref 8 27), (0, .nameAndType 28 29), (0, u "castling"), (0, u "Lcom/example/sixfold/sixfold/rules/Castling;"), (0, .fieldref 8 31), (0, .nameAndType 32 12), (0, u "promotion"), (9, u "(Lcom/example/sixfold/sixfold/rules/Piece;IILcom/example/sixfold/sixfold/rules/Piece;ILcom/example/sixfold/sixfold/rules/Castling;Lcom/example/sixfold/sixfold/rules/Piece;)V"), (78, u "landing"), (0, u "()Lcom/example/sixfold/sixfold/rules/Piece;")] 42

def k8c0 : Code := { maxStack := 2, maxLocals := 8, code := prog_16_method_5_code, exceptionTable := #[], attributes := #[] }
def k8m0 : Method := { name := "<init>", desc := "(Lcom/example/sixfold/sixfold/rules/Piece;IILcom/example/sixfold/sixfold/rules/Piece;ILcom/example/sixfold/sixfold/rules/Castling;Lcom/example/sixfold/sixfold/rules/Piece;)V", sig := { parameters := [(.object "com/example/sixfold/sixfold/rules/Piece"), .int, .int, (.object "com/example/sixfold/sixfold/rules/Piece"), .int, (.object "com/example/sixfold/sixfold/rules/Castling"), (.object "com/example/sixfold/sixfold/rules/Piece")], returnType := none }, accessFlags := 1, code := some k8c0 }
def k8c1 : Code := { maxStack := 1, maxLocals := 1, code := prog_16_method_8_code, exceptionTable := #[], attributes := #[] }
def k8m1 : Method := { name := "landing", desc := "()Lcom/example/sixfold/sixfold/rules/Piece;", sig := { parameters := [], returnType := some (.object "com/example/sixfold/sixfold/rules/Piece") }, accessFlags := 1, code := some k8c1 }
/-- com/example/sixfold/sixfold/rules/Move -/
def k8 : Class := { plain "com/example/sixfold/sixfold/rules/Move" (some 7) with
  accessFlags := 49
  interfaces := #[]
  cf := some (fileOf pool8 8 #[] #[{ accessFlags := 1, nameIndex := 5, descriptorIndex := 42, attributes := #[] }, { accessFlags := 1, nameIndex := 121, descriptorIndex := 122, attributes := #[] }] 49 2 #[] #[{ accessFlags := 18, nameIndex := 11, descriptorIndex := 12, attributes := #[] }, { accessFlags := 18, nameIndex := 15, descriptorIndex := 16, attributes := #[] }, { accessFlags := 18, nameIndex := 19, descriptorIndex := 16, attributes := #[] }, { accessFlags := 18, nameIndex := 22, descriptorIndex := 12, attributes := #[] }, { accessFlags := 18, nameIndex := 25, descriptorIndex := 16, attributes := #[] }, { accessFlags := 18, nameIndex := 28, descriptorIndex := 29, attributes := #[] }, { accessFlags := 18, nameIndex := 32, descriptorIndex := 12, attributes := #[] }])
  fields := #[{ name := "piece", type := (.object "com/example/sixfold/sixfold/rules/Piece"), accessFlags := 18, slot := 0, constantValue := 0 }, { name := "from", type := .int, accessFlags := 18, slot := 1, constantValue := 0 }, { name := "to", type := .int, accessFlags := 18, slot := 2, constantValue := 0 }, { name := "captured", type := (.object "com/example/sixfold/sixfold/rules/Piece"), accessFlags := 18, slot := 3, constantValue := 0 }, { name := "capturedOn", type := .int, accessFlags := 18, slot := 4, constantValue := 0 }, { name := "castling", type := (.object "com/example/sixfold/sixfold/rules/Castling"), accessFlags := 18, slot := 5, constantValue := 0 }, { name := "promotion", type := (.object "com/example/sixfold/sixfold/rules/Piece"), accessFlags := 18, slot := 6, constantValue := 0 }]
  methods := #[k8m0, k8m1]
  instanceTypes := #[(.object "com/example/sixfold/sixfold/rules/Piece"), .int, .int, (.object "com/example/sixfold/sixfold/rules/Piece"), .int, (.object "com/example/sixfold/sixfold/rules/Castling"), (.object "com/example/sixfold/sixfold/rules/Piece")]
  staticTypes := #[]
  resolved := Array.replicate 165 none
  statics := none }

def pool9 : Array CpInfo := pool [(1, u "java/lang/Cloneable"), (0, .class_ 1), (0, u "java/lang/Object"), (0, .class_ 3)] 3

/-- java/lang/Cloneable -/
def k9 : Class := { plain "java/lang/Cloneable" (some 0) with
  accessFlags := 1537
  interfaces := #[]
  cf := some (fileOf pool9 2 #[] #[] 1537 4 #[] #[])
  fields := #[]
  methods := #[]
  instanceTypes := #[]
  staticTypes := #[]
  resolved := Array.replicate 8 none
  statics := none }

/-- the primitive byte -/
def k10 : Class := { plain "byte" none with kind := .primitive 'B', accessFlags := 0x411 }
/-- [B -/
def k11 : Class := { plain "[B" (some 0) with kind := .array 10 .byte, interfaces := #[9, 4], accessFlags := 1041 }

/-- the primitive int -/
def k12 : Class := { plain "int" none with kind := .primitive 'I', accessFlags := 0x411 }
/-- [I -/
def k13 : Class := { plain "[I" (some 0) with kind := .array 12 .int, interfaces := #[9, 4], accessFlags := 1041 }

def heap : Heap := #[{ cls := 6, slots := #[.ref 1, .ref 7, .ref 3, .ref 2, .ref 4, .ref 9, .ref 10, .ref 8, .ref 12, .ref 5, .ref 11, .ref 6, .null, .null], vm := .statics 6 },
  { cls := 6, slots := #[.null, .int 0, .int 0, .null, .null], vm := .none },
  { cls := 6, slots := #[.null, .int 0, .int 0, .null, .null], vm := .none },
  { cls := 6, slots := #[.null, .int 0, .int 0, .null, .null], vm := .none },
  { cls := 6, slots := #[.null, .int 0, .int 0, .null, .null], vm := .none },
  { cls := 6, slots := #[.null, .int 0, .int 0, .null, .null], vm := .none },
  { cls := 6, slots := #[.null, .int 0, .int 0, .null, .null], vm := .none },
  { cls := 6, slots := #[.null, .int 0, .int 0, .null, .null], vm := .none },
  { cls := 6, slots := #[.null, .int 0, .int 0, .null, .null], vm := .none },
  { cls := 6, slots := #[.null, .int 0, .int 0, .null, .null], vm := .none },
  { cls := 6, slots := #[.null, .int 0, .int 0, .null, .null], vm := .none },
  { cls := 6, slots := #[.null, .int 0, .int 0, .null, .null], vm := .none },
  { cls := 6, slots := #[.null, .int 0, .int 0, .null, .null], vm := .none }]
def classes : Array Class := #[k0, k1, k2, k3, k4, k5, k6, k7, k8, k9, k10, k11, k12, k13]
def interned : List (Array UInt16 × Addr) := []
def slotsUsed : Nat := 74
def theMethod : MethodId := ⟨1, 2⟩
def args0 : Array Value := #[.int 5, .int 1, .int 2, .int 3, .int 4, .int 3]
def aboutOver (below : List Frame) : State where
  vm := { classes := classes, interned := interned.toArray }
  heap := heap
  slotsUsed := slotsUsed
  threads := #[{ frames := .invoking theMethod args0 :: below }]
def below0 : List Frame := [.native { method := ⟨0, 0⟩, args := #[] }]
def about1 : State := aboutOver below0
def p0 : Program := .bare "" "" ""
def e0 : Env := launch0.env 0 0 0
theorem w_frames : about1.frames = Frame.invoking theMethod args0 :: below0 := rfl
set_option maxRecDepth 65536 in
theorem w_args : argsFit about1.vm theMethod args0 = true := by decide +kernel
set_option maxRecDepth 65536 in
theorem w_heap : heapFits about1 = true := by decide +kernel
set_option maxRecDepth 65536 in
theorem w_runnable : about1.curStatus? = some .runnable := by decide +kernel
set_option maxRecDepth 65536 in
theorem w_alone : about1.alone = true := by decide +kernel
set_option maxRecDepth 65536 in
theorem w_named : about1.methodNamed? x = some theMethod := by decide +kernel
set_option maxRecDepth 65536 in
theorem w_hears : about1.hears theMethod below0 = true := by decide +kernel
set_option maxRecDepth 65536 in
theorem w_ripe : about1.ripe theMethod args0 below0 = true := by decide +kernel
theorem w_running : about1.status = .running := rfl
set_option maxRecDepth 65536 in
theorem w_room : about1.hasRoom e0.platform room_1 = true :=
  launch0.hasRoom_least _ room_1 (by decide +kernel) (by decide +kernel) (by decide +kernel) (by decide +kernel) (by decide +kernel) (by decide +kernel)
theorem allAtoms_all (ts : List Jvm.Cond) (a : Array Jvm.Value) (st : Jvm.State) : (allAtoms ts).before a st = ts.all (fun c => c.before a st) := by
  induction ts with
  | nil => rfl
  | cons c t ih =>
    show (Jvm.Cond.and c (allAtoms t)).before a st = _
    rw [Jvm.Cond.before_and, ih, List.all_cons]
def words1 : List Jvm.Cond := Jvm.Cond.code x code maxLocals ret :: tables_1
/-- a 'code' word, met by the world's own term for the bytes: nothing is compared byte by byte -/
theorem code_word {y : MethodName} {bytes : ByteArray} {mx : Nat} {rt : Option FieldType} {a : Array Value} {s : State} {m : MethodId} {meth : Method} {c : Code} (h1 : s.methodNamed? y = some m) (h2 : s.vm.method? m = some meth) (h3 : meth.code = some c) (h4 : c.code = bytes)
    (h5 : (c.maxLocals == mx && c.exceptionTable.isEmpty && decide (c.maxStack ≤ mostOperands) && decide (meth.sig.returnType = rt) && !meth.locks && decide (parseMethodDescriptor y.desc = some meth.sig)) = true) : (Jvm.Cond.code y bytes mx rt).before a s = true := by
  simp only [Bool.and_eq_true, beq_iff_eq, Bool.not_eq_true', decide_eq_true_eq] at h5
  obtain ⟨⟨⟨⟨⟨g1, g2⟩, g3⟩, g4⟩, g5⟩, g6⟩ := h5
  simp [Cond.before, Cond.holds, Cond.value, h1, h2, h3, h4, g1, g2, g3, g4, g5, g6]
def isCode : Jvm.Cond → Bool
  | .code _ _ _ _ => true
  | _ => false
theorem all_split {L : List Jvm.Cond} {P : Jvm.Cond → Bool} (h1 : L.all (fun c => isCode c || P c) = true) (h2 : ∀ c ∈ L.filter isCode, P c = true) : L.all P = true := by
  refine List.all_eq_true.mpr fun c hc => ?_
  have h := List.all_eq_true.mp h1 c hc
  rcases Bool.eq_false_or_eq_true (isCode c) with hi | hi
  · exact h2 c (List.mem_filter.mpr ⟨hc, hi⟩)
  · simpa [hi] using h
set_option maxRecDepth 65536 in
theorem w_c0 : (Jvm.Cond.code x code maxLocals ret).before args0 about1 = true := code_word (m := ⟨1, 2⟩) (meth := k1m2) (c := k1c2) (by decide +kernel) rfl rfl rfl (by decide +kernel)
set_option maxRecDepth 65536 in
theorem w_c1 : (Jvm.Cond.code ({ cls := "com/example/sixfold/sixfold/rules/MoveLandingPinLaw", name := "pick", desc := "(I)Lcom/example/sixfold/sixfold/rules/Piece;" } : Jvm.MethodName) method_2_code (2 : Nat) (Option.some (Jvm.ClassFile.FieldType.object "com/example/sixfold/sixfold/rules/Piece"))).before args0 about1 = true := code_word (m := ⟨1, 1⟩) (meth := k1m1) (c := k1c1) (by decide +kernel) rfl rfl rfl (by decide +kernel)
set_option maxRecDepth 65536 in
theorem w_c2 : (Jvm.Cond.code ({ cls := "com/example/sixfold/sixfold/rules/Move", name := "<init>", desc := "(Lcom/example/sixfold/sixfold/rules/Piece;IILcom/example/sixfold/sixfold/rules/Piece;ILcom/example/sixfold/sixfold/rules/Castling;Lcom/example/sixfold/sixfold/rules/Piece;)V" } : Jvm.MethodName) prog_16_method_5_code (8 : Nat) (Option.none : Option Jvm.ClassFile.FieldType)).before args0 about1 = true := code_word (m := ⟨8, 0⟩) (meth := k8m0) (c := k8c0) (by decide +kernel) rfl rfl rfl (by decide +kernel)
set_option maxRecDepth 65536 in
theorem w_c3 : (Jvm.Cond.code ({ cls := "java/lang/Record", name := "<init>", desc := "()V" } : Jvm.MethodName) jdk_30_method_1_code (1 : Nat) (Option.none : Option Jvm.ClassFile.FieldType)).before args0 about1 = true := code_word (m := ⟨7, 0⟩) (meth := k7m0) (c := k7c0) (by decide +kernel) rfl rfl rfl (by decide +kernel)
set_option maxRecDepth 65536 in
theorem w_c4 : (Jvm.Cond.code ({ cls := "java/lang/Object", name := "<init>", desc := "()V" } : Jvm.MethodName) object_method_1_code (1 : Nat) (Option.none : Option Jvm.ClassFile.FieldType)).before args0 about1 = true := code_word (m := ⟨0, 0⟩) (meth := k0m0) (c := k0c0) (by decide +kernel) rfl rfl rfl (by decide +kernel)
set_option maxRecDepth 65536 in
theorem w_c5 : (Jvm.Cond.code ({ cls := "com/example/sixfold/sixfold/rules/Move", name := "landing", desc := "()Lcom/example/sixfold/sixfold/rules/Piece;" } : Jvm.MethodName) prog_16_method_8_code (1 : Nat) (Option.some (Jvm.ClassFile.FieldType.object "com/example/sixfold/sixfold/rules/Piece"))).before args0 about1 = true := code_word (m := ⟨8, 1⟩) (meth := k8m1) (c := k8c1) (by decide +kernel) rfl rfl rfl (by decide +kernel)
def codes1 : List Jvm.Cond := [Jvm.Cond.code x code maxLocals ret, Jvm.Cond.code ({ cls := "com/example/sixfold/sixfold/rules/MoveLandingPinLaw", name := "pick", desc := "(I)Lcom/example/sixfold/sixfold/rules/Piece;" } : Jvm.MethodName) method_2_code (2 : Nat) (Option.some (Jvm.ClassFile.FieldType.object "com/example/sixfold/sixfold/rules/Piece")), Jvm.Cond.code ({ cls := "com/example/sixfold/sixfold/rules/Move", name := "<init>", desc := "(Lcom/example/sixfold/sixfold/rules/Piece;IILcom/example/sixfold/sixfold/rules/Piece;ILcom/example/sixfold/sixfold/rules/Castling;Lcom/example/sixfold/sixfold/rules/Piece;)V" } : Jvm.MethodName) prog_16_method_5_code (8 : Nat) (Option.none : Option Jvm.ClassFile.FieldType), Jvm.Cond.code ({ cls := "java/lang/Record", name := "<init>", desc := "()V" } : Jvm.MethodName) jdk_30_method_1_code (1 : Nat) (Option.none : Option Jvm.ClassFile.FieldType), Jvm.Cond.code ({ cls := "java/lang/Object", name := "<init>", desc := "()V" } : Jvm.MethodName) object_method_1_code (1 : Nat) (Option.none : Option Jvm.ClassFile.FieldType), Jvm.Cond.code ({ cls := "com/example/sixfold/sixfold/rules/Move", name := "landing", desc := "()Lcom/example/sixfold/sixfold/rules/Piece;" } : Jvm.MethodName) prog_16_method_8_code (1 : Nat) (Option.some (Jvm.ClassFile.FieldType.object "com/example/sixfold/sixfold/rules/Piece"))]
set_option maxRecDepth 65536 in
theorem codes_eq : words1.filter isCode = codes1 := rfl
theorem w_codes : ∀ c ∈ words1.filter isCode, c.before args0 about1 = true := by
  rw [codes_eq]
  intro c hc
  simp only [codes1, List.mem_cons, List.not_mem_nil, or_false] at hc
  rcases hc with rfl | rfl | rfl | rfl | rfl | rfl
  · exact w_c0
  · exact w_c1
  · exact w_c2
  · exact w_c3
  · exact w_c4
  · exact w_c5
set_option maxRecDepth 65536 in
theorem w_t1 : (words1.take 24).all (fun c => isCode c || c.before args0 about1) = true := by decide +kernel
set_option maxRecDepth 65536 in
theorem w_t2 : ((words1.drop 24).take 24).all (fun c => isCode c || c.before args0 about1) = true := by decide +kernel
set_option maxRecDepth 65536 in
theorem w_t3 : ((words1.drop 24).drop 24).all (fun c => isCode c || c.before args0 about1) = true := by decide +kernel
theorem w_tables : (allAtoms (Jvm.Cond.code x code maxLocals ret :: tables_1)).before args0 about1 = true := by
  rw [allAtoms_all]
  show words1.all (fun c => c.before args0 about1) = true
  refine all_split ?_ w_codes
  rw [← List.take_append_drop 24 words1, List.all_append, w_t1, ← List.take_append_drop 24 (words1.drop 24), List.all_append, w_t2, w_t3]
  rfl
set_option maxRecDepth 65536 in
theorem w_case : (Jvm.Cond.and given_1 narrow_1).before args0 about1 = true := by decide +kernel
theorem w_applies : (headSpec (Jvm.Cond.code x code maxLocals ret :: tables_1) room_1).applies x e0.platform about1 = true :=
  (Spec.applies_iff w_frames).mpr ⟨w_running, w_runnable, w_alone, w_named, w_hears, w_ripe, w_room, w_tables⟩
theorem atStart : AtStart classFile x code maxLocals ret World_1 tables_1 room_1 Calls_1 rest_1 Pre_1 launch0 p0 e0 about1 theMethod args0 below0 :=
  ⟨lists_1, trivial, launch0.admits_env _ _ _, launch0.least_env, fairChoices_fair.cas, fairChoices_fair.clock, w_frames, w_args, w_heap, w_applies, trivial, trivial, w_case⟩
end start1
theorem witness_1 : WitnessClaimed_1 := ⟨start1.p0, start1.e0, start1.about1, start1.theMethod, start1.args0, start1.below0, start1.atStart⟩
end Jvm.Pilot.@@N@@
