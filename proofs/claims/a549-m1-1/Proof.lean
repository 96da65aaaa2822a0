import JvmDerived
import JvmDerived.Pilot.@@N@@Statement
import JvmDerived.Pilot.@@N@@Code
set_option linter.unusedVariables false
set_option linter.unusedSimpArgs false
namespace Jvm.Pilot.@@N@@
open Jvm Jvm.ClassFile Sem Op Lib Jvm.Free Jvm.Stand Jvm.LawKit Jvm.RoadKit Bundle Jvm.Pilot.@@N@@.Jvm.D
/-! what is left of a run: it comes to its end, and there Q holds -/
def oG (p : Program) (e : Env) (below : List Frame) (s : State) (Q : Option Value → Heap → List Loc → Prop) (rc rs : Nat) (S : State) : Prop :=
  ∃ s₂ o, Steps p.tables e below S s₂ ∧ s₂.status = .running ∧ Ended s₂ below o ∧ ∃ v L, o = .returned v ∧ Q v s₂.heap L ∧ FrameEnd s o s₂ L rc rs
theorem oS {p : Program} {e : Env} {below : List Frame} {s : State} {Q : Option Value → Heap → List Loc → Prop} {rc rs : Nat} {S S' : State} (k : ∀ t, Steps p.tables e below S' t → Steps p.tables e below S t) (g : oG p e below s Q rc rs S') : oG p e below s Q rc rs S := by
  obtain ⟨s₂, o, h1, h2⟩ := g
  exact ⟨s₂, o, k _ h1, h2⟩
theorem own_ret {p : Program} {l : Launch} {e : Env} {R : Room} {s : State} {m : MethodId} {args : Array Value} {below : List Frame} {meth : Method} {c : Code} {T : State} {locs : List Loc} {cells slots : Nat} {Q : Option Value → Heap → List Loc → Prop} {rc rs : Nat} {S : State} {v : Option Value} (X : Stand p l e R s m args below meth c T locs cells slots) (hv : meth.sig.returnType = none → v = none) (hlocks : meth.locks = false)
    (st : ∀ fs, (∀ (f : JFrame) (acts : List Action), f.method = m → f.locked = none → f.entered = [] → (doReturn e (T.setTop f) acts v).1 = T.setFrames fs) → Steps p.tables e below S (T.setFrames fs)) (q : Q v T.heap locs) (hc : cells ≤ rc) (hs : slots ≤ rs) : oG p e below s Q rc rs S := by
  obtain ⟨fs, hr, hrun, hended, hW, hsame⟩ := X.leave hv hlocks
  exact ⟨_, _, st fs hr, hrun, hended, _, _, rfl, q, ⟨_, rfl⟩, hW, hsame.mono hc hs⟩
theorem oW {a0 : Array Value} {Z : State} (hw : ∀ d ∈ tables_1, d.before a0 Z = true) (i : Nat) {d : Jvm.Cond} (h : tables_1[i]? = some d) : d.before a0 Z = true := hw _ (List.mem_of_getElem? h)
theorem own_eqv {args : Array Value} {s : State} {a b : Term} {v : Value} (h : (Jvm.Cond.eq a b).value args s none s [] = some true) (hb : b.eval args s none [] s = some v) : a.eval args s none [] s = some v := by
  obtain ⟨x, y, ha, hb', -, -⟩ := cmp_v (Or.inl h)
  cases hb.symm.trans hb'
  rw [ha]
  cases x <;> cases v <;> simp [Cond.value, ha, hb] at h ⊢ <;> exact h
theorem own_len {args : Array Value} {s : State} {t : Term} {a : Addr} {cl : Cell} {ty : FieldType} {z : Int32} (h : (Term.length t).eval args s none [] s = some (.int z)) (ht : t.eval args s none [] s = some (.ref a)) (A : Arr s s.heap a cl ty) : cl.slots.size < 2 ^ 31 ∧ cl.slots.size.toInt32 = z := by
  have hA := A.fin (Vm.Alike.refl _)
  obtain ⟨a', cell, h1, h2, h3⟩ := Term.length_spec h
  cases ht.symm.trans h1
  cases hA.symm.trans h2
  refine ⟨?_, (Value.int.inj h3).symm⟩
  simp only [Term.eval, ht, hA, Option.bind_eq_bind, Option.bind_some] at h
  split at h
  · assumption
  · cases h
theorem own_sz {n : Nat} {z : Int32} (h1 : n < 2 ^ 31) (h2 : n.toInt32 = z) : n = z.toNatClampNeg := by
  rw [← h2]; simp only [Int32.toNatClampNeg, len_toInt h1]; rfl
theorem own_box {args : Array Value} {s : State} {t : Term} {a : Addr} {c : Cell} {K : String} {G : Jvm.Cond} (et : ∀ idx, t.eval args s none idx s = some (.ref a)) (A : Arr s s.heap a c (.object K)) (h : (Jvm.Cond.all t (.and (.exactly (.elem t (.index 0)) K) G)).value args s none s [] = some true) :
    ∀ j : Int32, ¬ (j < 0 ∨ c.slots.size ≤ j.toNatClampNeg) → ∃ b : Addr, c.slots[j.toNatClampNeg]? = some (.ref b) ∧ Exa s s.heap b K := fun j hj => by
  have nn : ¬ j < 0 := fun x => hj (Or.inl x)
  obtain ⟨u1, -⟩ := and_e (Cond.all_elim (et []) (A.fin (Vm.Alike.refl _)) h j.toNatClampNeg (Nat.lt_of_not_le fun x => hj (Or.inr x)))
  obtain ⟨b, eb⟩ := exa_v u1
  exact ⟨b, (elem_f (et _) (idx_at nn) (A.fin (Vm.Alike.refl _)) nn).symm.trans eb, exa_at eb u1⟩
theorem own_neI {Z : State} {h : Heap} {a b : Addr} {C n d : String} {x y : Int32} (F : Fld Z h a C n d (.int x)) (G : Fld Z h b C n d (.int y)) (hn : x ≠ y) : ¬ a = b := fun e => by
  subst e
  obtain ⟨c1, cf1, k1, i1, f1, a1, a2, -, -, -, -, a7⟩ := F
  obtain ⟨c2, cf2, k2, i2, f2, b1, b2, -, -, -, -, b7⟩ := G
  cases a1.symm.trans b1
  cases a2.symm.trans b2
  cases a7.symm.trans b7
  exact hn rfl
theorem own_neJ {Z : State} {h : Heap} {a b : Addr} {C n d : String} {x y : Int64} (F : Fld Z h a C n d (.long x)) (G : Fld Z h b C n d (.long y)) (hn : x ≠ y) : ¬ a = b := fun e => by
  subst e
  obtain ⟨c1, cf1, k1, i1, f1, a1, a2, -, -, -, -, a7⟩ := F
  obtain ⟨c2, cf2, k2, i2, f2, b1, b2, -, -, -, -, b7⟩ := G
  cases a1.symm.trans b1
  cases a2.symm.trans b2
  cases a7.symm.trans b7
  exact hn rfl
theorem own_six (p : Int32) : ((p &&& (2147483647 : Int32)) % (6 : Int32)) = (0 : Int32) ∨ ((p &&& (2147483647 : Int32)) % (6 : Int32)) = (1 : Int32) ∨ ((p &&& (2147483647 : Int32)) % (6 : Int32)) = (2 : Int32) ∨ ((p &&& (2147483647 : Int32)) % (6 : Int32)) = (3 : Int32) ∨ ((p &&& (2147483647 : Int32)) % (6 : Int32)) = (4 : Int32) ∨ ((p &&& (2147483647 : Int32)) % (6 : Int32)) = (5 : Int32) := by
  have h0 : (p &&& (2147483647 : Int32)).toInt = p.toInt % 2147483648 := c_mask p 2147483647 31 (by decide) (by decide)
  have h1 := (c_irem (p &&& (2147483647 : Int32)) 6 6 rfl).1 (by omega)
  generalize ((p &&& (2147483647 : Int32)) % (6 : Int32)) = z at *
  have e0 : (0 : Int32).toInt = 0 := rfl
  have e1 : (1 : Int32).toInt = 1 := rfl
  have e2 : (2 : Int32).toInt = 2 := rfl
  have e3 : (3 : Int32).toInt = 3 := rfl
  have e4 : (4 : Int32).toInt = 4 := rfl
  have e5 : (5 : Int32).toInt = 5 := rfl
  simp only [← Int32.toInt_inj, e0, e1, e2, e3, e4, e5]
  omega
def own_World (Z : State) (w : Nat → Addr) : Prop := Sta Z Z.heap "com/example/planwright/planwright/model/Comparison$Relation" "LESS" "Lcom/example/planwright/planwright/model/Comparison$Relation;" (.ref (w 0)) ∧ Exa Z Z.heap (w 0) "com/example/planwright/planwright/model/Comparison$Relation" ∧ Sta Z Z.heap "com/example/planwright/planwright/model/Comparison$Relation" "LESS_OR_EQUAL" "Lcom/example/planwright/planwright/model/Comparison$Relation;" (.ref (w 1)) ∧ Exa Z Z.heap (w 1) "com/example/planwright/planwright/model/Comparison$Relation" ∧ Sta Z Z.heap "com/example/planwright/planwright/model/Comparison$Relation" "GREATER" "Lcom/example/planwright/planwright/model/Comparison$Relation;" (.ref (w 2)) ∧ Exa Z Z.heap (w 2) "com/example/planwright/planwright/model/Comparison$Relation" ∧ Sta Z Z.heap "com/example/planwright/planwright/model/Comparison$Relation" "GREATER_OR_EQUAL" "Lcom/example/planwright/planwright/model/Comparison$Relation;" (.ref (w 3)) ∧ Exa Z Z.heap (w 3) "com/example/planwright/planwright/model/Comparison$Relation" ∧ Sta Z Z.heap "com/example/planwright/planwright/model/Comparison$Relation" "EQUAL" "Lcom/example/planwright/planwright/model/Comparison$Relation;" (.ref (w 4)) ∧ Exa Z Z.heap (w 4) "com/example/planwright/planwright/model/Comparison$Relation" ∧ Sta Z Z.heap "com/example/planwright/planwright/model/Comparison$Relation" "NOT_EQUAL" "Lcom/example/planwright/planwright/model/Comparison$Relation;" (.ref (w 5)) ∧ Exa Z Z.heap (w 5) "com/example/planwright/planwright/model/Comparison$Relation" ∧ Fld Z Z.heap (w 0) "java/lang/Enum" "ordinal" "I" (.int 0) ∧ Fld Z Z.heap (w 4) "java/lang/Enum" "ordinal" "I" (.int 4) ∧ Fld Z Z.heap (w 5) "java/lang/Enum" "ordinal" "I" (.int 5) ∧ Fld Z Z.heap (w 3) "java/lang/Enum" "ordinal" "I" (.int 3) ∧ Fld Z Z.heap (w 2) "java/lang/Enum" "ordinal" "I" (.int 2) ∧ Fld Z Z.heap (w 1) "java/lang/Enum" "ordinal" "I" (.int 1)
theorem own_world {args : Array Value} {s : State} (hw : ∀ d ∈ tables_1, d.before args s = true) (hfit : Fit s) (hn : narrow_1.value args s none s [] = some true) : ∃ w : Nat → Addr, own_World s w := by
  obtain ⟨h0, q1⟩ := and_e hn
  obtain ⟨h1, q3⟩ := and_e q1
  obtain ⟨h2, q5⟩ := and_e q3
  obtain ⟨h3, q7⟩ := and_e q5
  obtain ⟨h4, q9⟩ := and_e q7
  obtain ⟨h5, q11⟩ := and_e q9
  obtain ⟨h6, q13⟩ := and_e q11
  obtain ⟨h7, q15⟩ := and_e q13
  obtain ⟨h8, q17⟩ := and_e q15
  obtain ⟨h9, q19⟩ := and_e q17
  obtain ⟨h10, h11⟩ := and_e q19
  obtain ⟨c0, e0⟩ := exa_v h0
  obtain ⟨c1, e1⟩ := exa_v h1
  obtain ⟨c2, e2⟩ := exa_v h2
  obtain ⟨c3, e3⟩ := exa_v h3
  obtain ⟨c4, e4⟩ := exa_v h4
  obtain ⟨c5, e5⟩ := exa_v h5
  exact ⟨fun n => ([c0, c1, c2, c3, c4, c5] : List Nat).getD n 0, Sta.start e0 (Or.inr ⟨(oW hw 4 rfl), (oW hw 5 rfl)⟩), Exa.start e0 h0, Sta.start e1 (Or.inr ⟨(oW hw 4 rfl), (oW hw 8 rfl)⟩), Exa.start e1 h1, Sta.start e2 (Or.inr ⟨(oW hw 4 rfl), (oW hw 10 rfl)⟩), Exa.start e2 h2, Sta.start e3 (Or.inr ⟨(oW hw 4 rfl), (oW hw 12 rfl)⟩), Exa.start e3 h3, Sta.start e4 (Or.inr ⟨(oW hw 4 rfl), (oW hw 14 rfl)⟩), Exa.start e4 h4, Sta.start e5 (Or.inr ⟨(oW hw 4 rfl), (oW hw 16 rfl)⟩), Exa.start e5 h5, Fld.start ((fld_at e0).symm.trans (own_eqv h6 rfl)), Fld.start ((fld_at e4).symm.trans (own_eqv h7 rfl)), Fld.start ((fld_at e5).symm.trans (own_eqv h8 rfl)), Fld.start ((fld_at e3).symm.trans (own_eqv h9 rfl)), Fld.start ((fld_at e2).symm.trans (own_eqv h10 rfl)), Fld.start ((fld_at e1).symm.trans (own_eqv h11 rfl))⟩
theorem wS0 {Z : State} {w : Nat → Addr} (W : own_World Z w) : Sta Z Z.heap "com/example/planwright/planwright/model/Comparison$Relation" "LESS" "Lcom/example/planwright/planwright/model/Comparison$Relation;" (.ref (w 0)) := W.1
theorem wE0 {Z : State} {w : Nat → Addr} (W : own_World Z w) : Exa Z Z.heap (w 0) "com/example/planwright/planwright/model/Comparison$Relation" := W.2.1
theorem wS1 {Z : State} {w : Nat → Addr} (W : own_World Z w) : Sta Z Z.heap "com/example/planwright/planwright/model/Comparison$Relation" "LESS_OR_EQUAL" "Lcom/example/planwright/planwright/model/Comparison$Relation;" (.ref (w 1)) := W.2.2.1
theorem wE1 {Z : State} {w : Nat → Addr} (W : own_World Z w) : Exa Z Z.heap (w 1) "com/example/planwright/planwright/model/Comparison$Relation" := W.2.2.2.1
theorem wS2 {Z : State} {w : Nat → Addr} (W : own_World Z w) : Sta Z Z.heap "com/example/planwright/planwright/model/Comparison$Relation" "GREATER" "Lcom/example/planwright/planwright/model/Comparison$Relation;" (.ref (w 2)) := W.2.2.2.2.1
theorem wE2 {Z : State} {w : Nat → Addr} (W : own_World Z w) : Exa Z Z.heap (w 2) "com/example/planwright/planwright/model/Comparison$Relation" := W.2.2.2.2.2.1
theorem wS3 {Z : State} {w : Nat → Addr} (W : own_World Z w) : Sta Z Z.heap "com/example/planwright/planwright/model/Comparison$Relation" "GREATER_OR_EQUAL" "Lcom/example/planwright/planwright/model/Comparison$Relation;" (.ref (w 3)) := W.2.2.2.2.2.2.1
theorem wE3 {Z : State} {w : Nat → Addr} (W : own_World Z w) : Exa Z Z.heap (w 3) "com/example/planwright/planwright/model/Comparison$Relation" := W.2.2.2.2.2.2.2.1
theorem wS4 {Z : State} {w : Nat → Addr} (W : own_World Z w) : Sta Z Z.heap "com/example/planwright/planwright/model/Comparison$Relation" "EQUAL" "Lcom/example/planwright/planwright/model/Comparison$Relation;" (.ref (w 4)) := W.2.2.2.2.2.2.2.2.1
theorem wE4 {Z : State} {w : Nat → Addr} (W : own_World Z w) : Exa Z Z.heap (w 4) "com/example/planwright/planwright/model/Comparison$Relation" := W.2.2.2.2.2.2.2.2.2.1
theorem wS5 {Z : State} {w : Nat → Addr} (W : own_World Z w) : Sta Z Z.heap "com/example/planwright/planwright/model/Comparison$Relation" "NOT_EQUAL" "Lcom/example/planwright/planwright/model/Comparison$Relation;" (.ref (w 5)) := W.2.2.2.2.2.2.2.2.2.2.1
theorem wE5 {Z : State} {w : Nat → Addr} (W : own_World Z w) : Exa Z Z.heap (w 5) "com/example/planwright/planwright/model/Comparison$Relation" := W.2.2.2.2.2.2.2.2.2.2.2.1
theorem wF0_ordinal {Z : State} {w : Nat → Addr} (W : own_World Z w) : Fld Z Z.heap (w 0) "java/lang/Enum" "ordinal" "I" (.int 0) := W.2.2.2.2.2.2.2.2.2.2.2.2.1
theorem wF4_ordinal {Z : State} {w : Nat → Addr} (W : own_World Z w) : Fld Z Z.heap (w 4) "java/lang/Enum" "ordinal" "I" (.int 4) := W.2.2.2.2.2.2.2.2.2.2.2.2.2.1
theorem wF5_ordinal {Z : State} {w : Nat → Addr} (W : own_World Z w) : Fld Z Z.heap (w 5) "java/lang/Enum" "ordinal" "I" (.int 5) := W.2.2.2.2.2.2.2.2.2.2.2.2.2.2.1
theorem wF3_ordinal {Z : State} {w : Nat → Addr} (W : own_World Z w) : Fld Z Z.heap (w 3) "java/lang/Enum" "ordinal" "I" (.int 3) := W.2.2.2.2.2.2.2.2.2.2.2.2.2.2.2.1
theorem wF2_ordinal {Z : State} {w : Nat → Addr} (W : own_World Z w) : Fld Z Z.heap (w 2) "java/lang/Enum" "ordinal" "I" (.int 2) := W.2.2.2.2.2.2.2.2.2.2.2.2.2.2.2.2.1
theorem wF1_ordinal {Z : State} {w : Nat → Addr} (W : own_World Z w) : Fld Z Z.heap (w 1) "java/lang/Enum" "ordinal" "I" (.int 1) := W.2.2.2.2.2.2.2.2.2.2.2.2.2.2.2.2.2
theorem d1_0 : decode prog_27_method_5_code 0 = .ok (.aload_n 0, 1) := by decide +kernel
theorem d1_1 : decode prog_27_method_5_code 1 = .ok (.getstatic 16, 3) := by decide +kernel
theorem d1_4 : decode prog_27_method_5_code 4 = .ok (.if_acmp .eq 14, 3) := by decide +kernel
theorem d1_7 : decode prog_27_method_5_code 7 = .ok (.aload_n 0, 1) := by decide +kernel
theorem d1_8 : decode prog_27_method_5_code 8 = .ok (.getstatic 19, 3) := by decide +kernel
theorem d1_11 : decode prog_27_method_5_code 11 = .ok (.if_acmp .eq 7, 3) := by decide +kernel
theorem d1_14 : decode prog_27_method_5_code 14 = .ok (.iconst 1, 1) := by decide +kernel
theorem d1_15 : decode prog_27_method_5_code 15 = .ok (.goto 4, 3) := by decide +kernel
theorem d1_19 : decode prog_27_method_5_code 19 = .ok (.ireturn, 1) := by decide +kernel
abbrev mY0 : MethodName := (⟨"com/example/planwright/planwright/model/Comparison$Relation", "orders", "()Z"⟩ : MethodName)
theorem ef_1_r (m : MethodId) (x0 : Addr) : entryFrame m #[(.ref x0)] 1 = mkF m 0 #[.val (.ref x0)] [] := by first | (simp [entryFrame, mkF, argsToLocals, Value.category]; done) | rfl
theorem pn_0 : plainName "com/example/planwright/planwright/model/Comparison$Relation" = true := by first | (simp [plainName, overriddenIn]; done) | decide +kernel
def Q_m_LESS (Z : State)  (w : Nat → Addr) (h0 : Heap) (n0 : Nat) (v : Option Value) (h : Heap) (L : List Loc) : Prop := v = some (.int 1) ∧ Fr n0 L ∧ h = h0
set_option maxRecDepth 65536 in
set_option maxHeartbeats 40000000 in
theorem rm_m_LESS (l : Launch) (Z : State) (a0 : Array Value) (hw : ∀ d ∈ tables_1, d.before a0 Z = true) (ws : List Jvm.Cond)  (w : Nat → Addr) (h0 : Heap) (n0 : Nat) (O0 : Old Z n0 h0) (W : own_World Z w) :
    MetFree l mY0 (head1 (Jvm.Cond.code mY0 prog_27_method_5_code 1 (some .boolean) :: ws) ({ frames := 0, cells := 0, slots := 0, locals := 0 } : Room)) (fun a U => a = #[(.ref (w 0))] ∧ Z.Warmed39 U.vm ∧ U.heap = h0) (fun _ _ _ _ _ => True) (fun _ U o U' => ∃ v L, o = .returned v ∧ Q_m_LESS Z  w h0 n0 v U'.heap L ∧ FrameEnd U o U' L ({ frames := 0, cells := 0, slots := 0, locals := 0 } : Room).cells ({ frames := 0, cells := 0, slots := 0, locals := 0 } : Room).slots) := by
  refine MetFree.of_bodySF (plainFor_of_name pn_0) hisR ?_
  intro p e s m args below meth c s₁ Bd hml0 hP hK
  obtain ⟨rfl, hZ, hh⟩ := hP
  have hx := Bd.exec
  have hby := Bd.bytes
  have hml : c.maxLocals = 1 := hml0
  have hown : s.vm.findClass "com/example/planwright/planwright/model/Comparison$Relation" = some m.cls := findClass_of_methodNamed Bd.named
  have hnm := (name_of_methodNamed Bd.named Bd.method).1
  have X0 : Stand p l e ({ frames := 0, cells := 0, slots := 0, locals := 0 } : Room) s m #[(.ref (w 0))] below meth c s₁ [] 0 0 := Stand.of_body Bd
  have e0 : s₁.heap = h0 := by rw [← hh, Bd.state]; rfl
  have N0 := Fr.nil n0
  show oG p e below s (Q_m_LESS Z  w h0 n0) ({ frames := 0, cells := 0, slots := 0, locals := 0 } : Room).cells ({ frames := 0, cells := 0, slots := 0, locals := 0 } : Room).slots _
  refine oS (fun t k => castTop (ef_1_r m (w 0)) k) ?_
  show oG _ _ _ _ _ _ _ (s₁.setTop (mkF m 0 #[.val (.ref (w 0))] []))
  refine oS (fun t k => XS.aloadN X0.here hx rfl (hb hby d1_0) rfl rfl k) ?_
  obtain ⟨T1, X1, e1, st1⟩ := getS2 X0 hx hZ hown (host := "") (Or.inl (oW hw 23 rfl)) Via.refl e0 ((wS4 W).ext O0.2) (g := (mkF m 1 #[.val (.ref (w 0))] [(.ref (w 0))])) rfl (hb hby d1_1)
  refine oS (fun t k => st1 t k) ?_
  refine oS (fun t k => Jvm.RoadKit.acmp (g := (mkF m 4 #[.val (.ref (w 0))] [(.ref (w 4)), (.ref (w 0))])) X1 hx rfl rfl rfl (pc0 := 4) (pc' := 7) (same := false) rfl (hb hby d1_4) rfl (decide_eq_false fun q => (own_neI (wF0_ordinal W) (wF4_ordinal W) (by decide)) (Value.ref.inj q)) (by decide) (by decide) k) ?_
  refine oS (fun t k => XS.aloadN X1.here hx rfl (hb hby d1_7) rfl rfl k) ?_
  obtain ⟨T2, X2, e2, st2⟩ := getS2 X1 hx hZ hown (host := "") (Or.inl (oW hw 24 rfl)) Via.refl e1 ((wS5 W).ext O0.2) (g := (mkF m 8 #[.val (.ref (w 0))] [(.ref (w 0))])) rfl (hb hby d1_8)
  refine oS (fun t k => st2 t k) ?_
  refine oS (fun t k => Jvm.RoadKit.acmp (g := (mkF m 11 #[.val (.ref (w 0))] [(.ref (w 5)), (.ref (w 0))])) X2 hx rfl rfl rfl (pc0 := 11) (pc' := 14) (same := false) rfl (hb hby d1_11) rfl (decide_eq_false fun q => (own_neI (wF0_ordinal W) (wF5_ordinal W) (by decide)) (Value.ref.inj q)) (by decide) (by decide) k) ?_
  refine oS (fun t k => XS.iconst X2.here hx rfl (hb hby d1_14) k) ?_
  refine oS (fun t k => XS.goto X2.here hx rfl (pc0 := 15) (pc' := 19) rfl (hb hby d1_15) (by decide) (by decide) k) ?_
  exact own_ret (v := some (.int 1)) X2 (fun h => by rw [Bd.returns] at h; cases h) Bd.notSynchronized (fun fs hr => retN X2 hx (t := .boolean) Bd.returns (by simp) (hb hby d1_19) hr) (by rw [e2]; exact ⟨rfl, N0, rfl⟩) (by decide) (by decide)
def Q_m_LESS_OR_EQUAL (Z : State)  (w : Nat → Addr) (h0 : Heap) (n0 : Nat) (v : Option Value) (h : Heap) (L : List Loc) : Prop := v = some (.int 1) ∧ Fr n0 L ∧ h = h0
set_option maxRecDepth 65536 in
set_option maxHeartbeats 40000000 in
theorem rm_m_LESS_OR_EQUAL (l : Launch) (Z : State) (a0 : Array Value) (hw : ∀ d ∈ tables_1, d.before a0 Z = true) (ws : List Jvm.Cond)  (w : Nat → Addr) (h0 : Heap) (n0 : Nat) (O0 : Old Z n0 h0) (W : own_World Z w) :
    MetFree l mY0 (head1 (Jvm.Cond.code mY0 prog_27_method_5_code 1 (some .boolean) :: ws) ({ frames := 0, cells := 0, slots := 0, locals := 0 } : Room)) (fun a U => a = #[(.ref (w 1))] ∧ Z.Warmed39 U.vm ∧ U.heap = h0) (fun _ _ _ _ _ => True) (fun _ U o U' => ∃ v L, o = .returned v ∧ Q_m_LESS_OR_EQUAL Z  w h0 n0 v U'.heap L ∧ FrameEnd U o U' L ({ frames := 0, cells := 0, slots := 0, locals := 0 } : Room).cells ({ frames := 0, cells := 0, slots := 0, locals := 0 } : Room).slots) := by
  refine MetFree.of_bodySF (plainFor_of_name pn_0) hisR ?_
  intro p e s m args below meth c s₁ Bd hml0 hP hK
  obtain ⟨rfl, hZ, hh⟩ := hP
  have hx := Bd.exec
  have hby := Bd.bytes
  have hml : c.maxLocals = 1 := hml0
  have hown : s.vm.findClass "com/example/planwright/planwright/model/Comparison$Relation" = some m.cls := findClass_of_methodNamed Bd.named
  have hnm := (name_of_methodNamed Bd.named Bd.method).1
  have X0 : Stand p l e ({ frames := 0, cells := 0, slots := 0, locals := 0 } : Room) s m #[(.ref (w 1))] below meth c s₁ [] 0 0 := Stand.of_body Bd
  have e0 : s₁.heap = h0 := by rw [← hh, Bd.state]; rfl
  have N0 := Fr.nil n0
  show oG p e below s (Q_m_LESS_OR_EQUAL Z  w h0 n0) ({ frames := 0, cells := 0, slots := 0, locals := 0 } : Room).cells ({ frames := 0, cells := 0, slots := 0, locals := 0 } : Room).slots _
  refine oS (fun t k => castTop (ef_1_r m (w 1)) k) ?_
  show oG _ _ _ _ _ _ _ (s₁.setTop (mkF m 0 #[.val (.ref (w 1))] []))
  refine oS (fun t k => XS.aloadN X0.here hx rfl (hb hby d1_0) rfl rfl k) ?_
  obtain ⟨T1, X1, e1, st1⟩ := getS2 X0 hx hZ hown (host := "") (Or.inl (oW hw 23 rfl)) Via.refl e0 ((wS4 W).ext O0.2) (g := (mkF m 1 #[.val (.ref (w 1))] [(.ref (w 1))])) rfl (hb hby d1_1)
  refine oS (fun t k => st1 t k) ?_
  refine oS (fun t k => Jvm.RoadKit.acmp (g := (mkF m 4 #[.val (.ref (w 1))] [(.ref (w 4)), (.ref (w 1))])) X1 hx rfl rfl rfl (pc0 := 4) (pc' := 7) (same := false) rfl (hb hby d1_4) rfl (decide_eq_false fun q => (own_neI (wF1_ordinal W) (wF4_ordinal W) (by decide)) (Value.ref.inj q)) (by decide) (by decide) k) ?_
  refine oS (fun t k => XS.aloadN X1.here hx rfl (hb hby d1_7) rfl rfl k) ?_
  obtain ⟨T2, X2, e2, st2⟩ := getS2 X1 hx hZ hown (host := "") (Or.inl (oW hw 24 rfl)) Via.refl e1 ((wS5 W).ext O0.2) (g := (mkF m 8 #[.val (.ref (w 1))] [(.ref (w 1))])) rfl (hb hby d1_8)
  refine oS (fun t k => st2 t k) ?_
  refine oS (fun t k => Jvm.RoadKit.acmp (g := (mkF m 11 #[.val (.ref (w 1))] [(.ref (w 5)), (.ref (w 1))])) X2 hx rfl rfl rfl (pc0 := 11) (pc' := 14) (same := false) rfl (hb hby d1_11) rfl (decide_eq_false fun q => (own_neI (wF1_ordinal W) (wF5_ordinal W) (by decide)) (Value.ref.inj q)) (by decide) (by decide) k) ?_
  refine oS (fun t k => XS.iconst X2.here hx rfl (hb hby d1_14) k) ?_
  refine oS (fun t k => XS.goto X2.here hx rfl (pc0 := 15) (pc' := 19) rfl (hb hby d1_15) (by decide) (by decide) k) ?_
  exact own_ret (v := some (.int 1)) X2 (fun h => by rw [Bd.returns] at h; cases h) Bd.notSynchronized (fun fs hr => retN X2 hx (t := .boolean) Bd.returns (by simp) (hb hby d1_19) hr) (by rw [e2]; exact ⟨rfl, N0, rfl⟩) (by decide) (by decide)
def Q_m_GREATER (Z : State)  (w : Nat → Addr) (h0 : Heap) (n0 : Nat) (v : Option Value) (h : Heap) (L : List Loc) : Prop := v = some (.int 1) ∧ Fr n0 L ∧ h = h0
set_option maxRecDepth 65536 in
set_option maxHeartbeats 40000000 in
theorem rm_m_GREATER (l : Launch) (Z : State) (a0 : Array Value) (hw : ∀ d ∈ tables_1, d.before a0 Z = true) (ws : List Jvm.Cond)  (w : Nat → Addr) (h0 : Heap) (n0 : Nat) (O0 : Old Z n0 h0) (W : own_World Z w) :
    MetFree l mY0 (head1 (Jvm.Cond.code mY0 prog_27_method_5_code 1 (some .boolean) :: ws) ({ frames := 0, cells := 0, slots := 0, locals := 0 } : Room)) (fun a U => a = #[(.ref (w 2))] ∧ Z.Warmed39 U.vm ∧ U.heap = h0) (fun _ _ _ _ _ => True) (fun _ U o U' => ∃ v L, o = .returned v ∧ Q_m_GREATER Z  w h0 n0 v U'.heap L ∧ FrameEnd U o U' L ({ frames := 0, cells := 0, slots := 0, locals := 0 } : Room).cells ({ frames := 0, cells := 0, slots := 0, locals := 0 } : Room).slots) := by
  refine MetFree.of_bodySF (plainFor_of_name pn_0) hisR ?_
  intro p e s m args below meth c s₁ Bd hml0 hP hK
  obtain ⟨rfl, hZ, hh⟩ := hP
  have hx := Bd.exec
  have hby := Bd.bytes
  have hml : c.maxLocals = 1 := hml0
  have hown : s.vm.findClass "com/example/planwright/planwright/model/Comparison$Relation" = some m.cls := findClass_of_methodNamed Bd.named
  have hnm := (name_of_methodNamed Bd.named Bd.method).1
  have X0 : Stand p l e ({ frames := 0, cells := 0, slots := 0, locals := 0 } : Room) s m #[(.ref (w 2))] below meth c s₁ [] 0 0 := Stand.of_body Bd
  have e0 : s₁.heap = h0 := by rw [← hh, Bd.state]; rfl
  have N0 := Fr.nil n0
  show oG p e below s (Q_m_GREATER Z  w h0 n0) ({ frames := 0, cells := 0, slots := 0, locals := 0 } : Room).cells ({ frames := 0, cells := 0, slots := 0, locals := 0 } : Room).slots _
  refine oS (fun t k => castTop (ef_1_r m (w 2)) k) ?_
  show oG _ _ _ _ _ _ _ (s₁.setTop (mkF m 0 #[.val (.ref (w 2))] []))
  refine oS (fun t k => XS.aloadN X0.here hx rfl (hb hby d1_0) rfl rfl k) ?_
  obtain ⟨T1, X1, e1, st1⟩ := getS2 X0 hx hZ hown (host := "") (Or.inl (oW hw 23 rfl)) Via.refl e0 ((wS4 W).ext O0.2) (g := (mkF m 1 #[.val (.ref (w 2))] [(.ref (w 2))])) rfl (hb hby d1_1)
  refine oS (fun t k => st1 t k) ?_
  refine oS (fun t k => Jvm.RoadKit.acmp (g := (mkF m 4 #[.val (.ref (w 2))] [(.ref (w 4)), (.ref (w 2))])) X1 hx rfl rfl rfl (pc0 := 4) (pc' := 7) (same := false) rfl (hb hby d1_4) rfl (decide_eq_false fun q => (own_neI (wF2_ordinal W) (wF4_ordinal W) (by decide)) (Value.ref.inj q)) (by decide) (by decide) k) ?_
  refine oS (fun t k => XS.aloadN X1.here hx rfl (hb hby d1_7) rfl rfl k) ?_
  obtain ⟨T2, X2, e2, st2⟩ := getS2 X1 hx hZ hown (host := "") (Or.inl (oW hw 24 rfl)) Via.refl e1 ((wS5 W).ext O0.2) (g := (mkF m 8 #[.val (.ref (w 2))] [(.ref (w 2))])) rfl (hb hby d1_8)
  refine oS (fun t k => st2 t k) ?_
  refine oS (fun t k => Jvm.RoadKit.acmp (g := (mkF m 11 #[.val (.ref (w 2))] [(.ref (w 5)), (.ref (w 2))])) X2 hx rfl rfl rfl (pc0 := 11) (pc' := 14) (same := false) rfl (hb hby d1_11) rfl (decide_eq_false fun q => (own_neI (wF2_ordinal W) (wF5_ordinal W) (by decide)) (Value.ref.inj q)) (by decide) (by decide) k) ?_
  refine oS (fun t k => XS.iconst X2.here hx rfl (hb hby d1_14) k) ?_
  refine oS (fun t k => XS.goto X2.here hx rfl (pc0 := 15) (pc' := 19) rfl (hb hby d1_15) (by decide) (by decide) k) ?_
  exact own_ret (v := some (.int 1)) X2 (fun h => by rw [Bd.returns] at h; cases h) Bd.notSynchronized (fun fs hr => retN X2 hx (t := .boolean) Bd.returns (by simp) (hb hby d1_19) hr) (by rw [e2]; exact ⟨rfl, N0, rfl⟩) (by decide) (by decide)
def Q_m_GREATER_OR_EQUAL (Z : State)  (w : Nat → Addr) (h0 : Heap) (n0 : Nat) (v : Option Value) (h : Heap) (L : List Loc) : Prop := v = some (.int 1) ∧ Fr n0 L ∧ h = h0
set_option maxRecDepth 65536 in
set_option maxHeartbeats 40000000 in
theorem rm_m_GREATER_OR_EQUAL (l : Launch) (Z : State) (a0 : Array Value) (hw : ∀ d ∈ tables_1, d.before a0 Z = true) (ws : List Jvm.Cond)  (w : Nat → Addr) (h0 : Heap) (n0 : Nat) (O0 : Old Z n0 h0) (W : own_World Z w) :
    MetFree l mY0 (head1 (Jvm.Cond.code mY0 prog_27_method_5_code 1 (some .boolean) :: ws) ({ frames := 0, cells := 0, slots := 0, locals := 0 } : Room)) (fun a U => a = #[(.ref (w 3))] ∧ Z.Warmed39 U.vm ∧ U.heap = h0) (fun _ _ _ _ _ => True) (fun _ U o U' => ∃ v L, o = .returned v ∧ Q_m_GREATER_OR_EQUAL Z  w h0 n0 v U'.heap L ∧ FrameEnd U o U' L ({ frames := 0, cells := 0, slots := 0, locals := 0 } : Room).cells ({ frames := 0, cells := 0, slots := 0, locals := 0 } : Room).slots) := by
  refine MetFree.of_bodySF (plainFor_of_name pn_0) hisR ?_
  intro p e s m args below meth c s₁ Bd hml0 hP hK
  obtain ⟨rfl, hZ, hh⟩ := hP
  have hx := Bd.exec
  have hby := Bd.bytes
  have hml : c.maxLocals = 1 := hml0
  have hown : s.vm.findClass "com/example/planwright/planwright/model/Comparison$Relation" = some m.cls := findClass_of_methodNamed Bd.named
  have hnm := (name_of_methodNamed Bd.named Bd.method).1
  have X0 : Stand p l e ({ frames := 0, cells := 0, slots := 0, locals := 0 } : Room) s m #[(.ref (w 3))] below meth c s₁ [] 0 0 := Stand.of_body Bd
  have e0 : s₁.heap = h0 := by rw [← hh, Bd.state]; rfl
  have N0 := Fr.nil n0
  show oG p e below s (Q_m_GREATER_OR_EQUAL Z  w h0 n0) ({ frames := 0, cells := 0, slots := 0, locals := 0 } : Room).cells ({ frames := 0, cells := 0, slots := 0, locals := 0 } : Room).slots _
  refine oS (fun t k => castTop (ef_1_r m (w 3)) k) ?_
  show oG _ _ _ _ _ _ _ (s₁.setTop (mkF m 0 #[.val (.ref (w 3))] []))
  refine oS (fun t k => XS.aloadN X0.here hx rfl (hb hby d1_0) rfl rfl k) ?_
  obtain ⟨T1, X1, e1, st1⟩ := getS2 X0 hx hZ hown (host := "") (Or.inl (oW hw 23 rfl)) Via.refl e0 ((wS4 W).ext O0.2) (g := (mkF m 1 #[.val (.ref (w 3))] [(.ref (w 3))])) rfl (hb hby d1_1)
  refine oS (fun t k => st1 t k) ?_
  refine oS (fun t k => Jvm.RoadKit.acmp (g := (mkF m 4 #[.val (.ref (w 3))] [(.ref (w 4)), (.ref (w 3))])) X1 hx rfl rfl rfl (pc0 := 4) (pc' := 7) (same := false) rfl (hb hby d1_4) rfl (decide_eq_false fun q => (own_neI (wF3_ordinal W) (wF4_ordinal W) (by decide)) (Value.ref.inj q)) (by decide) (by decide) k) ?_
  refine oS (fun t k => XS.aloadN X1.here hx rfl (hb hby d1_7) rfl rfl k) ?_
  obtain ⟨T2, X2, e2, st2⟩ := getS2 X1 hx hZ hown (host := "") (Or.inl (oW hw 24 rfl)) Via.refl e1 ((wS5 W).ext O0.2) (g := (mkF m 8 #[.val (.ref (w 3))] [(.ref (w 3))])) rfl (hb hby d1_8)
  refine oS (fun t k => st2 t k) ?_
  refine oS (fun t k => Jvm.RoadKit.acmp (g := (mkF m 11 #[.val (.ref (w 3))] [(.ref (w 5)), (.ref (w 3))])) X2 hx rfl rfl rfl (pc0 := 11) (pc' := 14) (same := false) rfl (hb hby d1_11) rfl (decide_eq_false fun q => (own_neI (wF3_ordinal W) (wF5_ordinal W) (by decide)) (Value.ref.inj q)) (by decide) (by decide) k) ?_
  refine oS (fun t k => XS.iconst X2.here hx rfl (hb hby d1_14) k) ?_
  refine oS (fun t k => XS.goto X2.here hx rfl (pc0 := 15) (pc' := 19) rfl (hb hby d1_15) (by decide) (by decide) k) ?_
  exact own_ret (v := some (.int 1)) X2 (fun h => by rw [Bd.returns] at h; cases h) Bd.notSynchronized (fun fs hr => retN X2 hx (t := .boolean) Bd.returns (by simp) (hb hby d1_19) hr) (by rw [e2]; exact ⟨rfl, N0, rfl⟩) (by decide) (by decide)
theorem d1_18 : decode prog_27_method_5_code 18 = .ok (.iconst 0, 1) := by decide +kernel
def Q_m_EQUAL (Z : State)  (w : Nat → Addr) (h0 : Heap) (n0 : Nat) (v : Option Value) (h : Heap) (L : List Loc) : Prop := v = some (.int 0) ∧ Fr n0 L ∧ h = h0
set_option maxRecDepth 65536 in
set_option maxHeartbeats 40000000 in
theorem rm_m_EQUAL (l : Launch) (Z : State) (a0 : Array Value) (hw : ∀ d ∈ tables_1, d.before a0 Z = true) (ws : List Jvm.Cond)  (w : Nat → Addr) (h0 : Heap) (n0 : Nat) (O0 : Old Z n0 h0) (W : own_World Z w) :
    MetFree l mY0 (head1 (Jvm.Cond.code mY0 prog_27_method_5_code 1 (some .boolean) :: ws) ({ frames := 0, cells := 0, slots := 0, locals := 0 } : Room)) (fun a U => a = #[(.ref (w 4))] ∧ Z.Warmed39 U.vm ∧ U.heap = h0) (fun _ _ _ _ _ => True) (fun _ U o U' => ∃ v L, o = .returned v ∧ Q_m_EQUAL Z  w h0 n0 v U'.heap L ∧ FrameEnd U o U' L ({ frames := 0, cells := 0, slots := 0, locals := 0 } : Room).cells ({ frames := 0, cells := 0, slots := 0, locals := 0 } : Room).slots) := by
  refine MetFree.of_bodySF (plainFor_of_name pn_0) hisR ?_
  intro p e s m args below meth c s₁ Bd hml0 hP hK
  obtain ⟨rfl, hZ, hh⟩ := hP
  have hx := Bd.exec
  have hby := Bd.bytes
  have hml : c.maxLocals = 1 := hml0
  have hown : s.vm.findClass "com/example/planwright/planwright/model/Comparison$Relation" = some m.cls := findClass_of_methodNamed Bd.named
  have hnm := (name_of_methodNamed Bd.named Bd.method).1
  have X0 : Stand p l e ({ frames := 0, cells := 0, slots := 0, locals := 0 } : Room) s m #[(.ref (w 4))] below meth c s₁ [] 0 0 := Stand.of_body Bd
  have e0 : s₁.heap = h0 := by rw [← hh, Bd.state]; rfl
  have N0 := Fr.nil n0
  show oG p e below s (Q_m_EQUAL Z  w h0 n0) ({ frames := 0, cells := 0, slots := 0, locals := 0 } : Room).cells ({ frames := 0, cells := 0, slots := 0, locals := 0 } : Room).slots _
  refine oS (fun t k => castTop (ef_1_r m (w 4)) k) ?_
  show oG _ _ _ _ _ _ _ (s₁.setTop (mkF m 0 #[.val (.ref (w 4))] []))
  refine oS (fun t k => XS.aloadN X0.here hx rfl (hb hby d1_0) rfl rfl k) ?_
  obtain ⟨T1, X1, e1, st1⟩ := getS2 X0 hx hZ hown (host := "") (Or.inl (oW hw 23 rfl)) Via.refl e0 ((wS4 W).ext O0.2) (g := (mkF m 1 #[.val (.ref (w 4))] [(.ref (w 4))])) rfl (hb hby d1_1)
  refine oS (fun t k => st1 t k) ?_
  refine oS (fun t k => Jvm.RoadKit.acmp (g := (mkF m 4 #[.val (.ref (w 4))] [(.ref (w 4)), (.ref (w 4))])) X1 hx rfl rfl rfl (pc0 := 4) (pc' := 18) (same := true) rfl (hb hby d1_4) rfl (decide_eq_true rfl) (by decide) (by decide) k) ?_
  refine oS (fun t k => XS.iconst X1.here hx rfl (hb hby d1_18) k) ?_
  exact own_ret (v := some (.int 0)) X1 (fun h => by rw [Bd.returns] at h; cases h) Bd.notSynchronized (fun fs hr => retN X1 hx (t := .boolean) Bd.returns (by simp) (hb hby d1_19) hr) (by rw [e1]; exact ⟨rfl, N0, rfl⟩) (by decide) (by decide)
def Q_m_NOT_EQUAL (Z : State)  (w : Nat → Addr) (h0 : Heap) (n0 : Nat) (v : Option Value) (h : Heap) (L : List Loc) : Prop := v = some (.int 0) ∧ Fr n0 L ∧ h = h0
set_option maxRecDepth 65536 in
set_option maxHeartbeats 40000000 in
theorem rm_m_NOT_EQUAL (l : Launch) (Z : State) (a0 : Array Value) (hw : ∀ d ∈ tables_1, d.before a0 Z = true) (ws : List Jvm.Cond)  (w : Nat → Addr) (h0 : Heap) (n0 : Nat) (O0 : Old Z n0 h0) (W : own_World Z w) :
    MetFree l mY0 (head1 (Jvm.Cond.code mY0 prog_27_method_5_code 1 (some .boolean) :: ws) ({ frames := 0, cells := 0, slots := 0, locals := 0 } : Room)) (fun a U => a = #[(.ref (w 5))] ∧ Z.Warmed39 U.vm ∧ U.heap = h0) (fun _ _ _ _ _ => True) (fun _ U o U' => ∃ v L, o = .returned v ∧ Q_m_NOT_EQUAL Z  w h0 n0 v U'.heap L ∧ FrameEnd U o U' L ({ frames := 0, cells := 0, slots := 0, locals := 0 } : Room).cells ({ frames := 0, cells := 0, slots := 0, locals := 0 } : Room).slots) := by
  refine MetFree.of_bodySF (plainFor_of_name pn_0) hisR ?_
  intro p e s m args below meth c s₁ Bd hml0 hP hK
  obtain ⟨rfl, hZ, hh⟩ := hP
  have hx := Bd.exec
  have hby := Bd.bytes
  have hml : c.maxLocals = 1 := hml0
  have hown : s.vm.findClass "com/example/planwright/planwright/model/Comparison$Relation" = some m.cls := findClass_of_methodNamed Bd.named
  have hnm := (name_of_methodNamed Bd.named Bd.method).1
  have X0 : Stand p l e ({ frames := 0, cells := 0, slots := 0, locals := 0 } : Room) s m #[(.ref (w 5))] below meth c s₁ [] 0 0 := Stand.of_body Bd
  have e0 : s₁.heap = h0 := by rw [← hh, Bd.state]; rfl
  have N0 := Fr.nil n0
  show oG p e below s (Q_m_NOT_EQUAL Z  w h0 n0) ({ frames := 0, cells := 0, slots := 0, locals := 0 } : Room).cells ({ frames := 0, cells := 0, slots := 0, locals := 0 } : Room).slots _
  refine oS (fun t k => castTop (ef_1_r m (w 5)) k) ?_
  show oG _ _ _ _ _ _ _ (s₁.setTop (mkF m 0 #[.val (.ref (w 5))] []))
  refine oS (fun t k => XS.aloadN X0.here hx rfl (hb hby d1_0) rfl rfl k) ?_
  obtain ⟨T1, X1, e1, st1⟩ := getS2 X0 hx hZ hown (host := "") (Or.inl (oW hw 23 rfl)) Via.refl e0 ((wS4 W).ext O0.2) (g := (mkF m 1 #[.val (.ref (w 5))] [(.ref (w 5))])) rfl (hb hby d1_1)
  refine oS (fun t k => st1 t k) ?_
  refine oS (fun t k => Jvm.RoadKit.acmp (g := (mkF m 4 #[.val (.ref (w 5))] [(.ref (w 4)), (.ref (w 5))])) X1 hx rfl rfl rfl (pc0 := 4) (pc' := 7) (same := false) rfl (hb hby d1_4) rfl (decide_eq_false fun q => (own_neI (wF5_ordinal W) (wF4_ordinal W) (by decide)) (Value.ref.inj q)) (by decide) (by decide) k) ?_
  refine oS (fun t k => XS.aloadN X1.here hx rfl (hb hby d1_7) rfl rfl k) ?_
  obtain ⟨T2, X2, e2, st2⟩ := getS2 X1 hx hZ hown (host := "") (Or.inl (oW hw 24 rfl)) Via.refl e1 ((wS5 W).ext O0.2) (g := (mkF m 8 #[.val (.ref (w 5))] [(.ref (w 5))])) rfl (hb hby d1_8)
  refine oS (fun t k => st2 t k) ?_
  refine oS (fun t k => Jvm.RoadKit.acmp (g := (mkF m 11 #[.val (.ref (w 5))] [(.ref (w 5)), (.ref (w 5))])) X2 hx rfl rfl rfl (pc0 := 11) (pc' := 18) (same := true) rfl (hb hby d1_11) rfl (decide_eq_true rfl) (by decide) (by decide) k) ?_
  refine oS (fun t k => XS.iconst X2.here hx rfl (hb hby d1_18) k) ?_
  exact own_ret (v := some (.int 0)) X2 (fun h => by rw [Bd.returns] at h; cases h) Bd.notSynchronized (fun fs hr => retN X2 hx (t := .boolean) Bd.returns (by simp) (hb hby d1_19) hr) (by rw [e2]; exact ⟨rfl, N0, rfl⟩) (by decide) (by decide)
theorem pd_0 : parseMethodDescriptor "()Z" = some ⟨[], some .boolean⟩ := by decide +kernel
theorem ef_0_i (m : MethodId) (x0 : Int32) : entryFrame m #[(.int x0)] maxLocals = mkF m 0 #[.val (.int x0), .unset, .unset, .unset] [] := by first | (simp [entryFrame, mkF, argsToLocals, Value.category, maxLocals]; done) | rfl
theorem pn_1 : plainName "com/example/planwright/planwright/model/RelationOrdersPinLaw" = true := by first | (simp [plainName, overriddenIn]; done) | decide +kernel
def Q_law (Z : State) (p1 : Int32) (w : Nat → Addr) (h0 : Heap) (n0 : Nat) (v : Option Value) (h : Heap) (L : List Loc) : Prop := v = some (.int 1) ∧ Fr n0 L
set_option maxRecDepth 65536 in
set_option maxHeartbeats 40000000 in
theorem rm_law (l : Launch) (Z : State) (a0 : Array Value) (hw : ∀ d ∈ tables_1, d.before a0 Z = true) (ws : List Jvm.Cond) (p1 : Int32) (w : Nat → Addr) (h0 : Heap) (n0 : Nat) (O0 : Old Z n0 h0) (W : own_World Z w) :
    MetFree l x (head1 (Jvm.Cond.code x code maxLocals ret :: ws) room_1) (fun a U => a = #[(.int p1)] ∧ Z.Warmed39 U.vm ∧ U.heap = h0) (fun _ _ _ _ _ => True) (fun _ U o U' => ∃ v L, o = .returned v ∧ Q_law Z p1 w h0 n0 v U'.heap L ∧ FrameEnd U o U' L room_1.cells room_1.slots) := by
  refine MetFree.of_bodySF (plainFor_of_name pn_1) hisR ?_
  intro p e s m args below meth c s₁ Bd hml0 hP hK
  obtain ⟨rfl, hZ, hh⟩ := hP
  have hx := Bd.exec
  have hby := Bd.bytes
  have hml : c.maxLocals = 4 := hml0
  have hown : s.vm.findClass "com/example/planwright/planwright/model/RelationOrdersPinLaw" = some m.cls := findClass_of_methodNamed Bd.named
  have hnm := (name_of_methodNamed Bd.named Bd.method).1
  have X0 : Stand p l e room_1 s m #[(.int p1)] below meth c s₁ [] 0 0 := Stand.of_body Bd
  have e0 : s₁.heap = h0 := by rw [← hh, Bd.state]; rfl
  have N0 := Fr.nil n0
  show oG p e below s (Q_law Z p1 w h0 n0) room_1.cells room_1.slots _
  refine oS (fun t k => castTop (ef_0_i m p1) k) ?_
  show oG _ _ _ _ _ _ _ (s₁.setTop (mkF m 0 #[.val (.int p1), .unset, .unset, .unset] []))
  refine oS (fun t k => XS.iloadN X0.here hx rfl (hb hby at_0) rfl k) ?_
  refine oS (fun t k => X0.ldcInt hx hown (mvT hZ (oW hw 0 rfl)) (g := (mkF m 1 #[.val (.int p1), .unset, .unset, .unset] [(.int p1)])) rfl (hb hby at_1) t k) ?_
  refine oS (fun t k => XS.iand X0.here hx rfl (hb hby at_3) rfl k) ?_
  refine oS (fun t k => XS.bipush X0.here hx rfl (hb hby at_4) k) ?_
  refine oS (fun t k => iremM X0 hx rfl (hb hby at_6) rfl (by decide) k) ?_
  refine oS (fun t k => XS.istoreN X0.here hx rfl (hb hby at_7) rfl (l' := #[.val (.int p1), .val (.int ((p1 &&& (2147483647 : Int32)) % (6 : Int32))), .unset, .unset]) rfl k) ?_
  refine oS (fun t k => XS.bipush X0.here hx rfl (hb hby at_8) k) ?_
  obtain ⟨T1, h1, k1, X1, e1, E1, A1, O1v, st1⟩ := newR X0 hx hZ hown (oW hw 1 rfl) (oW hw 2 rfl) e0 (g := (mkF m 10 #[.val (.int p1), .val (.int ((p1 &&& (2147483647 : Int32)) % (6 : Int32))), .unset, .unset] [(.int 6)])) rfl (hb hby at_10) rfl (by decide) (cap := 6) (by decide) (by decide) (by decide) (by decide)
  obtain ⟨b1, g1⟩ : ∃ z, z = h0.size := ⟨_, rfl⟩
  rw [← g1] at A1 st1
  have V1 : Arv Z h1 b1 k1 (.object "com/example/planwright/planwright/model/Comparison$Relation") (6 : Int32) [.null, .null, .null, .null, .null, .null] .null := (Arv.new A1 (by decide)).pad (pad_rep [] .null 6)
  have gx1 : n0 ≤ b1 := Nat.le_trans (O0.1 ▸ O0.2.1) (Nat.le_of_eq g1.symm)
  have O1 := O0.ext E1
  refine oS (fun t k => st1 t k) ?_
  refine oS (fun t k => XS.dup X1.here hx rfl (hb hby at_13) rfl rfl k) ?_
  refine oS (fun t k => XS.iconst X1.here hx rfl (hb hby at_14) k) ?_
  show oG _ _ _ _ _ _ _ (T1.setTop (mkF m 15 #[.val (.int p1), .val (.int ((p1 &&& (2147483647 : Int32)) % (6 : Int32))), .unset, .unset] [(.int 0), (.ref b1), (.ref b1)]))
  obtain ⟨T2, X2, e2, st2⟩ := getS2 X1 hx hZ hown (host := "") (Or.inl (oW hw 3 rfl)) Via.refl e1 ((wS0 W).ext O1.2) (g := (mkF m 15 #[.val (.int p1), .val (.int ((p1 &&& (2147483647 : Int32)) % (6 : Int32))), .unset, .unset] [(.int 0), (.ref b1), (.ref b1)])) rfl (hb hby at_15)
  refine oS (fun t k => st2 t k) ?_
  obtain ⟨cl3, Ar3, q3, Sz3, Ng3, Ha3, Gf3⟩ := V1
  have hin3 : ¬ ((0 : Int32) < 0 ∨ cl3.slots.size ≤ ((0 : Int32)).toNatClampNeg) := inb_of Sz3 ⟨by decide, by decide⟩
  obtain ⟨T4, h4, X4, e4, W4, st4⟩ := stR X2 hx hZ e2 Ar3 (j := (0 : Int32)) hin3 rfl (Sto.ofV Ar3 q3 O1v (Ins.self ((wE0 W).ext O1.2))) (g := (mkF m 18 #[.val (.int p1), .val (.int ((p1 &&& (2147483647 : Int32)) % (6 : Int32))), .unset, .unset] [(.ref (w 0)), (.int 0), (.ref b1), (.ref b1)])) rfl rfl (hb hby at_18)
  have O4 := O1.wr W4 gx1
  have N4 := Fr.snoc X4 N0 gx1
  have V4 : Arv Z h4 b1 k1 (.object "com/example/planwright/planwright/model/Comparison$Relation") (6 : Int32) [(.ref (w 0)), .null, .null, .null, .null, .null] .null := Arv.set Ar3 q3 Sz3 Ng3 Ha3 Gf3 rfl W4 0 rfl (Nat.le_of_ble_eq_true rfl)
  refine oS (fun t k => st4 t k) ?_
  refine oS (fun t k => XS.dup X4.here hx rfl (hb hby at_19) rfl rfl k) ?_
  refine oS (fun t k => XS.iconst X4.here hx rfl (hb hby at_20) k) ?_
  obtain ⟨T5, X5, e5, st5⟩ := getS2 X4 hx hZ hown (host := "") (Or.inl (oW hw 7 rfl)) Via.refl e4 ((wS1 W).ext O4.2) (g := (mkF m 21 #[.val (.int p1), .val (.int ((p1 &&& (2147483647 : Int32)) % (6 : Int32))), .unset, .unset] [(.int 1), (.ref b1), (.ref b1)])) rfl (hb hby at_21)
  refine oS (fun t k => st5 t k) ?_
  obtain ⟨cl6, Ar6, q6, Sz6, Ng6, Ha6, Gf6⟩ := V4
  have hin6 : ¬ ((1 : Int32) < 0 ∨ cl6.slots.size ≤ ((1 : Int32)).toNatClampNeg) := inb_of Sz6 ⟨by decide, by decide⟩
  obtain ⟨T7, h7, X7, e7, W7, st7⟩ := stR X5 hx hZ e5 Ar6 (j := (1 : Int32)) hin6 rfl (Sto.ofV Ar6 q6 O1v (Ins.self ((wE1 W).ext O4.2))) (g := (mkF m 24 #[.val (.int p1), .val (.int ((p1 &&& (2147483647 : Int32)) % (6 : Int32))), .unset, .unset] [(.ref (w 1)), (.int 1), (.ref b1), (.ref b1)])) rfl rfl (hb hby at_24)
  have O7 := O4.wr W7 gx1
  have N7 := Fr.snoc X7 N4 gx1
  have V7 : Arv Z h7 b1 k1 (.object "com/example/planwright/planwright/model/Comparison$Relation") (6 : Int32) [(.ref (w 0)), (.ref (w 1)), .null, .null, .null, .null] .null := Arv.set Ar6 q6 Sz6 Ng6 Ha6 Gf6 rfl W7 1 rfl (Nat.le_of_ble_eq_true rfl)
  refine oS (fun t k => st7 t k) ?_
  refine oS (fun t k => XS.dup X7.here hx rfl (hb hby at_25) rfl rfl k) ?_
  refine oS (fun t k => XS.iconst X7.here hx rfl (hb hby at_26) k) ?_
  obtain ⟨T8, X8, e8, st8⟩ := getS2 X7 hx hZ hown (host := "") (Or.inl (oW hw 9 rfl)) Via.refl e7 ((wS2 W).ext O7.2) (g := (mkF m 27 #[.val (.int p1), .val (.int ((p1 &&& (2147483647 : Int32)) % (6 : Int32))), .unset, .unset] [(.int 2), (.ref b1), (.ref b1)])) rfl (hb hby at_27)
  refine oS (fun t k => st8 t k) ?_
  obtain ⟨cl9, Ar9, q9, Sz9, Ng9, Ha9, Gf9⟩ := V7
  have hin9 : ¬ ((2 : Int32) < 0 ∨ cl9.slots.size ≤ ((2 : Int32)).toNatClampNeg) := inb_of Sz9 ⟨by decide, by decide⟩
  obtain ⟨T10, h10, X10, e10, W10, st10⟩ := stR X8 hx hZ e8 Ar9 (j := (2 : Int32)) hin9 rfl (Sto.ofV Ar9 q9 O1v (Ins.self ((wE2 W).ext O7.2))) (g := (mkF m 30 #[.val (.int p1), .val (.int ((p1 &&& (2147483647 : Int32)) % (6 : Int32))), .unset, .unset] [(.ref (w 2)), (.int 2), (.ref b1), (.ref b1)])) rfl rfl (hb hby at_30)
  have O10 := O7.wr W10 gx1
  have N10 := Fr.snoc X10 N7 gx1
  have V10 : Arv Z h10 b1 k1 (.object "com/example/planwright/planwright/model/Comparison$Relation") (6 : Int32) [(.ref (w 0)), (.ref (w 1)), (.ref (w 2)), .null, .null, .null] .null := Arv.set Ar9 q9 Sz9 Ng9 Ha9 Gf9 rfl W10 2 rfl (Nat.le_of_ble_eq_true rfl)
  refine oS (fun t k => st10 t k) ?_
  show oG _ _ _ _ _ _ _ (T10.setTop (mkF m 31 #[.val (.int p1), .val (.int ((p1 &&& (2147483647 : Int32)) % (6 : Int32))), .unset, .unset] [(.ref b1)]))
  refine oS (fun t k => XS.dup X10.here hx rfl (hb hby at_31) rfl rfl k) ?_
  refine oS (fun t k => XS.iconst X10.here hx rfl (hb hby at_32) k) ?_
  obtain ⟨T11, X11, e11, st11⟩ := getS2 X10 hx hZ hown (host := "") (Or.inl (oW hw 11 rfl)) Via.refl e10 ((wS3 W).ext O10.2) (g := (mkF m 33 #[.val (.int p1), .val (.int ((p1 &&& (2147483647 : Int32)) % (6 : Int32))), .unset, .unset] [(.int 3), (.ref b1), (.ref b1)])) rfl (hb hby at_33)
  refine oS (fun t k => st11 t k) ?_
  obtain ⟨cl12, Ar12, q12, Sz12, Ng12, Ha12, Gf12⟩ := V10
  have hin12 : ¬ ((3 : Int32) < 0 ∨ cl12.slots.size ≤ ((3 : Int32)).toNatClampNeg) := inb_of Sz12 ⟨by decide, by decide⟩
  obtain ⟨T13, h13, X13, e13, W13, st13⟩ := stR X11 hx hZ e11 Ar12 (j := (3 : Int32)) hin12 rfl (Sto.ofV Ar12 q12 O1v (Ins.self ((wE3 W).ext O10.2))) (g := (mkF m 36 #[.val (.int p1), .val (.int ((p1 &&& (2147483647 : Int32)) % (6 : Int32))), .unset, .unset] [(.ref (w 3)), (.int 3), (.ref b1), (.ref b1)])) rfl rfl (hb hby at_36)
  have O13 := O10.wr W13 gx1
  have N13 := Fr.snoc X13 N10 gx1
  have V13 : Arv Z h13 b1 k1 (.object "com/example/planwright/planwright/model/Comparison$Relation") (6 : Int32) [(.ref (w 0)), (.ref (w 1)), (.ref (w 2)), (.ref (w 3)), .null, .null] .null := Arv.set Ar12 q12 Sz12 Ng12 Ha12 Gf12 rfl W13 3 rfl (Nat.le_of_ble_eq_true rfl)
  refine oS (fun t k => st13 t k) ?_
  refine oS (fun t k => XS.dup X13.here hx rfl (hb hby at_37) rfl rfl k) ?_
  refine oS (fun t k => XS.iconst X13.here hx rfl (hb hby at_38) k) ?_
  obtain ⟨T14, X14, e14, st14⟩ := getS2 X13 hx hZ hown (host := "") (Or.inl (oW hw 13 rfl)) Via.refl e13 ((wS4 W).ext O13.2) (g := (mkF m 39 #[.val (.int p1), .val (.int ((p1 &&& (2147483647 : Int32)) % (6 : Int32))), .unset, .unset] [(.int 4), (.ref b1), (.ref b1)])) rfl (hb hby at_39)
  refine oS (fun t k => st14 t k) ?_
  obtain ⟨cl15, Ar15, q15, Sz15, Ng15, Ha15, Gf15⟩ := V13
  have hin15 : ¬ ((4 : Int32) < 0 ∨ cl15.slots.size ≤ ((4 : Int32)).toNatClampNeg) := inb_of Sz15 ⟨by decide, by decide⟩
  obtain ⟨T16, h16, X16, e16, W16, st16⟩ := stR X14 hx hZ e14 Ar15 (j := (4 : Int32)) hin15 rfl (Sto.ofV Ar15 q15 O1v (Ins.self ((wE4 W).ext O13.2))) (g := (mkF m 42 #[.val (.int p1), .val (.int ((p1 &&& (2147483647 : Int32)) % (6 : Int32))), .unset, .unset] [(.ref (w 4)), (.int 4), (.ref b1), (.ref b1)])) rfl rfl (hb hby at_42)
  have O16 := O13.wr W16 gx1
  have N16 := Fr.snoc X16 N13 gx1
  have V16 : Arv Z h16 b1 k1 (.object "com/example/planwright/planwright/model/Comparison$Relation") (6 : Int32) [(.ref (w 0)), (.ref (w 1)), (.ref (w 2)), (.ref (w 3)), (.ref (w 4)), .null] .null := Arv.set Ar15 q15 Sz15 Ng15 Ha15 Gf15 rfl W16 4 rfl (Nat.le_of_ble_eq_true rfl)
  refine oS (fun t k => st16 t k) ?_
  refine oS (fun t k => XS.dup X16.here hx rfl (hb hby at_43) rfl rfl k) ?_
  refine oS (fun t k => XS.iconst X16.here hx rfl (hb hby at_44) k) ?_
  show oG _ _ _ _ _ _ _ (T16.setTop (mkF m 45 #[.val (.int p1), .val (.int ((p1 &&& (2147483647 : Int32)) % (6 : Int32))), .unset, .unset] [(.int 5), (.ref b1), (.ref b1)]))
  obtain ⟨T17, X17, e17, st17⟩ := getS2 X16 hx hZ hown (host := "") (Or.inl (oW hw 15 rfl)) Via.refl e16 ((wS5 W).ext O16.2) (g := (mkF m 45 #[.val (.int p1), .val (.int ((p1 &&& (2147483647 : Int32)) % (6 : Int32))), .unset, .unset] [(.int 5), (.ref b1), (.ref b1)])) rfl (hb hby at_45)
  refine oS (fun t k => st17 t k) ?_
  obtain ⟨cl18, Ar18, q18, Sz18, Ng18, Ha18, Gf18⟩ := V16
  have hin18 : ¬ ((5 : Int32) < 0 ∨ cl18.slots.size ≤ ((5 : Int32)).toNatClampNeg) := inb_of Sz18 ⟨by decide, by decide⟩
  obtain ⟨T19, h19, X19, e19, W19, st19⟩ := stR X17 hx hZ e17 Ar18 (j := (5 : Int32)) hin18 rfl (Sto.ofV Ar18 q18 O1v (Ins.self ((wE5 W).ext O16.2))) (g := (mkF m 48 #[.val (.int p1), .val (.int ((p1 &&& (2147483647 : Int32)) % (6 : Int32))), .unset, .unset] [(.ref (w 5)), (.int 5), (.ref b1), (.ref b1)])) rfl rfl (hb hby at_48)
  have O19 := O16.wr W19 gx1
  have N19 := Fr.snoc X19 N16 gx1
  have V19 : Arv Z h19 b1 k1 (.object "com/example/planwright/planwright/model/Comparison$Relation") (6 : Int32) [(.ref (w 0)), (.ref (w 1)), (.ref (w 2)), (.ref (w 3)), (.ref (w 4)), (.ref (w 5))] .null := Arv.set Ar18 q18 Sz18 Ng18 Ha18 Gf18 rfl W19 5 rfl (Nat.le_of_ble_eq_true rfl)
  refine oS (fun t k => st19 t k) ?_
  refine oS (fun t k => XS.astoreN X19.here hx rfl (hb hby at_49) rfl rfl (l' := #[.val (.int p1), .val (.int ((p1 &&& (2147483647 : Int32)) % (6 : Int32))), .val (.ref b1), .unset]) rfl k) ?_
  refine oS (fun t k => XS.bipush X19.here hx rfl (hb hby at_50) k) ?_
  obtain ⟨T20, h20, k20, X20, e20, E20, A20, st20⟩ := newP X19 hx hZ (oW hw 17 rfl) e19 (g := (mkF m 52 #[.val (.int p1), .val (.int ((p1 &&& (2147483647 : Int32)) % (6 : Int32))), .val (.ref b1), .unset] [(.int 6)])) rfl (hb hby at_52) rfl (by decide) (cap := 6) (by decide) (by decide) (by decide) (by decide)
  obtain ⟨b20, g20⟩ : ∃ z, z = h19.size := ⟨_, rfl⟩
  rw [← g20] at A20 st20
  have V20 : Arv Z h20 b20 k20 .boolean (6 : Int32) [(.int 0), (.int 0), (.int 0), (.int 0), (.int 0), (.int 0)] (.int 0) := (Arv.new A20 (by decide)).pad (pad_rep [] (.int 0) 6)
  have gx20 : n0 ≤ b20 := Nat.le_trans (O19.1 ▸ O19.2.1) (Nat.le_of_eq g20.symm)
  have ne_b1_b20 : b1 ≠ b20 := Nat.ne_of_lt (Nat.lt_of_lt_of_le V19.lt (Nat.le_of_eq g20.symm))
  have O20 := O19.ext E20
  refine oS (fun t k => st20 t k) ?_
  refine oS (fun t k => XS.dup X20.here hx rfl (hb hby at_54) rfl rfl k) ?_
  refine oS (fun t k => XS.iconst X20.here hx rfl (hb hby at_55) k) ?_
  refine oS (fun t k => XS.iconst X20.here hx rfl (hb hby at_56) k) ?_
  obtain ⟨cl21, Ar21, q21, Sz21, Ng21, Ha21, Gf21⟩ := V20
  have hin21 : ¬ ((0 : Int32) < 0 ∨ cl21.slots.size ≤ ((0 : Int32)).toNatClampNeg) := inb_of Sz21 ⟨by decide, by decide⟩
  obtain ⟨T22, h22, X22, e22, W22, st22⟩ := stZ X20 hx hZ e20 Ar21 (j := (0 : Int32)) hin21 (g := (mkF m 57 #[.val (.int p1), .val (.int ((p1 &&& (2147483647 : Int32)) % (6 : Int32))), .val (.ref b1), .unset] [(.int 1), (.int 0), (.ref b20), (.ref b20)])) rfl rfl (hb hby at_57)
  have O22 := O20.wr W22 gx20
  have N22 := Fr.snoc X22 N19 gx20
  have V22 : Arv Z h22 b20 k20 .boolean (6 : Int32) [(.int 1), (.int 0), (.int 0), (.int 0), (.int 0), (.int 0)] (.int 0) := Arv.set Ar21 q21 Sz21 Ng21 Ha21 Gf21 rfl W22 0 rfl (Nat.le_of_ble_eq_true rfl)
  refine oS (fun t k => st22 t k) ?_
  refine oS (fun t k => XS.dup X22.here hx rfl (hb hby at_58) rfl rfl k) ?_
  show oG _ _ _ _ _ _ _ (T22.setTop (mkF m 59 #[.val (.int p1), .val (.int ((p1 &&& (2147483647 : Int32)) % (6 : Int32))), .val (.ref b1), .unset] [(.ref b20), (.ref b20)]))
  refine oS (fun t k => XS.iconst X22.here hx rfl (hb hby at_59) k) ?_
  refine oS (fun t k => XS.iconst X22.here hx rfl (hb hby at_60) k) ?_
  obtain ⟨cl23, Ar23, q23, Sz23, Ng23, Ha23, Gf23⟩ := V22
  have hin23 : ¬ ((1 : Int32) < 0 ∨ cl23.slots.size ≤ ((1 : Int32)).toNatClampNeg) := inb_of Sz23 ⟨by decide, by decide⟩
  obtain ⟨T24, h24, X24, e24, W24, st24⟩ := stZ X22 hx hZ e22 Ar23 (j := (1 : Int32)) hin23 (g := (mkF m 61 #[.val (.int p1), .val (.int ((p1 &&& (2147483647 : Int32)) % (6 : Int32))), .val (.ref b1), .unset] [(.int 1), (.int 1), (.ref b20), (.ref b20)])) rfl rfl (hb hby at_61)
  have O24 := O22.wr W24 gx20
  have N24 := Fr.snoc X24 N22 gx20
  have V24 : Arv Z h24 b20 k20 .boolean (6 : Int32) [(.int 1), (.int 1), (.int 0), (.int 0), (.int 0), (.int 0)] (.int 0) := Arv.set Ar23 q23 Sz23 Ng23 Ha23 Gf23 rfl W24 1 rfl (Nat.le_of_ble_eq_true rfl)
  refine oS (fun t k => st24 t k) ?_
  refine oS (fun t k => XS.dup X24.here hx rfl (hb hby at_62) rfl rfl k) ?_
  refine oS (fun t k => XS.iconst X24.here hx rfl (hb hby at_63) k) ?_
  refine oS (fun t k => XS.iconst X24.here hx rfl (hb hby at_64) k) ?_
  obtain ⟨cl25, Ar25, q25, Sz25, Ng25, Ha25, Gf25⟩ := V24
  have hin25 : ¬ ((2 : Int32) < 0 ∨ cl25.slots.size ≤ ((2 : Int32)).toNatClampNeg) := inb_of Sz25 ⟨by decide, by decide⟩
  obtain ⟨T26, h26, X26, e26, W26, st26⟩ := stZ X24 hx hZ e24 Ar25 (j := (2 : Int32)) hin25 (g := (mkF m 65 #[.val (.int p1), .val (.int ((p1 &&& (2147483647 : Int32)) % (6 : Int32))), .val (.ref b1), .unset] [(.int 1), (.int 2), (.ref b20), (.ref b20)])) rfl rfl (hb hby at_65)
  have O26 := O24.wr W26 gx20
  have N26 := Fr.snoc X26 N24 gx20
  have V26 : Arv Z h26 b20 k20 .boolean (6 : Int32) [(.int 1), (.int 1), (.int 1), (.int 0), (.int 0), (.int 0)] (.int 0) := Arv.set Ar25 q25 Sz25 Ng25 Ha25 Gf25 rfl W26 2 rfl (Nat.le_of_ble_eq_true rfl)
  refine oS (fun t k => st26 t k) ?_
  refine oS (fun t k => XS.dup X26.here hx rfl (hb hby at_66) rfl rfl k) ?_
  refine oS (fun t k => XS.iconst X26.here hx rfl (hb hby at_67) k) ?_
  refine oS (fun t k => XS.iconst X26.here hx rfl (hb hby at_68) k) ?_
  show oG _ _ _ _ _ _ _ (T26.setTop (mkF m 69 #[.val (.int p1), .val (.int ((p1 &&& (2147483647 : Int32)) % (6 : Int32))), .val (.ref b1), .unset] [(.int 1), (.int 3), (.ref b20), (.ref b20)]))
  obtain ⟨cl27, Ar27, q27, Sz27, Ng27, Ha27, Gf27⟩ := V26
  have hin27 : ¬ ((3 : Int32) < 0 ∨ cl27.slots.size ≤ ((3 : Int32)).toNatClampNeg) := inb_of Sz27 ⟨by decide, by decide⟩
  obtain ⟨T28, h28, X28, e28, W28, st28⟩ := stZ X26 hx hZ e26 Ar27 (j := (3 : Int32)) hin27 (g := (mkF m 69 #[.val (.int p1), .val (.int ((p1 &&& (2147483647 : Int32)) % (6 : Int32))), .val (.ref b1), .unset] [(.int 1), (.int 3), (.ref b20), (.ref b20)])) rfl rfl (hb hby at_69)
  have O28 := O26.wr W28 gx20
  have N28 := Fr.snoc X28 N26 gx20
  have V28 : Arv Z h28 b20 k20 .boolean (6 : Int32) [(.int 1), (.int 1), (.int 1), (.int 1), (.int 0), (.int 0)] (.int 0) := Arv.set Ar27 q27 Sz27 Ng27 Ha27 Gf27 rfl W28 3 rfl (Nat.le_of_ble_eq_true rfl)
  refine oS (fun t k => st28 t k) ?_
  refine oS (fun t k => XS.dup X28.here hx rfl (hb hby at_70) rfl rfl k) ?_
  refine oS (fun t k => XS.iconst X28.here hx rfl (hb hby at_71) k) ?_
  refine oS (fun t k => XS.iconst X28.here hx rfl (hb hby at_72) k) ?_
  obtain ⟨cl29, Ar29, q29, Sz29, Ng29, Ha29, Gf29⟩ := V28
  have hin29 : ¬ ((4 : Int32) < 0 ∨ cl29.slots.size ≤ ((4 : Int32)).toNatClampNeg) := inb_of Sz29 ⟨by decide, by decide⟩
  obtain ⟨T30, h30, X30, e30, W30, st30⟩ := stZ X28 hx hZ e28 Ar29 (j := (4 : Int32)) hin29 (g := (mkF m 73 #[.val (.int p1), .val (.int ((p1 &&& (2147483647 : Int32)) % (6 : Int32))), .val (.ref b1), .unset] [(.int 0), (.int 4), (.ref b20), (.ref b20)])) rfl rfl (hb hby at_73)
  have O30 := O28.wr W30 gx20
  have N30 := Fr.snoc X30 N28 gx20
  have V30 : Arv Z h30 b20 k20 .boolean (6 : Int32) [(.int 1), (.int 1), (.int 1), (.int 1), (.int 0), (.int 0)] (.int 0) := Arv.set Ar29 q29 Sz29 Ng29 Ha29 Gf29 rfl W30 4 rfl (Nat.le_of_ble_eq_true rfl)
  refine oS (fun t k => st30 t k) ?_
  refine oS (fun t k => XS.dup X30.here hx rfl (hb hby at_74) rfl rfl k) ?_
  refine oS (fun t k => XS.iconst X30.here hx rfl (hb hby at_75) k) ?_
  refine oS (fun t k => XS.iconst X30.here hx rfl (hb hby at_76) k) ?_
  obtain ⟨cl31, Ar31, q31, Sz31, Ng31, Ha31, Gf31⟩ := V30
  have hin31 : ¬ ((5 : Int32) < 0 ∨ cl31.slots.size ≤ ((5 : Int32)).toNatClampNeg) := inb_of Sz31 ⟨by decide, by decide⟩
  obtain ⟨T32, h32, X32, e32, W32, st32⟩ := stZ X30 hx hZ e30 Ar31 (j := (5 : Int32)) hin31 (g := (mkF m 77 #[.val (.int p1), .val (.int ((p1 &&& (2147483647 : Int32)) % (6 : Int32))), .val (.ref b1), .unset] [(.int 0), (.int 5), (.ref b20), (.ref b20)])) rfl rfl (hb hby at_77)
  have O32 := O30.wr W32 gx20
  have N32 := Fr.snoc X32 N30 gx20
  have V32 : Arv Z h32 b20 k20 .boolean (6 : Int32) [(.int 1), (.int 1), (.int 1), (.int 1), (.int 0), (.int 0)] (.int 0) := Arv.set Ar31 q31 Sz31 Ng31 Ha31 Gf31 rfl W32 5 rfl (Nat.le_of_ble_eq_true rfl)
  refine oS (fun t k => st32 t k) ?_
  refine oS (fun t k => XS.astoreN X32.here hx rfl (hb hby at_78) rfl rfl (l' := #[.val (.int p1), .val (.int ((p1 &&& (2147483647 : Int32)) % (6 : Int32))), .val (.ref b1), .val (.ref b20)]) rfl k) ?_
  show oG _ _ _ _ _ _ _ (T32.setTop (mkF m 79 #[.val (.int p1), .val (.int ((p1 &&& (2147483647 : Int32)) % (6 : Int32))), .val (.ref b1), .val (.ref b20)] []))
  refine oS (fun t k => XS.aloadN X32.here hx rfl (hb hby at_79) rfl rfl k) ?_
  refine oS (fun t k => XS.iloadN X32.here hx rfl (hb hby at_80) rfl k) ?_
  show oG _ _ _ _ _ _ _ (T32.setTop (mkF m 81 #[.val (.int p1), .val (.int ((p1 &&& (2147483647 : Int32)) % (6 : Int32))), .val (.ref b1), .val (.ref b20)] [(.int ((p1 &&& (2147483647 : Int32)) % (6 : Int32))), (.ref b1)]))
  rcases own_six p1 with hs33 | hs33 | hs33 | hs33 | hs33 | hs33
  · rw [hs33]
    show oG _ _ _ _ _ _ _ (T32.setTop (mkF m 81 #[.val (.int p1), .val (.int 0), .val (.ref b1), .val (.ref b20)] [(.int 0), (.ref b1)]))
    obtain ⟨cl34, Ar34, q34, Sz34, Ng34, Ha34, Gf34⟩ := (((((((V19.ext E20).other W22 ne_b1_b20).other W24 ne_b1_b20).other W26 ne_b1_b20).other W28 ne_b1_b20).other W30 ne_b1_b20).other W32 ne_b1_b20)
    have hin34 : ¬ ((0 : Int32) < 0 ∨ cl34.slots.size ≤ ((0 : Int32)).toNatClampNeg) := (inb_of Sz34 ⟨by decide, by decide⟩)
    have hat34 : cl34.slots[((0 : Int32)).toNatClampNeg]? = some (.ref (w 0)) := Ha34.at hin34 rfl
    refine oS (fun t k => X32.aaload hx (j := (0 : Int32)) (v := (.ref (w 0))) (by rw [e32]; exact Ar34.1) (State.isArrayOf_alike hZ.alike Ar34.2.1) rfl Ar34.2.2 hin34 hat34 (g := (mkF m 81 #[.val (.int p1), .val (.int 0), .val (.ref b1), .val (.ref b20)] [(.int 0), (.ref b1)])) rfl rfl (hb hby at_81) t k) ?_
    obtain ⟨cq35, kq35, q35a, q35b, q35c⟩ := isOf hZ e32 ((wE0 W).ext O32.2)
    obtain ⟨_, _, ⟨T35, L35, k35, n35⟩, -, X35, ⟨Lc35, hQ35, l35, y35, z35⟩, st35⟩ := X32.virtualBack hx (y := mY0) (z := mY0) hown (mvT hZ (oW hw 18 rfl)) (mvT hZ (oW hw 19 rfl)) (notFace_of_selects (args := #[]) (mvT hZ (oW hw 21 rfl))) (mvT hZ (oW hw 21 rfl)) (mvT hZ (oW hw 20 rfl)) (by decide) (backOf (W := 0) (rm_m_LESS l Z a0 hw []  w h32 n0 O32 W ) hZ (oW hw 22 rfl) (oW hw 4 rfl) (by decide) (by decide)) q35a q35c (g := (mkF m 82 #[.val (.int p1), .val (.int 0), .val (.ref b1), .val (.ref b20)] [(.ref (w 0))])) rfl (by rw [hml]; rfl) (Steps.refl _) (argsL := []) (rest := []) (lenOf pd_0 rfl) rfl (by show 2 * 0 + _ ≤ _; exact Nat.le_of_eq rfl) (hb hby at_82) (fun _ _ => ⟨rfl, e32, (by decide : 2 + 0 ≤ _), (by decide : 12 + 0 ≤ _)⟩)
    dsimp only [Pt.U, Pt.locs, Pt.cells, Pt.slots] at X35 l35 y35 z35 st35 hQ35
    subst l35 y35 z35
    obtain ⟨rfl, Nq35, e35⟩ := hQ35
    have N35 := Fr.app N32 Nq35
    refine oS (fun t k => st35.trans k) ?_
    show oG _ _ _ _ _ _ _ (T35.setTop (mkF m 85 #[.val (.int p1), .val (.int 0), .val (.ref b1), .val (.ref b20)] [(.int 1)]))
    refine oS (fun t k => XS.aloadN X35.here hx rfl (hb hby at_85) rfl rfl k) ?_
    refine oS (fun t k => XS.iloadN X35.here hx rfl (hb hby at_86) rfl k) ?_
    obtain ⟨cl36, Ar36, q36, Sz36, Ng36, Ha36, Gf36⟩ := V32
    have hin36 : ¬ ((0 : Int32) < 0 ∨ cl36.slots.size ≤ ((0 : Int32)).toNatClampNeg) := (inb_of Sz36 ⟨by decide, by decide⟩)
    have hat36 : cl36.slots[((0 : Int32)).toNatClampNeg]? = some (.int 1) := Ha36.at hin36 rfl
    refine oS (fun t k => X35.baloadBooleans hx (j := (0 : Int32)) (v := (.int 1)) (by rw [e35]; exact Ar36.1) (State.isArrayOf_alike hZ.alike Ar36.2.1) Ar36.2.2 hin36 hat36 (g := (mkF m 87 #[.val (.int p1), .val (.int 0), .val (.ref b1), .val (.ref b20)] [(.int 0), (.ref b20), (.int 1)])) rfl rfl (hb hby at_87) t k) ?_
    refine oS (fun t k => XS.icmpNo X35.here hx rfl (hb hby at_88) rfl (teq (by decide)).2 k) ?_
    refine oS (fun t k => XS.iconst X35.here hx rfl (hb hby at_91) k) ?_
    refine oS (fun t k => XS.goto X35.here hx rfl (pc0 := 92) (pc' := 96) rfl (hb hby at_92) (by decide) (by decide) k) ?_
    exact own_ret (v := some (.int 1)) X35 (fun h => by rw [Bd.returns] at h; cases h) Bd.notSynchronized (fun fs hr => retN X35 hx (t := .boolean) Bd.returns (by simp) (hb hby at_96) hr) (by rw [e35]; exact ⟨rfl, N35⟩) (by decide) (by decide)
  · rw [hs33]
    show oG _ _ _ _ _ _ _ (T32.setTop (mkF m 81 #[.val (.int p1), .val (.int 1), .val (.ref b1), .val (.ref b20)] [(.int 1), (.ref b1)]))
    obtain ⟨cl37, Ar37, q37, Sz37, Ng37, Ha37, Gf37⟩ := (((((((V19.ext E20).other W22 ne_b1_b20).other W24 ne_b1_b20).other W26 ne_b1_b20).other W28 ne_b1_b20).other W30 ne_b1_b20).other W32 ne_b1_b20)
    have hin37 : ¬ ((1 : Int32) < 0 ∨ cl37.slots.size ≤ ((1 : Int32)).toNatClampNeg) := (inb_of Sz37 ⟨by decide, by decide⟩)
    have hat37 : cl37.slots[((1 : Int32)).toNatClampNeg]? = some (.ref (w 1)) := Ha37.at hin37 rfl
    refine oS (fun t k => X32.aaload hx (j := (1 : Int32)) (v := (.ref (w 1))) (by rw [e32]; exact Ar37.1) (State.isArrayOf_alike hZ.alike Ar37.2.1) rfl Ar37.2.2 hin37 hat37 (g := (mkF m 81 #[.val (.int p1), .val (.int 1), .val (.ref b1), .val (.ref b20)] [(.int 1), (.ref b1)])) rfl rfl (hb hby at_81) t k) ?_
    obtain ⟨cq38, kq38, q38a, q38b, q38c⟩ := isOf hZ e32 ((wE1 W).ext O32.2)
    obtain ⟨_, _, ⟨T38, L38, k38, n38⟩, -, X38, ⟨Lc38, hQ38, l38, y38, z38⟩, st38⟩ := X32.virtualBack hx (y := mY0) (z := mY0) hown (mvT hZ (oW hw 18 rfl)) (mvT hZ (oW hw 19 rfl)) (notFace_of_selects (args := #[]) (mvT hZ (oW hw 21 rfl))) (mvT hZ (oW hw 21 rfl)) (mvT hZ (oW hw 20 rfl)) (by decide) (backOf (W := 0) (rm_m_LESS_OR_EQUAL l Z a0 hw []  w h32 n0 O32 W ) hZ (oW hw 22 rfl) (oW hw 4 rfl) (by decide) (by decide)) q38a q38c (g := (mkF m 82 #[.val (.int p1), .val (.int 1), .val (.ref b1), .val (.ref b20)] [(.ref (w 1))])) rfl (by rw [hml]; rfl) (Steps.refl _) (argsL := []) (rest := []) (lenOf pd_0 rfl) rfl (by show 2 * 0 + _ ≤ _; exact Nat.le_of_eq rfl) (hb hby at_82) (fun _ _ => ⟨rfl, e32, (by decide : 2 + 0 ≤ _), (by decide : 12 + 0 ≤ _)⟩)
    dsimp only [Pt.U, Pt.locs, Pt.cells, Pt.slots] at X38 l38 y38 z38 st38 hQ38
    subst l38 y38 z38
    obtain ⟨rfl, Nq38, e38⟩ := hQ38
    have N38 := Fr.app N32 Nq38
    refine oS (fun t k => st38.trans k) ?_
    show oG _ _ _ _ _ _ _ (T38.setTop (mkF m 85 #[.val (.int p1), .val (.int 1), .val (.ref b1), .val (.ref b20)] [(.int 1)]))
    refine oS (fun t k => XS.aloadN X38.here hx rfl (hb hby at_85) rfl rfl k) ?_
    refine oS (fun t k => XS.iloadN X38.here hx rfl (hb hby at_86) rfl k) ?_
    obtain ⟨cl39, Ar39, q39, Sz39, Ng39, Ha39, Gf39⟩ := V32
    have hin39 : ¬ ((1 : Int32) < 0 ∨ cl39.slots.size ≤ ((1 : Int32)).toNatClampNeg) := (inb_of Sz39 ⟨by decide, by decide⟩)
    have hat39 : cl39.slots[((1 : Int32)).toNatClampNeg]? = some (.int 1) := Ha39.at hin39 rfl
    refine oS (fun t k => X38.baloadBooleans hx (j := (1 : Int32)) (v := (.int 1)) (by rw [e38]; exact Ar39.1) (State.isArrayOf_alike hZ.alike Ar39.2.1) Ar39.2.2 hin39 hat39 (g := (mkF m 87 #[.val (.int p1), .val (.int 1), .val (.ref b1), .val (.ref b20)] [(.int 1), (.ref b20), (.int 1)])) rfl rfl (hb hby at_87) t k) ?_
    refine oS (fun t k => XS.icmpNo X38.here hx rfl (hb hby at_88) rfl (teq (by decide)).2 k) ?_
    refine oS (fun t k => XS.iconst X38.here hx rfl (hb hby at_91) k) ?_
    refine oS (fun t k => XS.goto X38.here hx rfl (pc0 := 92) (pc' := 96) rfl (hb hby at_92) (by decide) (by decide) k) ?_
    exact own_ret (v := some (.int 1)) X38 (fun h => by rw [Bd.returns] at h; cases h) Bd.notSynchronized (fun fs hr => retN X38 hx (t := .boolean) Bd.returns (by simp) (hb hby at_96) hr) (by rw [e38]; exact ⟨rfl, N38⟩) (by decide) (by decide)
  · rw [hs33]
    show oG _ _ _ _ _ _ _ (T32.setTop (mkF m 81 #[.val (.int p1), .val (.int 2), .val (.ref b1), .val (.ref b20)] [(.int 2), (.ref b1)]))
    obtain ⟨cl40, Ar40, q40, Sz40, Ng40, Ha40, Gf40⟩ := (((((((V19.ext E20).other W22 ne_b1_b20).other W24 ne_b1_b20).other W26 ne_b1_b20).other W28 ne_b1_b20).other W30 ne_b1_b20).other W32 ne_b1_b20)
    have hin40 : ¬ ((2 : Int32) < 0 ∨ cl40.slots.size ≤ ((2 : Int32)).toNatClampNeg) := (inb_of Sz40 ⟨by decide, by decide⟩)
    have hat40 : cl40.slots[((2 : Int32)).toNatClampNeg]? = some (.ref (w 2)) := Ha40.at hin40 rfl
    refine oS (fun t k => X32.aaload hx (j := (2 : Int32)) (v := (.ref (w 2))) (by rw [e32]; exact Ar40.1) (State.isArrayOf_alike hZ.alike Ar40.2.1) rfl Ar40.2.2 hin40 hat40 (g := (mkF m 81 #[.val (.int p1), .val (.int 2), .val (.ref b1), .val (.ref b20)] [(.int 2), (.ref b1)])) rfl rfl (hb hby at_81) t k) ?_
    obtain ⟨cq41, kq41, q41a, q41b, q41c⟩ := isOf hZ e32 ((wE2 W).ext O32.2)
    obtain ⟨_, _, ⟨T41, L41, k41, n41⟩, -, X41, ⟨Lc41, hQ41, l41, y41, z41⟩, st41⟩ := X32.virtualBack hx (y := mY0) (z := mY0) hown (mvT hZ (oW hw 18 rfl)) (mvT hZ (oW hw 19 rfl)) (notFace_of_selects (args := #[]) (mvT hZ (oW hw 21 rfl))) (mvT hZ (oW hw 21 rfl)) (mvT hZ (oW hw 20 rfl)) (by decide) (backOf (W := 0) (rm_m_GREATER l Z a0 hw []  w h32 n0 O32 W ) hZ (oW hw 22 rfl) (oW hw 4 rfl) (by decide) (by decide)) q41a q41c (g := (mkF m 82 #[.val (.int p1), .val (.int 2), .val (.ref b1), .val (.ref b20)] [(.ref (w 2))])) rfl (by rw [hml]; rfl) (Steps.refl _) (argsL := []) (rest := []) (lenOf pd_0 rfl) rfl (by show 2 * 0 + _ ≤ _; exact Nat.le_of_eq rfl) (hb hby at_82) (fun _ _ => ⟨rfl, e32, (by decide : 2 + 0 ≤ _), (by decide : 12 + 0 ≤ _)⟩)
    dsimp only [Pt.U, Pt.locs, Pt.cells, Pt.slots] at X41 l41 y41 z41 st41 hQ41
    subst l41 y41 z41
    obtain ⟨rfl, Nq41, e41⟩ := hQ41
    have N41 := Fr.app N32 Nq41
    refine oS (fun t k => st41.trans k) ?_
    show oG _ _ _ _ _ _ _ (T41.setTop (mkF m 85 #[.val (.int p1), .val (.int 2), .val (.ref b1), .val (.ref b20)] [(.int 1)]))
    refine oS (fun t k => XS.aloadN X41.here hx rfl (hb hby at_85) rfl rfl k) ?_
    refine oS (fun t k => XS.iloadN X41.here hx rfl (hb hby at_86) rfl k) ?_
    obtain ⟨cl42, Ar42, q42, Sz42, Ng42, Ha42, Gf42⟩ := V32
    have hin42 : ¬ ((2 : Int32) < 0 ∨ cl42.slots.size ≤ ((2 : Int32)).toNatClampNeg) := (inb_of Sz42 ⟨by decide, by decide⟩)
    have hat42 : cl42.slots[((2 : Int32)).toNatClampNeg]? = some (.int 1) := Ha42.at hin42 rfl
    refine oS (fun t k => X41.baloadBooleans hx (j := (2 : Int32)) (v := (.int 1)) (by rw [e41]; exact Ar42.1) (State.isArrayOf_alike hZ.alike Ar42.2.1) Ar42.2.2 hin42 hat42 (g := (mkF m 87 #[.val (.int p1), .val (.int 2), .val (.ref b1), .val (.ref b20)] [(.int 2), (.ref b20), (.int 1)])) rfl rfl (hb hby at_87) t k) ?_
    refine oS (fun t k => XS.icmpNo X41.here hx rfl (hb hby at_88) rfl (teq (by decide)).2 k) ?_
    refine oS (fun t k => XS.iconst X41.here hx rfl (hb hby at_91) k) ?_
    refine oS (fun t k => XS.goto X41.here hx rfl (pc0 := 92) (pc' := 96) rfl (hb hby at_92) (by decide) (by decide) k) ?_
    exact own_ret (v := some (.int 1)) X41 (fun h => by rw [Bd.returns] at h; cases h) Bd.notSynchronized (fun fs hr => retN X41 hx (t := .boolean) Bd.returns (by simp) (hb hby at_96) hr) (by rw [e41]; exact ⟨rfl, N41⟩) (by decide) (by decide)
  · rw [hs33]
    show oG _ _ _ _ _ _ _ (T32.setTop (mkF m 81 #[.val (.int p1), .val (.int 3), .val (.ref b1), .val (.ref b20)] [(.int 3), (.ref b1)]))
    obtain ⟨cl43, Ar43, q43, Sz43, Ng43, Ha43, Gf43⟩ := (((((((V19.ext E20).other W22 ne_b1_b20).other W24 ne_b1_b20).other W26 ne_b1_b20).other W28 ne_b1_b20).other W30 ne_b1_b20).other W32 ne_b1_b20)
    have hin43 : ¬ ((3 : Int32) < 0 ∨ cl43.slots.size ≤ ((3 : Int32)).toNatClampNeg) := (inb_of Sz43 ⟨by decide, by decide⟩)
    have hat43 : cl43.slots[((3 : Int32)).toNatClampNeg]? = some (.ref (w 3)) := Ha43.at hin43 rfl
    refine oS (fun t k => X32.aaload hx (j := (3 : Int32)) (v := (.ref (w 3))) (by rw [e32]; exact Ar43.1) (State.isArrayOf_alike hZ.alike Ar43.2.1) rfl Ar43.2.2 hin43 hat43 (g := (mkF m 81 #[.val (.int p1), .val (.int 3), .val (.ref b1), .val (.ref b20)] [(.int 3), (.ref b1)])) rfl rfl (hb hby at_81) t k) ?_
    obtain ⟨cq44, kq44, q44a, q44b, q44c⟩ := isOf hZ e32 ((wE3 W).ext O32.2)
    obtain ⟨_, _, ⟨T44, L44, k44, n44⟩, -, X44, ⟨Lc44, hQ44, l44, y44, z44⟩, st44⟩ := X32.virtualBack hx (y := mY0) (z := mY0) hown (mvT hZ (oW hw 18 rfl)) (mvT hZ (oW hw 19 rfl)) (notFace_of_selects (args := #[]) (mvT hZ (oW hw 21 rfl))) (mvT hZ (oW hw 21 rfl)) (mvT hZ (oW hw 20 rfl)) (by decide) (backOf (W := 0) (rm_m_GREATER_OR_EQUAL l Z a0 hw []  w h32 n0 O32 W ) hZ (oW hw 22 rfl) (oW hw 4 rfl) (by decide) (by decide)) q44a q44c (g := (mkF m 82 #[.val (.int p1), .val (.int 3), .val (.ref b1), .val (.ref b20)] [(.ref (w 3))])) rfl (by rw [hml]; rfl) (Steps.refl _) (argsL := []) (rest := []) (lenOf pd_0 rfl) rfl (by show 2 * 0 + _ ≤ _; exact Nat.le_of_eq rfl) (hb hby at_82) (fun _ _ => ⟨rfl, e32, (by decide : 2 + 0 ≤ _), (by decide : 12 + 0 ≤ _)⟩)
    dsimp only [Pt.U, Pt.locs, Pt.cells, Pt.slots] at X44 l44 y44 z44 st44 hQ44
    subst l44 y44 z44
    obtain ⟨rfl, Nq44, e44⟩ := hQ44
    have N44 := Fr.app N32 Nq44
    refine oS (fun t k => st44.trans k) ?_
    show oG _ _ _ _ _ _ _ (T44.setTop (mkF m 85 #[.val (.int p1), .val (.int 3), .val (.ref b1), .val (.ref b20)] [(.int 1)]))
    refine oS (fun t k => XS.aloadN X44.here hx rfl (hb hby at_85) rfl rfl k) ?_
    refine oS (fun t k => XS.iloadN X44.here hx rfl (hb hby at_86) rfl k) ?_
    obtain ⟨cl45, Ar45, q45, Sz45, Ng45, Ha45, Gf45⟩ := V32
    have hin45 : ¬ ((3 : Int32) < 0 ∨ cl45.slots.size ≤ ((3 : Int32)).toNatClampNeg) := (inb_of Sz45 ⟨by decide, by decide⟩)
    have hat45 : cl45.slots[((3 : Int32)).toNatClampNeg]? = some (.int 1) := Ha45.at hin45 rfl
    refine oS (fun t k => X44.baloadBooleans hx (j := (3 : Int32)) (v := (.int 1)) (by rw [e44]; exact Ar45.1) (State.isArrayOf_alike hZ.alike Ar45.2.1) Ar45.2.2 hin45 hat45 (g := (mkF m 87 #[.val (.int p1), .val (.int 3), .val (.ref b1), .val (.ref b20)] [(.int 3), (.ref b20), (.int 1)])) rfl rfl (hb hby at_87) t k) ?_
    refine oS (fun t k => XS.icmpNo X44.here hx rfl (hb hby at_88) rfl (teq (by decide)).2 k) ?_
    refine oS (fun t k => XS.iconst X44.here hx rfl (hb hby at_91) k) ?_
    refine oS (fun t k => XS.goto X44.here hx rfl (pc0 := 92) (pc' := 96) rfl (hb hby at_92) (by decide) (by decide) k) ?_
    exact own_ret (v := some (.int 1)) X44 (fun h => by rw [Bd.returns] at h; cases h) Bd.notSynchronized (fun fs hr => retN X44 hx (t := .boolean) Bd.returns (by simp) (hb hby at_96) hr) (by rw [e44]; exact ⟨rfl, N44⟩) (by decide) (by decide)
  · rw [hs33]
    show oG _ _ _ _ _ _ _ (T32.setTop (mkF m 81 #[.val (.int p1), .val (.int 4), .val (.ref b1), .val (.ref b20)] [(.int 4), (.ref b1)]))
    obtain ⟨cl46, Ar46, q46, Sz46, Ng46, Ha46, Gf46⟩ := (((((((V19.ext E20).other W22 ne_b1_b20).other W24 ne_b1_b20).other W26 ne_b1_b20).other W28 ne_b1_b20).other W30 ne_b1_b20).other W32 ne_b1_b20)
    have hin46 : ¬ ((4 : Int32) < 0 ∨ cl46.slots.size ≤ ((4 : Int32)).toNatClampNeg) := (inb_of Sz46 ⟨by decide, by decide⟩)
    have hat46 : cl46.slots[((4 : Int32)).toNatClampNeg]? = some (.ref (w 4)) := Ha46.at hin46 rfl
    refine oS (fun t k => X32.aaload hx (j := (4 : Int32)) (v := (.ref (w 4))) (by rw [e32]; exact Ar46.1) (State.isArrayOf_alike hZ.alike Ar46.2.1) rfl Ar46.2.2 hin46 hat46 (g := (mkF m 81 #[.val (.int p1), .val (.int 4), .val (.ref b1), .val (.ref b20)] [(.int 4), (.ref b1)])) rfl rfl (hb hby at_81) t k) ?_
    obtain ⟨cq47, kq47, q47a, q47b, q47c⟩ := isOf hZ e32 ((wE4 W).ext O32.2)
    obtain ⟨_, _, ⟨T47, L47, k47, n47⟩, -, X47, ⟨Lc47, hQ47, l47, y47, z47⟩, st47⟩ := X32.virtualBack hx (y := mY0) (z := mY0) hown (mvT hZ (oW hw 18 rfl)) (mvT hZ (oW hw 19 rfl)) (notFace_of_selects (args := #[]) (mvT hZ (oW hw 21 rfl))) (mvT hZ (oW hw 21 rfl)) (mvT hZ (oW hw 20 rfl)) (by decide) (backOf (W := 0) (rm_m_EQUAL l Z a0 hw []  w h32 n0 O32 W ) hZ (oW hw 22 rfl) (oW hw 4 rfl) (by decide) (by decide)) q47a q47c (g := (mkF m 82 #[.val (.int p1), .val (.int 4), .val (.ref b1), .val (.ref b20)] [(.ref (w 4))])) rfl (by rw [hml]; rfl) (Steps.refl _) (argsL := []) (rest := []) (lenOf pd_0 rfl) rfl (by show 2 * 0 + _ ≤ _; exact Nat.le_of_eq rfl) (hb hby at_82) (fun _ _ => ⟨rfl, e32, (by decide : 2 + 0 ≤ _), (by decide : 12 + 0 ≤ _)⟩)
    dsimp only [Pt.U, Pt.locs, Pt.cells, Pt.slots] at X47 l47 y47 z47 st47 hQ47
    subst l47 y47 z47
    obtain ⟨rfl, Nq47, e47⟩ := hQ47
    have N47 := Fr.app N32 Nq47
    refine oS (fun t k => st47.trans k) ?_
    show oG _ _ _ _ _ _ _ (T47.setTop (mkF m 85 #[.val (.int p1), .val (.int 4), .val (.ref b1), .val (.ref b20)] [(.int 0)]))
    refine oS (fun t k => XS.aloadN X47.here hx rfl (hb hby at_85) rfl rfl k) ?_
    refine oS (fun t k => XS.iloadN X47.here hx rfl (hb hby at_86) rfl k) ?_
    obtain ⟨cl48, Ar48, q48, Sz48, Ng48, Ha48, Gf48⟩ := V32
    have hin48 : ¬ ((4 : Int32) < 0 ∨ cl48.slots.size ≤ ((4 : Int32)).toNatClampNeg) := (inb_of Sz48 ⟨by decide, by decide⟩)
    have hat48 : cl48.slots[((4 : Int32)).toNatClampNeg]? = some (.int 0) := Ha48.at hin48 rfl
    refine oS (fun t k => X47.baloadBooleans hx (j := (4 : Int32)) (v := (.int 0)) (by rw [e47]; exact Ar48.1) (State.isArrayOf_alike hZ.alike Ar48.2.1) Ar48.2.2 hin48 hat48 (g := (mkF m 87 #[.val (.int p1), .val (.int 4), .val (.ref b1), .val (.ref b20)] [(.int 4), (.ref b20), (.int 0)])) rfl rfl (hb hby at_87) t k) ?_
    refine oS (fun t k => XS.icmpNo X47.here hx rfl (hb hby at_88) rfl (teq (by decide)).2 k) ?_
    refine oS (fun t k => XS.iconst X47.here hx rfl (hb hby at_91) k) ?_
    refine oS (fun t k => XS.goto X47.here hx rfl (pc0 := 92) (pc' := 96) rfl (hb hby at_92) (by decide) (by decide) k) ?_
    exact own_ret (v := some (.int 1)) X47 (fun h => by rw [Bd.returns] at h; cases h) Bd.notSynchronized (fun fs hr => retN X47 hx (t := .boolean) Bd.returns (by simp) (hb hby at_96) hr) (by rw [e47]; exact ⟨rfl, N47⟩) (by decide) (by decide)
  · rw [hs33]
    show oG _ _ _ _ _ _ _ (T32.setTop (mkF m 81 #[.val (.int p1), .val (.int 5), .val (.ref b1), .val (.ref b20)] [(.int 5), (.ref b1)]))
    obtain ⟨cl49, Ar49, q49, Sz49, Ng49, Ha49, Gf49⟩ := (((((((V19.ext E20).other W22 ne_b1_b20).other W24 ne_b1_b20).other W26 ne_b1_b20).other W28 ne_b1_b20).other W30 ne_b1_b20).other W32 ne_b1_b20)
    have hin49 : ¬ ((5 : Int32) < 0 ∨ cl49.slots.size ≤ ((5 : Int32)).toNatClampNeg) := (inb_of Sz49 ⟨by decide, by decide⟩)
    have hat49 : cl49.slots[((5 : Int32)).toNatClampNeg]? = some (.ref (w 5)) := Ha49.at hin49 rfl
    refine oS (fun t k => X32.aaload hx (j := (5 : Int32)) (v := (.ref (w 5))) (by rw [e32]; exact Ar49.1) (State.isArrayOf_alike hZ.alike Ar49.2.1) rfl Ar49.2.2 hin49 hat49 (g := (mkF m 81 #[.val (.int p1), .val (.int 5), .val (.ref b1), .val (.ref b20)] [(.int 5), (.ref b1)])) rfl rfl (hb hby at_81) t k) ?_
    obtain ⟨cq50, kq50, q50a, q50b, q50c⟩ := isOf hZ e32 ((wE5 W).ext O32.2)
    obtain ⟨_, _, ⟨T50, L50, k50, n50⟩, -, X50, ⟨Lc50, hQ50, l50, y50, z50⟩, st50⟩ := X32.virtualBack hx (y := mY0) (z := mY0) hown (mvT hZ (oW hw 18 rfl)) (mvT hZ (oW hw 19 rfl)) (notFace_of_selects (args := #[]) (mvT hZ (oW hw 21 rfl))) (mvT hZ (oW hw 21 rfl)) (mvT hZ (oW hw 20 rfl)) (by decide) (backOf (W := 0) (rm_m_NOT_EQUAL l Z a0 hw []  w h32 n0 O32 W ) hZ (oW hw 22 rfl) (oW hw 4 rfl) (by decide) (by decide)) q50a q50c (g := (mkF m 82 #[.val (.int p1), .val (.int 5), .val (.ref b1), .val (.ref b20)] [(.ref (w 5))])) rfl (by rw [hml]; rfl) (Steps.refl _) (argsL := []) (rest := []) (lenOf pd_0 rfl) rfl (by show 2 * 0 + _ ≤ _; exact Nat.le_of_eq rfl) (hb hby at_82) (fun _ _ => ⟨rfl, e32, (by decide : 2 + 0 ≤ _), (by decide : 12 + 0 ≤ _)⟩)
    dsimp only [Pt.U, Pt.locs, Pt.cells, Pt.slots] at X50 l50 y50 z50 st50 hQ50
    subst l50 y50 z50
    obtain ⟨rfl, Nq50, e50⟩ := hQ50
    have N50 := Fr.app N32 Nq50
    refine oS (fun t k => st50.trans k) ?_
    show oG _ _ _ _ _ _ _ (T50.setTop (mkF m 85 #[.val (.int p1), .val (.int 5), .val (.ref b1), .val (.ref b20)] [(.int 0)]))
    refine oS (fun t k => XS.aloadN X50.here hx rfl (hb hby at_85) rfl rfl k) ?_
    refine oS (fun t k => XS.iloadN X50.here hx rfl (hb hby at_86) rfl k) ?_
    obtain ⟨cl51, Ar51, q51, Sz51, Ng51, Ha51, Gf51⟩ := V32
    have hin51 : ¬ ((5 : Int32) < 0 ∨ cl51.slots.size ≤ ((5 : Int32)).toNatClampNeg) := (inb_of Sz51 ⟨by decide, by decide⟩)
    have hat51 : cl51.slots[((5 : Int32)).toNatClampNeg]? = some (.int 0) := Ha51.at hin51 rfl
    refine oS (fun t k => X50.baloadBooleans hx (j := (5 : Int32)) (v := (.int 0)) (by rw [e50]; exact Ar51.1) (State.isArrayOf_alike hZ.alike Ar51.2.1) Ar51.2.2 hin51 hat51 (g := (mkF m 87 #[.val (.int p1), .val (.int 5), .val (.ref b1), .val (.ref b20)] [(.int 5), (.ref b20), (.int 0)])) rfl rfl (hb hby at_87) t k) ?_
    refine oS (fun t k => XS.icmpNo X50.here hx rfl (hb hby at_88) rfl (teq (by decide)).2 k) ?_
    refine oS (fun t k => XS.iconst X50.here hx rfl (hb hby at_91) k) ?_
    refine oS (fun t k => XS.goto X50.here hx rfl (pc0 := 92) (pc' := 96) rfl (hb hby at_92) (by decide) (by decide) k) ?_
    exact own_ret (v := some (.int 1)) X50 (fun h => by rw [Bd.returns] at h; cases h) Bd.notSynchronized (fun fs hr => retN X50 hx (t := .boolean) Bd.returns (by simp) (hb hby at_96) hr) (by rw [e50]; exact ⟨rfl, N50⟩) (by decide) (by decide)
set_option maxRecDepth 65536 in
set_option maxHeartbeats 40000000 in
theorem comes_1 {Post : Tables → Env → Array Value → State → Outcome → State → Prop} (hpost : ∀ tb e args s v u, (limb_1_1.after args s (.returned v) u = true ∧ limb_1_2.after args s (.returned v) u = true ∧ True) → FrameEnd s (.returned v) u (Jvm.fieldLocs frame_1_writes args s ++ Jvm.arrayLocs frame_1_arrays args s ++ Jvm.staticLocs frame_1_statics s) 16 128 → Post tb e args s (.returned v) u) :
    ArmFor flags0 classFile x code maxLocals ret World_1 tables_1 room_1 Calls_1 rest_1 Pre_1 Post := by
  intro l hfl _ _ p e ha hc hk s m args below hf hA hF happ hP
  obtain ⟨hcalls, hrest, hpre⟩ := hP
  obtain ⟨-, -, -, hnamed, -, -, -, hat⟩ := (Spec.applies_iff hf).mp happ
  obtain ⟨hg, hn⟩ := and_e (Cond.before_iff.mp (show (Jvm.Cond.and given_1 narrow_1).before args s = true from hpre))
  obtain ⟨g0, g1⟩ := and_e hg
  obtain ⟨w0, rfl⟩ : ∃ w0 : Value, args = #[w0] := by
    have hs : args.size = 1 := by simpa [Cond.value, given_1] using g0
    obtain ⟨L⟩ := args
    match L, hs with
    | [w0], _ => exact ⟨w0, rfl⟩
  have hw := fun d (hd : d ∈ tables_1) => atoms_spec (ws := Jvm.Cond.code x code maxLocals ret :: tables_1) hat d (List.mem_cons_of_mem _ hd)
  have hfit : Fit s := fun {y c} hc i hi => by
    obtain ⟨ha, rfl⟩ := Array.getElem?_eq_some_iff.mp hc
    have q := List.all_eq_true.mp ((Array.all_eq_true_iff_forall_mem.mp hF) _ (Array.getElem_mem ha)) i (List.mem_range.mpr hi)
    simpa [Array.getElem?_eq_getElem hi] using q
  obtain ⟨i0, ei0⟩ := is_v g1
  obtain rfl : w0 = (.int i0) := Option.some.inj ei0
  obtain ⟨w, W⟩ := own_world hw hfit hn
  obtain ⟨n, o, h1, h2, h3, _, L, rfl, ⟨rfl, N⟩, hq⟩ := rm_law l s _ hw tables_1 i0 w s.heap s.heap.size (Old.start s) W  p e ha hc hk s m _ below hf ((Spec.applies_iff_loose hf).mp happ).1 ⟨rfl, State.Warmed39.refl s, rfl⟩ trivial
  refine ⟨n, _, h1, h2, h3, hpost _ _ _ _ _ _ ⟨Cond.after_iff.mpr rfl, Cond.after_iff.mpr (eq_i res_at (Term.int_eval (1)) rfl), trivial⟩ ⟨hq.1, hq.2.1, (hq.2.2.sift fun y hy => Or.inr (N y hy)).mono (by decide) (by decide)⟩⟩
theorem main_1_1 : Claimed_1_1 := comes_1 fun _ _ _ _ _ _ h hF => ⟨h.1, hF⟩
theorem main_1_2 : Claimed_1_2 := comes_1 fun _ _ _ _ _ _ h hF => ⟨h.2.1, hF⟩
end Jvm.Pilot.@@N@@
namespace Jvm.Pilot.@@N@@
open Jvm Jvm.ClassFile Sem Op Lib Jvm.Free Jvm.Stand Jvm.Pilot.@@N@@.Jvm.D
/-! MADE BY PROGRAM (witnessworld.py) out of the Statement's table words and the real class files: 15 classes; the members and pool entries that the words name. The judged class is class 1, her method 1. -/
namespace start1
open Jvm.ClassFile
def u (s : String) : CpInfo := .utf8 (stringToUtf16 s)
/-- a pool by its gaps: so many unusable entries, then the entry; so many at the end -/
def gap : Nat → List CpInfo → List CpInfo
  | 0, r => r
  | n + 1, r => .unusable :: gap n r
def poolList (es : List (Nat × CpInfo)) (last : Nat) : List CpInfo := es.foldr (fun e r => gap e.1 (e.2 :: r)) (gap last [])
def pool (es : List (Nat × CpInfo)) (last : Nat) : Array CpInfo := ⟨poolList es last⟩
def fileOf (pool : Array CpInfo) (this : Nat) (attrs : Array Attribute := #[]) (ms : Array MethodInfo := #[]) (fl : Nat := 33) (sup : Nat := 0) (ifs : Array Nat := #[]) (fds : Array FieldInfo := #[]) : ClassFile where
  minorVersion := 0
  majorVersion := 65
  constantPool := pool
  accessFlags := fl
  thisClass := this
  superClass := sup
  interfaces := ifs
  fields := fds
  methods := ms
  attributes := attrs
def plain (name : String) (sup : Option ClassId) : Class where
  name := name
  kind := .ordinary
  loader := none
  accessFlags := 33
  super := sup
  interfaces := #[]
  cf := none
  fields := #[]
  methods := #[]
  instanceTypes := #[]
  staticTypes := #[]
  resolved := #[]
  callSites := []
  init := .initialized
  statics := none
  mirror := none

def pool0 : Array CpInfo := pool [(5, u "<init>"), (0, u "()V"), (1, .class_ 10), (1, u "java/lang/Object")] 113

def k0m0 : Method := { name := "<init>", desc := "()V", sig := { parameters := [], returnType := none }, accessFlags := 1, code := none }
/-- java/lang/Object -/
def k0 : Class := { plain "java/lang/Object" none with
  accessFlags := 33
  interfaces := #[]
  cf := some (fileOf pool0 8 #[] #[{ accessFlags := 1, nameIndex := 5, descriptorIndex := 6, attributes := #[] }] 33 0 #[] #[])
  fields := #[]
  methods := #[k0m0]
  instanceTypes := #[]
  staticTypes := #[]
  resolved := Array.replicate 124 none
  statics := none }

def pool1 : Array CpInfo := pool [(2, .class_ 4), (1, u "java/lang/Object"), (0, u "<init>"), (0, u "()V"), (0, .integer 2147483647), (0, .class_ 9), (0, u "com/example/planwright/planwright/model/Comparison$Relation"), (0, .fieldref 8 11), (0, .nameAndType 12 13), (0, u "LESS"), (0, u "Lcom/example/planwright/planwright/model/Comparison$Relation;"), (0, .fieldref 8 15), (0, .nameAndType 16 13), (0, u "LESS_OR_EQUAL"), (0, .fieldref 8 18), (0, .nameAndType 19 13), (0, u "GREATER"), (0, .fieldref 8 21), (0, .nameAndType 22 13), (0, u "GREATER_OR_EQUAL"), (0, .fieldref 8 24), (0, .nameAndType 25 13), (0, u "EQUAL"), (0, .fieldref 8 27), (0, .nameAndType 28 13), (0, u "NOT_EQUAL"), (0, .methodref 8 30), (0, .nameAndType 31 32), (0, u "orders"), (0, u "()Z"), (0, .class_ 34), (0, u "com/example/planwright/planwright/model/RelationOrdersPinLaw"), (2, u "law"), (0, u "(I)Z")] 11

def k1m0 : Method := { name := "<init>", desc := "()V", sig := { parameters := [], returnType := none }, accessFlags := 1, code := none }
def k1c1 : Code := { maxStack := 4, maxLocals := 4, code := code, exceptionTable := #[], attributes := #[] }
def k1m1 : Method := { name := "law", desc := "(I)Z", sig := { parameters := [.int], returnType := some .boolean }, accessFlags := 9, code := some k1c1 }
/-- com/example/planwright/planwright/model/RelationOrdersPinLaw -/
def k1 : Class := { plain "com/example/planwright/planwright/model/RelationOrdersPinLaw" (some 0) with
  accessFlags := 49
  interfaces := #[]
  cf := some (fileOf pool1 33 #[] #[{ accessFlags := 1, nameIndex := 5, descriptorIndex := 6, attributes := #[] }, { accessFlags := 9, nameIndex := 37, descriptorIndex := 38, attributes := #[] }] 49 2 #[] #[])
  fields := #[]
  methods := #[k1m0, k1m1]
  instanceTypes := #[]
  staticTypes := #[]
  resolved := Array.replicate 50 none
  statics := none }

def pool2 : Array CpInfo := pool [(1, .class_ 2), (0, u "java/lang/constant/Constable"), (0, .class_ 4), (0, u "java/lang/Object")] 6

/-- java/lang/constant/Constable -/
def k2 : Class := { plain "java/lang/constant/Constable" (some 0) with
  accessFlags := 1537
  interfaces := #[]
  cf := some (fileOf pool2 1 #[] #[] 1537 3 #[] #[])
  fields := #[]
  methods := #[]
  instanceTypes := #[]
  staticTypes := #[]
  resolved := Array.replicate 11 none
  statics := none }

def pool3 : Array CpInfo := pool [(1, .class_ 2), (0, u "java/lang/Comparable"), (0, .class_ 4), (0, u "java/lang/Object")] 7

/-- java/lang/Comparable -/
def k3 : Class := { plain "java/lang/Comparable" (some 0) with
  accessFlags := 1537
  interfaces := #[]
  cf := some (fileOf pool3 1 #[] #[] 1537 3 #[] #[])
  fields := #[]
  methods := #[]
  instanceTypes := #[]
  staticTypes := #[]
  resolved := Array.replicate 12 none
  statics := none }

def pool4 : Array CpInfo := pool [(1, .class_ 2), (0, u "java/io/Serializable"), (0, .class_ 4), (0, u "java/lang/Object")] 2

/-- java/io/Serializable -/
def k4 : Class := { plain "java/io/Serializable" (some 0) with
  accessFlags := 1537
  interfaces := #[]
  cf := some (fileOf pool4 1 #[] #[] 1537 3 #[] #[])
  fields := #[]
  methods := #[]
  instanceTypes := #[]
  staticTypes := #[]
  resolved := Array.replicate 7 none
  statics := none }

def pool5 : Array CpInfo := pool [(2, .class_ 4), (1, u "java/lang/Enum"), (0, u "name"), (0, u "Ljava/lang/String;"), (2, u "ordinal"), (0, u "I"), (1, .class_ 14), (1, u "java/lang/Object"), (4, u "hash"), (86, .class_ 108), (1, u "java/lang/Enum$EnumDesc"), (2, .class_ 112), (0, u "java/lang/constant/Constable"), (0, .class_ 114), (0, u "java/lang/Comparable"), (0, .class_ 116), (0, u "java/io/Serializable")] 87

/-- java/lang/Enum -/
def k5 : Class := { plain "java/lang/Enum" (some 0) with
  accessFlags := 1057
  interfaces := #[2, 3, 4]
  cf := some (fileOf pool5 2 #[.nestMembers #[106]] #[] 1057 12 #[111, 113, 115] #[{ accessFlags := 18, nameIndex := 5, descriptorIndex := 6, attributes := #[] }, { accessFlags := 18, nameIndex := 9, descriptorIndex := 10, attributes := #[] }, { accessFlags := 2, nameIndex := 19, descriptorIndex := 10, attributes := #[] }])
  fields := #[{ name := "name", type := (.object "java/lang/String"), accessFlags := 18, slot := 0, constantValue := 0 }, { name := "ordinal", type := .int, accessFlags := 18, slot := 1, constantValue := 0 }, { name := "hash", type := .int, accessFlags := 2, slot := 2, constantValue := 0 }]
  methods := #[]
  instanceTypes := #[(.object "java/lang/String"), .int, .int]
  staticTypes := #[]
  resolved := Array.replicate 204 none
  statics := none }

def pool6 : Array CpInfo := pool [(1, .class_ 2), (0, u "com/example/planwright/planwright/model/Comparison$Relation"), (2, u "LESS"), (0, u "Lcom/example/planwright/planwright/model/Comparison$Relation;"), (2, u "LESS_OR_EQUAL"), (2, u "GREATER"), (2, u "GREATER_OR_EQUAL"), (0, .fieldref 1 17), (0, .nameAndType 18 6), (0, u "EQUAL"), (0, .fieldref 1 20), (0, .nameAndType 21 6), (0, u "NOT_EQUAL"), (2, u "$VALUES"), (0, u "[Lcom/example/planwright/planwright/model/Comparison$Relation;"), (6, .class_ 34), (1, u "java/lang/Enum"), (8, u "symbol"), (0, u "Ljava/lang/String;"), (2, u "rule"), (0, u "Ljava/util/function/IntPredicate;"), (42, u "orders"), (0, u "()Z"), (14, .class_ 108), (0, u "com/example/planwright/planwright/model/Comparison")] 34

def k6c0 : Code := { maxStack := 2, maxLocals := 1, code := prog_27_method_5_code, exceptionTable := #[], attributes := #[] }
def k6m0 : Method := { name := "orders", desc := "()Z", sig := { parameters := [], returnType := some .boolean }, accessFlags := 0, code := some k6c0 }
/-- com/example/planwright/planwright/model/Comparison$Relation -/
def k6 : Class := { plain "com/example/planwright/planwright/model/Comparison$Relation" (some 5) with
  accessFlags := 16433
  interfaces := #[]
  cf := some (fileOf pool6 1 #[.nestHost 107] #[{ accessFlags := 0, nameIndex := 91, descriptorIndex := 92, attributes := #[] }] 16433 32 #[] #[{ accessFlags := 16409, nameIndex := 5, descriptorIndex := 6, attributes := #[] }, { accessFlags := 16409, nameIndex := 9, descriptorIndex := 6, attributes := #[] }, { accessFlags := 16409, nameIndex := 12, descriptorIndex := 6, attributes := #[] }, { accessFlags := 16409, nameIndex := 15, descriptorIndex := 6, attributes := #[] }, { accessFlags := 16409, nameIndex := 18, descriptorIndex := 6, attributes := #[] }, { accessFlags := 16409, nameIndex := 21, descriptorIndex := 6, attributes := #[] }, { accessFlags := 18, nameIndex := 43, descriptorIndex := 44, attributes := #[] }, { accessFlags := 18, nameIndex := 47, descriptorIndex := 48, attributes := #[] }, { accessFlags := 4122, nameIndex := 24, descriptorIndex := 25, attributes := #[] }])
  fields := #[{ name := "LESS", type := (.object "com/example/planwright/planwright/model/Comparison$Relation"), accessFlags := 16409, slot := 0, constantValue := 0 }, { name := "LESS_OR_EQUAL", type := (.object "com/example/planwright/planwright/model/Comparison$Relation"), accessFlags := 16409, slot := 1, constantValue := 0 }, { name := "GREATER", type := (.object "com/example/planwright/planwright/model/Comparison$Relation"), accessFlags := 16409, slot := 2, constantValue := 0 }, { name := "GREATER_OR_EQUAL", type := (.object "com/example/planwright/planwright/model/Comparison$Relation"), accessFlags := 16409, slot := 3, constantValue := 0 }, { name := "EQUAL", type := (.object "com/example/planwright/planwright/model/Comparison$Relation"), accessFlags := 16409, slot := 4, constantValue := 0 }, { name := "NOT_EQUAL", type := (.object "com/example/planwright/planwright/model/Comparison$Relation"), accessFlags := 16409, slot := 5, constantValue := 0 }, { name := "symbol", type := (.object "java/lang/String"), accessFlags := 18, slot := 3, constantValue := 0 }, { name := "rule", type := (.object "java/util/function/IntPredicate"), accessFlags := 18, slot := 4, constantValue := 0 }, { name := "$VALUES", type := (.array (.object "com/example/planwright/planwright/model/Comparison$Relation")), accessFlags := 4122, slot := 6, constantValue := 0 }]
  methods := #[k6m0]
  instanceTypes := #[(.object "java/lang/String"), .int, .int, (.object "java/lang/String"), (.object "java/util/function/IntPredicate")]
  staticTypes := #[(.object "com/example/planwright/planwright/model/Comparison$Relation"), (.object "com/example/planwright/planwright/model/Comparison$Relation"), (.object "com/example/planwright/planwright/model/Comparison$Relation"), (.object "com/example/planwright/planwright/model/Comparison$Relation"), (.object "com/example/planwright/planwright/model/Comparison$Relation"), (.object "com/example/planwright/planwright/model/Comparison$Relation"), (.array (.object "com/example/planwright/planwright/model/Comparison$Relation"))]
  resolved := Array.replicate 143 none
  statics := some 0 }

def pool7 : Array CpInfo := pool [(1, u "java/lang/Cloneable"), (0, .class_ 1), (0, u "java/lang/Object"), (0, .class_ 3)] 3

/-- java/lang/Cloneable -/
def k7 : Class := { plain "java/lang/Cloneable" (some 0) with
  accessFlags := 1537
  interfaces := #[]
  cf := some (fileOf pool7 2 #[] #[] 1537 4 #[] #[])
  fields := #[]
  methods := #[]
  instanceTypes := #[]
  staticTypes := #[]
  resolved := Array.replicate 8 none
  statics := none }

/-- the primitive boolean -/
def k8 : Class := { plain "boolean" none with kind := .primitive 'Z', accessFlags := 0x411 }
/-- [Z -/
def k9 : Class := { plain "[Z" (some 0) with kind := .array 8 .boolean, interfaces := #[7, 4], accessFlags := 1041 }

/-- the primitive byte -/
def k10 : Class := { plain "byte" none with kind := .primitive 'B', accessFlags := 0x411 }
/-- [B -/
def k11 : Class := { plain "[B" (some 0) with kind := .array 10 .byte, interfaces := #[7, 4], accessFlags := 1041 }

/-- the primitive int -/
def k12 : Class := { plain "int" none with kind := .primitive 'I', accessFlags := 0x411 }
/-- [I -/
def k13 : Class := { plain "[I" (some 0) with kind := .array 12 .int, interfaces := #[7, 4], accessFlags := 1041 }

/-- [Lcom/example/planwright/planwright/model/Comparison$Relation; -/
def k14 : Class := { plain "[Lcom/example/planwright/planwright/model/Comparison$Relation;" (some 0) with kind := .array 6 (.object "com/example/planwright/planwright/model/Comparison$Relation"), interfaces := #[7, 4], accessFlags := 1041 }

def heap : Heap := #[{ cls := 6, slots := #[.ref 1, .ref 2, .ref 3, .ref 4, .ref 5, .ref 6, .null], vm := .statics 6 },
  { cls := 6, slots := #[.null, .int 0, .int 0, .null, .null], vm := .none },
  { cls := 6, slots := #[.null, .int 1, .int 0, .null, .null], vm := .none },
  { cls := 6, slots := #[.null, .int 2, .int 0, .null, .null], vm := .none },
  { cls := 6, slots := #[.null, .int 3, .int 0, .null, .null], vm := .none },
  { cls := 6, slots := #[.null, .int 4, .int 0, .null, .null], vm := .none },
  { cls := 6, slots := #[.null, .int 5, .int 0, .null, .null], vm := .none }]
def classes : Array Class := #[k0, k1, k2, k3, k4, k5, k6, k7, k8, k9, k10, k11, k12, k13, k14]
def interned : List (Array UInt16 × Addr) := []
def slotsUsed : Nat := 37
def theMethod : MethodId := ⟨1, 1⟩
def args0 : Array Value := #[.int 5]
def aboutOver (below : List Frame) : State where
  vm := { classes := classes, interned := interned.toArray }
  heap := heap
  slotsUsed := slotsUsed
  threads := #[{ frames := .invoking theMethod args0 :: below }]
def below0 : List Frame := [.native { method := ⟨0, 0⟩, args := #[] }]
def about1 : State := aboutOver below0
def p0 : Program := .bare "" "" ""
def e0 : Env := launch0.env 0 0 0
theorem w_frames : about1.frames = Frame.invoking theMethod args0 :: below0 := rfl
set_option maxRecDepth 65536 in
theorem w_args : argsFit about1.vm theMethod args0 = true := by decide +kernel
set_option maxRecDepth 65536 in
theorem w_heap : heapFits about1 = true := by decide +kernel
set_option maxRecDepth 65536 in
theorem w_runnable : about1.curStatus? = some .runnable := by decide +kernel
set_option maxRecDepth 65536 in
theorem w_alone : about1.alone = true := by decide +kernel
set_option maxRecDepth 65536 in
theorem w_named : about1.methodNamed? x = some theMethod := by decide +kernel
set_option maxRecDepth 65536 in
theorem w_hears : about1.hears theMethod below0 = true := by decide +kernel
set_option maxRecDepth 65536 in
theorem w_ripe : about1.ripe theMethod args0 below0 = true := by decide +kernel
theorem w_running : about1.status = .running := rfl
set_option maxRecDepth 65536 in
theorem w_room : about1.hasRoom e0.platform room_1 = true :=
  launch0.hasRoom_least _ room_1 (by decide +kernel) (by decide +kernel) (by decide +kernel) (by decide +kernel) (by decide +kernel) (by decide +kernel)
theorem allAtoms_all (ts : List Jvm.Cond) (a : Array Jvm.Value) (st : Jvm.State) : (allAtoms ts).before a st = ts.all (fun c => c.before a st) := by
  induction ts with
  | nil => rfl
  | cons c t ih =>
    show (Jvm.Cond.and c (allAtoms t)).before a st = _
    rw [Jvm.Cond.before_and, ih, List.all_cons]
def words1 : List Jvm.Cond := Jvm.Cond.code x code maxLocals ret :: tables_1
/-- a 'code' word, met by the world's own term for the bytes: nothing is compared byte by byte -/
theorem code_word {y : MethodName} {bytes : ByteArray} {mx : Nat} {rt : Option FieldType} {a : Array Value} {s : State} {m : MethodId} {meth : Method} {c : Code} (h1 : s.methodNamed? y = some m) (h2 : s.vm.method? m = some meth) (h3 : meth.code = some c) (h4 : c.code = bytes)
    (h5 : (c.maxLocals == mx && c.exceptionTable.isEmpty && decide (c.maxStack ≤ mostOperands) && decide (meth.sig.returnType = rt) && !meth.locks && decide (parseMethodDescriptor y.desc = some meth.sig)) = true) : (Jvm.Cond.code y bytes mx rt).before a s = true := by
  simp only [Bool.and_eq_true, beq_iff_eq, Bool.not_eq_true', decide_eq_true_eq] at h5
  obtain ⟨⟨⟨⟨⟨g1, g2⟩, g3⟩, g4⟩, g5⟩, g6⟩ := h5
  simp [Cond.before, Cond.holds, Cond.value, h1, h2, h3, h4, g1, g2, g3, g4, g5, g6]
def isCode : Jvm.Cond → Bool
  | .code _ _ _ _ => true
  | _ => false
theorem all_split {L : List Jvm.Cond} {P : Jvm.Cond → Bool} (h1 : L.all (fun c => isCode c || P c) = true) (h2 : ∀ c ∈ L.filter isCode, P c = true) : L.all P = true := by
  refine List.all_eq_true.mpr fun c hc => ?_
  have h := List.all_eq_true.mp h1 c hc
  rcases Bool.eq_false_or_eq_true (isCode c) with hi | hi
  · exact h2 c (List.mem_filter.mpr ⟨hc, hi⟩)
  · simpa [hi] using h
set_option maxRecDepth 65536 in
theorem w_c0 : (Jvm.Cond.code x code maxLocals ret).before args0 about1 = true := code_word (m := ⟨1, 1⟩) (meth := k1m1) (c := k1c1) (by decide +kernel) rfl rfl rfl (by decide +kernel)
set_option maxRecDepth 65536 in
theorem w_c1 : (Jvm.Cond.code ({ cls := "com/example/planwright/planwright/model/Comparison$Relation", name := "orders", desc := "()Z" } : Jvm.MethodName) prog_27_method_5_code (1 : Nat) (Option.some Jvm.ClassFile.FieldType.boolean)).before args0 about1 = true := code_word (m := ⟨6, 0⟩) (meth := k6m0) (c := k6c0) (by decide +kernel) rfl rfl rfl (by decide +kernel)
def codes1 : List Jvm.Cond := [Jvm.Cond.code x code maxLocals ret, Jvm.Cond.code ({ cls := "com/example/planwright/planwright/model/Comparison$Relation", name := "orders", desc := "()Z" } : Jvm.MethodName) prog_27_method_5_code (1 : Nat) (Option.some Jvm.ClassFile.FieldType.boolean)]
set_option maxRecDepth 65536 in
theorem codes_eq : words1.filter isCode = codes1 := rfl
theorem w_codes : ∀ c ∈ words1.filter isCode, c.before args0 about1 = true := by
  rw [codes_eq]
  intro c hc
  simp only [codes1, List.mem_cons, List.not_mem_nil, or_false] at hc
  rcases hc with rfl | rfl
  · exact w_c0
  · exact w_c1
set_option maxRecDepth 65536 in
theorem w_t1 : (words1.take 24).all (fun c => isCode c || c.before args0 about1) = true := by decide +kernel
set_option maxRecDepth 65536 in
theorem w_t2 : (words1.drop 24).all (fun c => isCode c || c.before args0 about1) = true := by decide +kernel
theorem w_tables : (allAtoms (Jvm.Cond.code x code maxLocals ret :: tables_1)).before args0 about1 = true := by
  rw [allAtoms_all]
  show words1.all (fun c => c.before args0 about1) = true
  refine all_split ?_ w_codes
  rw [← List.take_append_drop 24 words1, List.all_append, w_t1, w_t2]
  rfl
set_option maxRecDepth 65536 in
theorem w_case : (Jvm.Cond.and given_1 narrow_1).before args0 about1 = true := by decide +kernel
theorem w_applies : (headSpec (Jvm.Cond.code x code maxLocals ret :: tables_1) room_1).applies x e0.platform about1 = true :=
  (Spec.applies_iff w_frames).mpr ⟨w_running, w_runnable, w_alone, w_named, w_hears, w_ripe, w_room, w_tables⟩
theorem atStart : AtStart classFile x code maxLocals ret World_1 tables_1 room_1 Calls_1 rest_1 Pre_1 launch0 p0 e0 about1 theMethod args0 below0 :=
  ⟨lists_1, trivial, launch0.admits_env _ _ _, launch0.least_env, fairChoices_fair.cas, fairChoices_fair.clock, w_frames, w_args, w_heap, w_applies, trivial, trivial, w_case⟩
end start1
theorem witness_1 : WitnessClaimed_1 := ⟨start1.p0, start1.e0, start1.about1, start1.theMethod, start1.args0, start1.below0, start1.atStart⟩
end Jvm.Pilot.@@N@@
