import JvmDerived
import JvmDerived.Pilot.@@N@@Statement
import JvmDerived.Pilot.@@N@@Code
set_option linter.unusedVariables false
set_option linter.unusedSimpArgs false
namespace Jvm.Pilot.@@N@@
open Jvm Jvm.ClassFile Sem Op Lib Jvm.Free Jvm.Stand Jvm.LawKit Jvm.RoadKit Bundle Jvm.Pilot.@@N@@.Jvm.D
/-! what is left of a run: it comes to its end, and there Q holds -/
def oG (p : Program) (e : Env) (below : List Frame) (s : State) (Q : Option Value → Heap → List Loc → Prop) (rc rs : Nat) (S : State) : Prop :=
  ∃ s₂ o, Steps p.tables e below S s₂ ∧ s₂.status = .running ∧ Ended s₂ below o ∧ ∃ v L, o = .returned v ∧ Q v s₂.heap L ∧ FrameEnd s o s₂ L rc rs
theorem oS {p : Program} {e : Env} {below : List Frame} {s : State} {Q : Option Value → Heap → List Loc → Prop} {rc rs : Nat} {S S' : State} (k : ∀ t, Steps p.tables e below S' t → Steps p.tables e below S t) (g : oG p e below s Q rc rs S') : oG p e below s Q rc rs S := by
  obtain ⟨s₂, o, h1, h2⟩ := g
  exact ⟨s₂, o, k _ h1, h2⟩
theorem own_ret {p : Program} {l : Launch} {e : Env} {R : Room} {s : State} {m : MethodId} {args : Array Value} {below : List Frame} {meth : Method} {c : Code} {T : State} {locs : List Loc} {cells slots : Nat} {Q : Option Value → Heap → List Loc → Prop} {rc rs : Nat} {S : State} {v : Option Value} (X : Stand p l e R s m args below meth c T locs cells slots) (hv : meth.sig.returnType = none → v = none) (hlocks : meth.locks = false)
    (st : ∀ fs, (∀ (f : JFrame) (acts : List Action), f.method = m → f.locked = none → f.entered = [] → (doReturn e (T.setTop f) acts v).1 = T.setFrames fs) → Steps p.tables e below S (T.setFrames fs)) (q : Q v T.heap locs) (hc : cells ≤ rc) (hs : slots ≤ rs) : oG p e below s Q rc rs S := by
  obtain ⟨fs, hr, hrun, hended, hW, hsame⟩ := X.leave hv hlocks
  exact ⟨_, _, st fs hr, hrun, hended, _, _, rfl, q, ⟨_, rfl⟩, hW, hsame.mono hc hs⟩
theorem oW {a0 : Array Value} {Z : State} (hw : ∀ d ∈ tables_1, d.before a0 Z = true) (i : Nat) {d : Jvm.Cond} (h : tables_1[i]? = some d) : d.before a0 Z = true := hw _ (List.mem_of_getElem? h)
theorem own_eqv {args : Array Value} {s : State} {a b : Term} {v : Value} (h : (Jvm.Cond.eq a b).value args s none s [] = some true) (hb : b.eval args s none [] s = some v) : a.eval args s none [] s = some v := by
  obtain ⟨x, y, ha, hb', -, -⟩ := cmp_v (Or.inl h)
  cases hb.symm.trans hb'
  rw [ha]
  cases x <;> cases v <;> simp [Cond.value, ha, hb] at h ⊢ <;> exact h
theorem own_len {args : Array Value} {s : State} {t : Term} {a : Addr} {cl : Cell} {ty : FieldType} {z : Int32} (h : (Term.length t).eval args s none [] s = some (.int z)) (ht : t.eval args s none [] s = some (.ref a)) (A : Arr s s.heap a cl ty) : cl.slots.size < 2 ^ 31 ∧ cl.slots.size.toInt32 = z := by
  have hA := A.fin (Vm.Alike.refl _)
  obtain ⟨a', cell, h1, h2, h3⟩ := Term.length_spec h
  cases ht.symm.trans h1
  cases hA.symm.trans h2
  refine ⟨?_, (Value.int.inj h3).symm⟩
  simp only [Term.eval, ht, hA, Option.bind_eq_bind, Option.bind_some] at h
  split at h
  · assumption
  · cases h
theorem own_sz {n : Nat} {z : Int32} (h1 : n < 2 ^ 31) (h2 : n.toInt32 = z) : n = z.toNatClampNeg := by
  rw [← h2]; simp only [Int32.toNatClampNeg, len_toInt h1]; rfl
theorem own_box {args : Array Value} {s : State} {t : Term} {a : Addr} {c : Cell} {K : String} {G : Jvm.Cond} (et : ∀ idx, t.eval args s none idx s = some (.ref a)) (A : Arr s s.heap a c (.object K)) (h : (Jvm.Cond.all t (.and (.exactly (.elem t (.index 0)) K) G)).value args s none s [] = some true) :
    ∀ j : Int32, ¬ (j < 0 ∨ c.slots.size ≤ j.toNatClampNeg) → ∃ b : Addr, c.slots[j.toNatClampNeg]? = some (.ref b) ∧ Exa s s.heap b K := fun j hj => by
  have nn : ¬ j < 0 := fun x => hj (Or.inl x)
  obtain ⟨u1, -⟩ := and_e (Cond.all_elim (et []) (A.fin (Vm.Alike.refl _)) h j.toNatClampNeg (Nat.lt_of_not_le fun x => hj (Or.inr x)))
  obtain ⟨b, eb⟩ := exa_v u1
  exact ⟨b, (elem_f (et _) (idx_at nn) (A.fin (Vm.Alike.refl _)) nn).symm.trans eb, exa_at eb u1⟩
theorem own_neI {Z : State} {h : Heap} {a b : Addr} {C n d : String} {x y : Int32} (F : Fld Z h a C n d (.int x)) (G : Fld Z h b C n d (.int y)) (hn : x ≠ y) : ¬ a = b := fun e => by
  subst e
  obtain ⟨c1, cf1, k1, i1, f1, a1, a2, -, -, -, -, a7⟩ := F
  obtain ⟨c2, cf2, k2, i2, f2, b1, b2, -, -, -, -, b7⟩ := G
  cases a1.symm.trans b1
  cases a2.symm.trans b2
  cases a7.symm.trans b7
  exact hn rfl
theorem own_neJ {Z : State} {h : Heap} {a b : Addr} {C n d : String} {x y : Int64} (F : Fld Z h a C n d (.long x)) (G : Fld Z h b C n d (.long y)) (hn : x ≠ y) : ¬ a = b := fun e => by
  subst e
  obtain ⟨c1, cf1, k1, i1, f1, a1, a2, -, -, -, -, a7⟩ := F
  obtain ⟨c2, cf2, k2, i2, f2, b1, b2, -, -, -, -, b7⟩ := G
  cases a1.symm.trans b1
  cases a2.symm.trans b2
  cases a7.symm.trans b7
  exact hn rfl
theorem own_z0 {s : Int32} (h : s = (0 : Int32)) : (s &&& ((1 : Int32) <<< ((0 : Int32) &&& 31))) = (0 : Int32) := by subst h; decide +kernel
theorem own_z1 {s : Int32} (h : s = (0 : Int32)) : (s &&& ((1 : Int32) <<< ((1 : Int32) &&& 31))) = (0 : Int32) := by subst h; decide +kernel
theorem own_z2 {s : Int32} (h : s = (0 : Int32)) : (s &&& ((1 : Int32) <<< ((2 : Int32) &&& 31))) = (0 : Int32) := by subst h; decide +kernel
theorem own_z3 {s : Int32} (h : s = (0 : Int32)) : (s &&& ((1 : Int32) <<< ((3 : Int32) &&& 31))) = (0 : Int32) := by subst h; decide +kernel
theorem own_z4 {s : Int32} (h : s = (0 : Int32)) : (s &&& ((1 : Int32) <<< ((4 : Int32) &&& 31))) = (0 : Int32) := by subst h; decide +kernel
theorem own_z5 {s : Int32} (h : s = (0 : Int32)) : (s &&& ((1 : Int32) <<< ((5 : Int32) &&& 31))) = (0 : Int32) := by subst h; decide +kernel
theorem own_bits (p1 p2 : Int32) (h0' : ((p2 &&& (p1 &&& (63 : Int32))) &&& ((1 : Int32) <<< ((0 : Int32) &&& 31))) = (0 : Int32)) (h1' : ((p2 &&& (p1 &&& (63 : Int32))) &&& ((1 : Int32) <<< ((1 : Int32) &&& 31))) = (0 : Int32)) (h2' : ((p2 &&& (p1 &&& (63 : Int32))) &&& ((1 : Int32) <<< ((2 : Int32) &&& 31))) = (0 : Int32)) (h3' : ((p2 &&& (p1 &&& (63 : Int32))) &&& ((1 : Int32) <<< ((3 : Int32) &&& 31))) = (0 : Int32)) (h4' : ((p2 &&& (p1 &&& (63 : Int32))) &&& ((1 : Int32) <<< ((4 : Int32) &&& 31))) = (0 : Int32)) (h5' : ((p2 &&& (p1 &&& (63 : Int32))) &&& ((1 : Int32) <<< ((5 : Int32) &&& 31))) = (0 : Int32)) : (p2 &&& (p1 &&& (63 : Int32))) = (0 : Int32) := by
  have h0 : (p1 &&& (63 : Int32)).toInt = p1.toInt % 64 := c_mask p1 63 6 (by decide) (by decide)
  have h1 := c_and p2 (p1 &&& (63 : Int32)) (by omega)
  generalize (p2 &&& (p1 &&& (63 : Int32))) = s at *
  obtain ⟨n, hn⟩ : ∃ n : Nat, s.toInt = n := ⟨s.toInt.toNat, by omega⟩
  have hs : s = Int32.ofNat n := by rw [← Int32.toInt_inj, hn, Int32.toInt_ofNat_small (by omega)]
  have hl : n < 64 := by omega
  have key : ∀ i : Fin 64, ((Int32.ofNat i.1 &&& ((1 : Int32) <<< ((0 : Int32) &&& 31))) = (0 : Int32)) → ((Int32.ofNat i.1 &&& ((1 : Int32) <<< ((1 : Int32) &&& 31))) = (0 : Int32)) → ((Int32.ofNat i.1 &&& ((1 : Int32) <<< ((2 : Int32) &&& 31))) = (0 : Int32)) → ((Int32.ofNat i.1 &&& ((1 : Int32) <<< ((3 : Int32) &&& 31))) = (0 : Int32)) → ((Int32.ofNat i.1 &&& ((1 : Int32) <<< ((4 : Int32) &&& 31))) = (0 : Int32)) → ((Int32.ofNat i.1 &&& ((1 : Int32) <<< ((5 : Int32) &&& 31))) = (0 : Int32)) → Int32.ofNat i.1 = (0 : Int32) := by decide +kernel
  subst hs
  exact key ⟨n, hl⟩ h0' h1' h2' h3' h4' h5'
def own_World (Z : State) (w : Nat → Addr) : Prop := Sta Z Z.heap "com/example/sixfold/sixfold/rules/Kind" "KING" "Lcom/example/sixfold/sixfold/rules/Kind;" (.ref (w 0)) ∧ Exa Z Z.heap (w 0) "com/example/sixfold/sixfold/rules/Kind" ∧ Sta Z Z.heap "com/example/sixfold/sixfold/rules/Kind" "QUEEN" "Lcom/example/sixfold/sixfold/rules/Kind;" (.ref (w 1)) ∧ Exa Z Z.heap (w 1) "com/example/sixfold/sixfold/rules/Kind" ∧ Sta Z Z.heap "com/example/sixfold/sixfold/rules/Kind" "ROOK" "Lcom/example/sixfold/sixfold/rules/Kind;" (.ref (w 2)) ∧ Exa Z Z.heap (w 2) "com/example/sixfold/sixfold/rules/Kind" ∧ Sta Z Z.heap "com/example/sixfold/sixfold/rules/Kind" "BISHOP" "Lcom/example/sixfold/sixfold/rules/Kind;" (.ref (w 3)) ∧ Exa Z Z.heap (w 3) "com/example/sixfold/sixfold/rules/Kind" ∧ Sta Z Z.heap "com/example/sixfold/sixfold/rules/Kind" "KNIGHT" "Lcom/example/sixfold/sixfold/rules/Kind;" (.ref (w 4)) ∧ Exa Z Z.heap (w 4) "com/example/sixfold/sixfold/rules/Kind" ∧ Sta Z Z.heap "com/example/sixfold/sixfold/rules/Kind" "PAWN" "Lcom/example/sixfold/sixfold/rules/Kind;" (.ref (w 5)) ∧ Exa Z Z.heap (w 5) "com/example/sixfold/sixfold/rules/Kind" ∧ Fld Z Z.heap (w 0) "java/lang/Enum" "ordinal" "I" (.int 0) ∧ Fld Z Z.heap (w 1) "java/lang/Enum" "ordinal" "I" (.int 1) ∧ Fld Z Z.heap (w 2) "java/lang/Enum" "ordinal" "I" (.int 2) ∧ Fld Z Z.heap (w 3) "java/lang/Enum" "ordinal" "I" (.int 3) ∧ Fld Z Z.heap (w 4) "java/lang/Enum" "ordinal" "I" (.int 4) ∧ Fld Z Z.heap (w 5) "java/lang/Enum" "ordinal" "I" (.int 5)
theorem own_world {args : Array Value} {s : State} (hw : ∀ d ∈ tables_1, d.before args s = true) (hfit : Fit s) (hn : narrow_1.value args s none s [] = some true) : ∃ w : Nat → Addr, own_World s w := by
  obtain ⟨h0, q1⟩ := and_e hn
  obtain ⟨h1, q3⟩ := and_e q1
  obtain ⟨h2, q5⟩ := and_e q3
  obtain ⟨h3, q7⟩ := and_e q5
  obtain ⟨h4, q9⟩ := and_e q7
  obtain ⟨h5, q11⟩ := and_e q9
  obtain ⟨h6, q13⟩ := and_e q11
  obtain ⟨h7, q15⟩ := and_e q13
  obtain ⟨h8, q17⟩ := and_e q15
  obtain ⟨h9, q19⟩ := and_e q17
  obtain ⟨h10, h11⟩ := and_e q19
  obtain ⟨c0, e0⟩ := exa_v h0
  obtain ⟨c1, e1⟩ := exa_v h2
  obtain ⟨c2, e2⟩ := exa_v h4
  obtain ⟨c3, e3⟩ := exa_v h6
  obtain ⟨c4, e4⟩ := exa_v h8
  obtain ⟨c5, e5⟩ := exa_v h10
  exact ⟨fun n => ([c0, c1, c2, c3, c4, c5] : List Nat).getD n 0, Sta.start e0 (Or.inr ⟨(oW hw 27 rfl), (oW hw 28 rfl)⟩), Exa.start e0 h0, Sta.start e1 (Or.inr ⟨(oW hw 27 rfl), (oW hw 44 rfl)⟩), Exa.start e1 h2, Sta.start e2 (Or.inr ⟨(oW hw 27 rfl), (oW hw 46 rfl)⟩), Exa.start e2 h4, Sta.start e3 (Or.inr ⟨(oW hw 27 rfl), (oW hw 48 rfl)⟩), Exa.start e3 h6, Sta.start e4 (Or.inr ⟨(oW hw 27 rfl), (oW hw 50 rfl)⟩), Exa.start e4 h8, Sta.start e5 (Or.inr ⟨(oW hw 27 rfl), (oW hw 52 rfl)⟩), Exa.start e5 h10, Fld.start ((fld_at e0).symm.trans (own_eqv h1 rfl)), Fld.start ((fld_at e1).symm.trans (own_eqv h3 rfl)), Fld.start ((fld_at e2).symm.trans (own_eqv h5 rfl)), Fld.start ((fld_at e3).symm.trans (own_eqv h7 rfl)), Fld.start ((fld_at e4).symm.trans (own_eqv h9 rfl)), Fld.start ((fld_at e5).symm.trans (own_eqv h11 rfl))⟩
theorem wS0 {Z : State} {w : Nat → Addr} (W : own_World Z w) : Sta Z Z.heap "com/example/sixfold/sixfold/rules/Kind" "KING" "Lcom/example/sixfold/sixfold/rules/Kind;" (.ref (w 0)) := W.1
theorem wE0 {Z : State} {w : Nat → Addr} (W : own_World Z w) : Exa Z Z.heap (w 0) "com/example/sixfold/sixfold/rules/Kind" := W.2.1
theorem wS1 {Z : State} {w : Nat → Addr} (W : own_World Z w) : Sta Z Z.heap "com/example/sixfold/sixfold/rules/Kind" "QUEEN" "Lcom/example/sixfold/sixfold/rules/Kind;" (.ref (w 1)) := W.2.2.1
theorem wE1 {Z : State} {w : Nat → Addr} (W : own_World Z w) : Exa Z Z.heap (w 1) "com/example/sixfold/sixfold/rules/Kind" := W.2.2.2.1
theorem wS2 {Z : State} {w : Nat → Addr} (W : own_World Z w) : Sta Z Z.heap "com/example/sixfold/sixfold/rules/Kind" "ROOK" "Lcom/example/sixfold/sixfold/rules/Kind;" (.ref (w 2)) := W.2.2.2.2.1
theorem wE2 {Z : State} {w : Nat → Addr} (W : own_World Z w) : Exa Z Z.heap (w 2) "com/example/sixfold/sixfold/rules/Kind" := W.2.2.2.2.2.1
theorem wS3 {Z : State} {w : Nat → Addr} (W : own_World Z w) : Sta Z Z.heap "com/example/sixfold/sixfold/rules/Kind" "BISHOP" "Lcom/example/sixfold/sixfold/rules/Kind;" (.ref (w 3)) := W.2.2.2.2.2.2.1
theorem wE3 {Z : State} {w : Nat → Addr} (W : own_World Z w) : Exa Z Z.heap (w 3) "com/example/sixfold/sixfold/rules/Kind" := W.2.2.2.2.2.2.2.1
theorem wS4 {Z : State} {w : Nat → Addr} (W : own_World Z w) : Sta Z Z.heap "com/example/sixfold/sixfold/rules/Kind" "KNIGHT" "Lcom/example/sixfold/sixfold/rules/Kind;" (.ref (w 4)) := W.2.2.2.2.2.2.2.2.1
theorem wE4 {Z : State} {w : Nat → Addr} (W : own_World Z w) : Exa Z Z.heap (w 4) "com/example/sixfold/sixfold/rules/Kind" := W.2.2.2.2.2.2.2.2.2.1
theorem wS5 {Z : State} {w : Nat → Addr} (W : own_World Z w) : Sta Z Z.heap "com/example/sixfold/sixfold/rules/Kind" "PAWN" "Lcom/example/sixfold/sixfold/rules/Kind;" (.ref (w 5)) := W.2.2.2.2.2.2.2.2.2.2.1
theorem wE5 {Z : State} {w : Nat → Addr} (W : own_World Z w) : Exa Z Z.heap (w 5) "com/example/sixfold/sixfold/rules/Kind" := W.2.2.2.2.2.2.2.2.2.2.2.1
theorem wF0_ordinal {Z : State} {w : Nat → Addr} (W : own_World Z w) : Fld Z Z.heap (w 0) "java/lang/Enum" "ordinal" "I" (.int 0) := W.2.2.2.2.2.2.2.2.2.2.2.2.1
theorem wF1_ordinal {Z : State} {w : Nat → Addr} (W : own_World Z w) : Fld Z Z.heap (w 1) "java/lang/Enum" "ordinal" "I" (.int 1) := W.2.2.2.2.2.2.2.2.2.2.2.2.2.1
theorem wF2_ordinal {Z : State} {w : Nat → Addr} (W : own_World Z w) : Fld Z Z.heap (w 2) "java/lang/Enum" "ordinal" "I" (.int 2) := W.2.2.2.2.2.2.2.2.2.2.2.2.2.2.1
theorem wF3_ordinal {Z : State} {w : Nat → Addr} (W : own_World Z w) : Fld Z Z.heap (w 3) "java/lang/Enum" "ordinal" "I" (.int 3) := W.2.2.2.2.2.2.2.2.2.2.2.2.2.2.2.1
theorem wF4_ordinal {Z : State} {w : Nat → Addr} (W : own_World Z w) : Fld Z Z.heap (w 4) "java/lang/Enum" "ordinal" "I" (.int 4) := W.2.2.2.2.2.2.2.2.2.2.2.2.2.2.2.2.1
theorem wF5_ordinal {Z : State} {w : Nat → Addr} (W : own_World Z w) : Fld Z Z.heap (w 5) "java/lang/Enum" "ordinal" "I" (.int 5) := W.2.2.2.2.2.2.2.2.2.2.2.2.2.2.2.2.2
theorem d2_0 : decode jdk_30_method_1_code 0 = .ok (.aload_n 0, 1) := by decide +kernel
theorem d2_1 : decode jdk_30_method_1_code 1 = .ok (.invokespecial 1, 3) := by decide +kernel
theorem d2_4 : decode jdk_30_method_1_code 4 = .ok (.return_, 1) := by decide +kernel
abbrev mY0 : MethodName := (⟨"java/lang/Record", "<init>", "()V"⟩ : MethodName)
theorem ef_2_r (m : MethodId) (x0 : Addr) : entryFrame m #[(.ref x0)] 1 = mkF m 0 #[.val (.ref x0)] [] := by first | (simp [entryFrame, mkF, argsToLocals, Value.category]; done) | rfl
theorem pn_0 : plainName "java/lang/Record" = true := by first | (simp [plainName, overriddenIn]; done) | decide +kernel
def Q_rec (Z : State) (a1 : Addr) (h0 : Heap) (n0 : Nat) (v : Option Value) (h : Heap) (L : List Loc) : Prop := v = none ∧ Fr n0 L ∧ h = h0
set_option maxRecDepth 65536 in
set_option maxHeartbeats 40000000 in
theorem rm_rec (l : Launch) (Z : State) (a0 : Array Value) (hw : ∀ d ∈ tables_1, d.before a0 Z = true) (ws : List Jvm.Cond) (a1 : Addr) (h0 : Heap) (n0 : Nat) (O0 : Old Z n0 h0) :
    MetFree l mY0 (head1 (Jvm.Cond.code mY0 jdk_30_method_1_code 1 none :: ws) ({ frames := 1, cells := 0, slots := 0, locals := 12 } : Room)) (fun a U => a = #[(.ref a1)] ∧ Z.Warmed39 U.vm ∧ U.heap = h0) (fun _ _ _ _ _ => True) (fun _ U o U' => ∃ v L, o = .returned v ∧ Q_rec Z a1 h0 n0 v U'.heap L ∧ FrameEnd U o U' L ({ frames := 1, cells := 0, slots := 0, locals := 12 } : Room).cells ({ frames := 1, cells := 0, slots := 0, locals := 12 } : Room).slots) := by
  refine MetFree.of_bodySF (plainFor_of_name pn_0) hisR ?_
  intro p e s m args below meth c s₁ Bd hml0 hP hK
  obtain ⟨rfl, hZ, hh⟩ := hP
  have hx := Bd.exec
  have hby := Bd.bytes
  have hml : c.maxLocals = 1 := hml0
  have hown : s.vm.findClass "java/lang/Record" = some m.cls := findClass_of_methodNamed Bd.named
  have hnm := (name_of_methodNamed Bd.named Bd.method).1
  have X0 : Stand p l e ({ frames := 1, cells := 0, slots := 0, locals := 12 } : Room) s m #[(.ref a1)] below meth c s₁ [] 0 0 := Stand.of_body Bd
  have e0 : s₁.heap = h0 := by rw [← hh, Bd.state]; rfl
  have N0 := Fr.nil n0
  show oG p e below s (Q_rec Z a1 h0 n0) ({ frames := 1, cells := 0, slots := 0, locals := 12 } : Room).cells ({ frames := 1, cells := 0, slots := 0, locals := 12 } : Room).slots _
  refine oS (fun t k => castTop (ef_2_r m a1) k) ?_
  show oG _ _ _ _ _ _ _ (s₁.setTop (mkF m 0 #[.val (.ref a1)] []))
  refine oS (fun t k => XS.aloadN X0.here hx rfl (hb hby d2_0) rfl rfl k) ?_
  obtain ⟨T1, X1, e1, st1⟩ := initO X0 hx hZ hown (oW hw 12 rfl) (oW hw 13 rfl) (oW hw 14 rfl) e0 (g := (mkF m 1 #[.val (.ref a1)] [(.ref a1)])) rfl (by rw [hml]; rfl) rfl (hb hby d2_1) (by decide) (W := 0) (by show 2 * 0 + _ ≤ _; exact Nat.le_of_eq rfl) (by decide)
  refine oS (fun t k => st1 t k) ?_
  exact own_ret (v := none) X1 (fun _ => rfl) Bd.notSynchronized (fun fs hr => X1.returnOut hx Bd.returns (hb hby d2_4) hr) (by rw [e1]; exact ⟨rfl, N0, rfl⟩) (by decide) (by decide)
theorem d1_0 : decode prog_8_method_1_code 0 = .ok (.aload_n 0, 1) := by decide +kernel
theorem d1_1 : decode prog_8_method_1_code 1 = .ok (.invokespecial 1, 3) := by decide +kernel
theorem pd_0 : parseMethodDescriptor "()V" = some ⟨[], none⟩ := by decide +kernel
theorem d1_4 : decode prog_8_method_1_code 4 = .ok (.aload_n 0, 1) := by decide +kernel
theorem d1_5 : decode prog_8_method_1_code 5 = .ok (.aload_n 1, 1) := by decide +kernel
theorem d1_6 : decode prog_8_method_1_code 6 = .ok (.putfield 7, 3) := by decide +kernel
theorem d1_9 : decode prog_8_method_1_code 9 = .ok (.aload_n 0, 1) := by decide +kernel
theorem d1_10 : decode prog_8_method_1_code 10 = .ok (.iload_n 2, 1) := by decide +kernel
theorem d1_11 : decode prog_8_method_1_code 11 = .ok (.putfield 13, 3) := by decide +kernel
theorem d1_14 : decode prog_8_method_1_code 14 = .ok (.aload_n 0, 1) := by decide +kernel
theorem d1_15 : decode prog_8_method_1_code 15 = .ok (.iload_n 3, 1) := by decide +kernel
theorem d1_16 : decode prog_8_method_1_code 16 = .ok (.putfield 17, 3) := by decide +kernel
theorem d1_19 : decode prog_8_method_1_code 19 = .ok (.return_, 1) := by decide +kernel
abbrev mY1 : MethodName := (⟨"com/example/sixfold/sixfold/rules/Direction", "<init>", "([III)V"⟩ : MethodName)
theorem ef_1_rrii (m : MethodId) (x0 : Addr) (x1 : Addr) (x2 : Int32) (x3 : Int32) : entryFrame m #[(.ref x0), (.ref x1), (.int x2), (.int x3)] 4 = mkF m 0 #[.val (.ref x0), .val (.ref x1), .val (.int x2), .val (.int x3)] [] := by first | (simp [entryFrame, mkF, argsToLocals, Value.category]; done) | rfl
theorem pn_1 : plainName "com/example/sixfold/sixfold/rules/Direction" = true := by first | (simp [plainName, overriddenIn]; done) | decide +kernel
def Q_init (Z : State) (a1 : Addr) (a2 : Addr) (p3 : Int32) (p4 : Int32) (u_step : Value) (u_kinds : Value) (u_sliders : Value) (w : Nat → Addr) (h0 : Heap) (n0 : Nat) (v : Option Value) (h : Heap) (L : List Loc) : Prop := v = none ∧ Fr n0 L ∧ Keep h0 h [a1] ∧ Exa Z h a1 "com/example/sixfold/sixfold/rules/Direction" ∧ Fld Z h a1 "com/example/sixfold/sixfold/rules/Direction" "step" "[I" (.ref a2) ∧ Fld Z h a1 "com/example/sixfold/sixfold/rules/Direction" "kinds" "I" (.int p3) ∧ Fld Z h a1 "com/example/sixfold/sixfold/rules/Direction" "sliders" "I" (.int p4)
set_option maxRecDepth 65536 in
set_option maxHeartbeats 40000000 in
theorem rm_init (l : Launch) (Z : State) (a0 : Array Value) (hw : ∀ d ∈ tables_1, d.before a0 Z = true) (ws : List Jvm.Cond) (a1 : Addr) (a2 : Addr) (p3 : Int32) (p4 : Int32) (u_step : Value) (u_kinds : Value) (u_sliders : Value) (w : Nat → Addr) (h0 : Heap) (n0 : Nat) (O0 : Old Z n0 h0) (W : own_World Z w) (E_a1 : Exa Z h0 a1 "com/example/sixfold/sixfold/rules/Direction") (g_a1 : n0 ≤ a1) (F_step_a1 : Fld Z h0 a1 "com/example/sixfold/sixfold/rules/Direction" "step" "[I" u_step) (F_kinds_a1 : Fld Z h0 a1 "com/example/sixfold/sixfold/rules/Direction" "kinds" "I" u_kinds) (F_sliders_a1 : Fld Z h0 a1 "com/example/sixfold/sixfold/rules/Direction" "sliders" "I" u_sliders) :
    MetFree l mY1 (head1 (Jvm.Cond.code mY1 prog_8_method_1_code 4 none :: ws) ({ frames := 2, cells := 0, slots := 0, locals := 24 } : Room)) (fun a U => a = #[(.ref a1), (.ref a2), (.int p3), (.int p4)] ∧ Z.Warmed39 U.vm ∧ U.heap = h0) (fun _ _ _ _ _ => True) (fun _ U o U' => ∃ v L, o = .returned v ∧ Q_init Z a1 a2 p3 p4 u_step u_kinds u_sliders w h0 n0 v U'.heap L ∧ FrameEnd U o U' L ({ frames := 2, cells := 0, slots := 0, locals := 24 } : Room).cells ({ frames := 2, cells := 0, slots := 0, locals := 24 } : Room).slots) := by
  refine MetFree.of_bodySF (plainFor_of_name pn_1) hisR ?_
  intro p e s m args below meth c s₁ Bd hml0 hP hK
  obtain ⟨rfl, hZ, hh⟩ := hP
  have hx := Bd.exec
  have hby := Bd.bytes
  have hml : c.maxLocals = 4 := hml0
  have hown : s.vm.findClass "com/example/sixfold/sixfold/rules/Direction" = some m.cls := findClass_of_methodNamed Bd.named
  have hnm := (name_of_methodNamed Bd.named Bd.method).1
  have X0 : Stand p l e ({ frames := 2, cells := 0, slots := 0, locals := 24 } : Room) s m #[(.ref a1), (.ref a2), (.int p3), (.int p4)] below meth c s₁ [] 0 0 := Stand.of_body Bd
  have e0 : s₁.heap = h0 := by rw [← hh, Bd.state]; rfl
  have N0 := Fr.nil n0
  show oG p e below s (Q_init Z a1 a2 p3 p4 u_step u_kinds u_sliders w h0 n0) ({ frames := 2, cells := 0, slots := 0, locals := 24 } : Room).cells ({ frames := 2, cells := 0, slots := 0, locals := 24 } : Room).slots _
  refine oS (fun t k => castTop (ef_1_rrii m a1 a2 p3 p4) k) ?_
  show oG _ _ _ _ _ _ _ (s₁.setTop (mkF m 0 #[.val (.ref a1), .val (.ref a2), .val (.int p3), .val (.int p4)] []))
  refine oS (fun t k => XS.aloadN X0.here hx rfl (hb hby d1_0) rfl rfl k) ?_
  obtain ⟨_, _, ⟨T1, L1, k1, n1⟩, -, X1, ⟨Lc1, hQ1, l1, y1, z1⟩, st1⟩ := X0.specialBack hx (y := mY0) rfl hown (mvT hZ (oW hw 7 rfl)) (mvT hZ (oW hw 8 rfl)) (mvT hZ (oW hw 11 rfl)) (by decide) (backOf (W := 0) (rm_rec l Z a0 hw [] a1  h0 n0 O0  ) hZ (oW hw 11 rfl) (oW hw 10 rfl) (by decide) (by decide)) (g := (mkF m 1 #[.val (.ref a1), .val (.ref a2), .val (.int p3), .val (.int p4)] [(.ref a1)])) rfl (by rw [hml]; rfl) (Steps.refl _) (a := a1) (argsL := []) (rest := []) (lenOf pd_0 rfl) rfl (by show 2 * 0 + _ ≤ _; exact Nat.le_of_eq rfl) (hb hby d1_1) (fun _ _ => ⟨rfl, e0, (by decide : 0 + 0 ≤ _), (by decide : 0 + 0 ≤ _)⟩)
  dsimp only [Pt.U, Pt.locs, Pt.cells, Pt.slots] at X1 l1 y1 z1 st1 hQ1
  subst l1 y1 z1
  obtain ⟨rfl, Nq1, e1⟩ := hQ1
  have N1 := Fr.app N0 Nq1
  refine oS (fun t k => st1.trans k) ?_
  show oG _ _ _ _ _ _ _ (T1.setTop (mkF m 4 #[.val (.ref a1), .val (.ref a2), .val (.int p3), .val (.int p4)] []))
  refine oS (fun t k => XS.aloadN X1.here hx rfl (hb hby d1_4) rfl rfl k) ?_
  refine oS (fun t k => XS.aloadN X1.here hx rfl (hb hby d1_5) rfl rfl k) ?_
  obtain ⟨T2, h2, X2, e2, W2, st2⟩ := putF X1 hx hZ hown (host := "") (Or.inl (oW hw 15 rfl)) Via.refl e1 F_step_a1 E_a1 (Or.inr ⟨(oW hw 16 rfl), rfl, hnm⟩) (oW hw 1 rfl) (ty := (.array .int)) (by decide) rfl rfl (g := (mkF m 6 #[.val (.ref a1), .val (.ref a2), .val (.int p3), .val (.int p4)] [(.ref a2), (.ref a1)])) rfl rfl (hb hby d1_6)
  have O2 := O0.wr W2 g_a1
  have N2 := Fr.snoc X2 N1 g_a1
  have Kp2 : Keep h0 h2 [a1] := (Keep.refl h0 [a1]).wr W2 (Or.inl (List.mem_of_getElem? (i := 0) rfl))
  have Fw2 := F_step_a1.same W2
  refine oS (fun t k => st2 t k) ?_
  refine oS (fun t k => XS.aloadN X2.here hx rfl (hb hby d1_9) rfl rfl k) ?_
  refine oS (fun t k => XS.iloadN X2.here hx rfl (hb hby d1_10) rfl k) ?_
  obtain ⟨T3, h3, X3, e3, W3, st3⟩ := putF X2 hx hZ hown (host := "") (Or.inl (oW hw 17 rfl)) Via.refl e2 (F_kinds_a1.other W2 (Or.inr (slot_ne (Or.inr (oW hw 18 rfl)) (Or.inr (oW hw 16 rfl)) (by decide) (t := .int) (t' := (.array .int)) (by decide) (by decide)))) (E_a1.wr W2) (Or.inr ⟨(oW hw 18 rfl), rfl, hnm⟩) (oW hw 1 rfl) (ty := .int) (by decide) rfl rfl (g := (mkF m 11 #[.val (.ref a1), .val (.ref a2), .val (.int p3), .val (.int p4)] [(.int p3), (.ref a1)])) rfl rfl (hb hby d1_11)
  have O3 := O2.wr W3 g_a1
  have N3 := Fr.snoc X3 N2 g_a1
  have Kp3 : Keep h0 h3 [a1] := Kp2.wr W3 (Or.inl (List.mem_of_getElem? (i := 0) rfl))
  have Fw3 := (F_kinds_a1.other W2 (Or.inr (slot_ne (Or.inr (oW hw 18 rfl)) (Or.inr (oW hw 16 rfl)) (by decide) (t := .int) (t' := (.array .int)) (by decide) (by decide)))).same W3
  refine oS (fun t k => st3 t k) ?_
  refine oS (fun t k => XS.aloadN X3.here hx rfl (hb hby d1_14) rfl rfl k) ?_
  refine oS (fun t k => XS.iloadN X3.here hx rfl (hb hby d1_15) rfl k) ?_
  obtain ⟨T4, h4, X4, e4, W4, st4⟩ := putF X3 hx hZ hown (host := "") (Or.inl (oW hw 19 rfl)) Via.refl e3 ((F_sliders_a1.other W2 (Or.inr (slot_ne (Or.inr (oW hw 20 rfl)) (Or.inr (oW hw 16 rfl)) (by decide) (t := .int) (t' := (.array .int)) (by decide) (by decide)))).other W3 (Or.inr (slot_ne (Or.inr (oW hw 20 rfl)) (Or.inr (oW hw 18 rfl)) (by decide) (t := .int) (t' := .int) (by decide) (by decide)))) ((E_a1.wr W2).wr W3) (Or.inr ⟨(oW hw 20 rfl), rfl, hnm⟩) (oW hw 1 rfl) (ty := .int) (by decide) rfl rfl (g := (mkF m 16 #[.val (.ref a1), .val (.ref a2), .val (.int p3), .val (.int p4)] [(.int p4), (.ref a1)])) rfl rfl (hb hby d1_16)
  have O4 := O3.wr W4 g_a1
  have N4 := Fr.snoc X4 N3 g_a1
  have Kp4 : Keep h0 h4 [a1] := Kp3.wr W4 (Or.inl (List.mem_of_getElem? (i := 0) rfl))
  have Fw4 := ((F_sliders_a1.other W2 (Or.inr (slot_ne (Or.inr (oW hw 20 rfl)) (Or.inr (oW hw 16 rfl)) (by decide) (t := .int) (t' := (.array .int)) (by decide) (by decide)))).other W3 (Or.inr (slot_ne (Or.inr (oW hw 20 rfl)) (Or.inr (oW hw 18 rfl)) (by decide) (t := .int) (t' := .int) (by decide) (by decide)))).same W4
  refine oS (fun t k => st4 t k) ?_
  exact own_ret (v := none) X4 (fun _ => rfl) Bd.notSynchronized (fun fs hr => X4.returnOut hx Bd.returns (hb hby d1_19) hr) (by rw [e4]; exact ⟨rfl, N4, Kp4, (((E_a1.wr W2).wr W3).wr W4), ((Fw2.other W3 (Or.inr (slot_ne (Or.inr (oW hw 16 rfl)) (Or.inr (oW hw 18 rfl)) (by decide) (t := (.array .int)) (t' := .int) (by decide) (by decide)))).other W4 (Or.inr (slot_ne (Or.inr (oW hw 16 rfl)) (Or.inr (oW hw 20 rfl)) (by decide) (t := (.array .int)) (t' := .int) (by decide) (by decide)))), (Fw3.other W4 (Or.inr (slot_ne (Or.inr (oW hw 18 rfl)) (Or.inr (oW hw 20 rfl)) (by decide) (t := .int) (t' := .int) (by decide) (by decide)))), Fw4⟩) (by decide) (by decide)
theorem d4_0 : decode prog_8_method_2_code 0 = .ok (.aload_n 0, 1) := by decide +kernel
theorem d4_1 : decode prog_8_method_2_code 1 = .ok (.getfield 17, 3) := by decide +kernel
theorem d4_4 : decode prog_8_method_2_code 4 = .ok (.ifCond .eq 7, 3) := by decide +kernel
theorem d4_11 : decode prog_8_method_2_code 11 = .ok (.iconst 0, 1) := by decide +kernel
theorem d4_12 : decode prog_8_method_2_code 12 = .ok (.ireturn, 1) := by decide +kernel
abbrev mY2 : MethodName := (⟨"com/example/sixfold/sixfold/rules/Direction", "isSlidAlong", "()Z"⟩ : MethodName)
theorem ef_4_r (m : MethodId) (x0 : Addr) : entryFrame m #[(.ref x0)] 1 = mkF m 0 #[.val (.ref x0)] [] := by first | (simp [entryFrame, mkF, argsToLocals, Value.category]; done) | rfl
def Q_slid_1 (Z : State) (a1 : Addr) (p3 : Int32) (h0 : Heap) (n0 : Nat) (v : Option Value) (h : Heap) (L : List Loc) : Prop := v = some (.int 0) ∧ Fr n0 L ∧ h = h0
set_option maxRecDepth 65536 in
set_option maxHeartbeats 40000000 in
theorem rm_slid_1 (l : Launch) (Z : State) (a0 : Array Value) (hw : ∀ d ∈ tables_1, d.before a0 Z = true) (ws : List Jvm.Cond) (a1 : Addr) (p3 : Int32) (h0 : Heap) (n0 : Nat) (O0 : Old Z n0 h0) (F_sl : Fld Z h0 a1 "com/example/sixfold/sixfold/rules/Direction" "sliders" "I" (.int p3)) (hp : p3 = (0 : Int32)) :
    MetFree l mY2 (head1 (Jvm.Cond.code mY2 prog_8_method_2_code 1 (some .boolean) :: ws) ({ frames := 0, cells := 0, slots := 0, locals := 0 } : Room)) (fun a U => a = #[(.ref a1)] ∧ Z.Warmed39 U.vm ∧ U.heap = h0) (fun _ _ _ _ _ => True) (fun _ U o U' => ∃ v L, o = .returned v ∧ Q_slid_1 Z a1 p3 h0 n0 v U'.heap L ∧ FrameEnd U o U' L ({ frames := 0, cells := 0, slots := 0, locals := 0 } : Room).cells ({ frames := 0, cells := 0, slots := 0, locals := 0 } : Room).slots) := by
  refine MetFree.of_bodySF (plainFor_of_name pn_1) hisR ?_
  intro p e s m args below meth c s₁ Bd hml0 hP hK
  obtain ⟨rfl, hZ, hh⟩ := hP
  have hx := Bd.exec
  have hby := Bd.bytes
  have hml : c.maxLocals = 1 := hml0
  have hown : s.vm.findClass "com/example/sixfold/sixfold/rules/Direction" = some m.cls := findClass_of_methodNamed Bd.named
  have hnm := (name_of_methodNamed Bd.named Bd.method).1
  have X0 : Stand p l e ({ frames := 0, cells := 0, slots := 0, locals := 0 } : Room) s m #[(.ref a1)] below meth c s₁ [] 0 0 := Stand.of_body Bd
  have e0 : s₁.heap = h0 := by rw [← hh, Bd.state]; rfl
  have N0 := Fr.nil n0
  show oG p e below s (Q_slid_1 Z a1 p3 h0 n0) ({ frames := 0, cells := 0, slots := 0, locals := 0 } : Room).cells ({ frames := 0, cells := 0, slots := 0, locals := 0 } : Room).slots _
  refine oS (fun t k => castTop (ef_4_r m a1) k) ?_
  show oG _ _ _ _ _ _ _ (s₁.setTop (mkF m 0 #[.val (.ref a1)] []))
  refine oS (fun t k => XS.aloadN X0.here hx rfl (hb hby d4_0) rfl rfl k) ?_
  obtain ⟨T1, X1, e1, st1⟩ := getF X0 hx hZ hown (host := "") (Or.inl (oW hw 19 rfl)) Via.refl e0 F_sl (g := (mkF m 1 #[.val (.ref a1)] [(.ref a1)])) rfl rfl (hb hby d4_1)
  refine oS (fun t k => st1 t k) ?_
  refine oS (fun t k => XS.ifYes X1.here hx rfl (pc0 := 4) (pc' := 11) rfl (hb hby d4_4) rfl ((if0 _ _).trans (teq hp).1) (by decide) (by decide) k) ?_
  refine oS (fun t k => XS.iconst X1.here hx rfl (hb hby d4_11) k) ?_
  exact own_ret (v := some (.int 0)) X1 (fun h => by rw [Bd.returns] at h; cases h) Bd.notSynchronized (fun fs hr => retN X1 hx (t := .boolean) Bd.returns (by simp) (hb hby d4_12) hr) (by rw [e1]; exact ⟨rfl, N0, rfl⟩) (by decide) (by decide)
theorem d4_7 : decode prog_8_method_2_code 7 = .ok (.iconst 1, 1) := by decide +kernel
theorem d4_8 : decode prog_8_method_2_code 8 = .ok (.goto 4, 3) := by decide +kernel
def Q_slid_0 (Z : State) (a1 : Addr) (p3 : Int32) (h0 : Heap) (n0 : Nat) (v : Option Value) (h : Heap) (L : List Loc) : Prop := v = some (.int 1) ∧ Fr n0 L ∧ h = h0
set_option maxRecDepth 65536 in
set_option maxHeartbeats 40000000 in
theorem rm_slid_0 (l : Launch) (Z : State) (a0 : Array Value) (hw : ∀ d ∈ tables_1, d.before a0 Z = true) (ws : List Jvm.Cond) (a1 : Addr) (p3 : Int32) (h0 : Heap) (n0 : Nat) (O0 : Old Z n0 h0) (F_sl : Fld Z h0 a1 "com/example/sixfold/sixfold/rules/Direction" "sliders" "I" (.int p3)) (hp : ¬ (p3 = (0 : Int32))) :
    MetFree l mY2 (head1 (Jvm.Cond.code mY2 prog_8_method_2_code 1 (some .boolean) :: ws) ({ frames := 0, cells := 0, slots := 0, locals := 0 } : Room)) (fun a U => a = #[(.ref a1)] ∧ Z.Warmed39 U.vm ∧ U.heap = h0) (fun _ _ _ _ _ => True) (fun _ U o U' => ∃ v L, o = .returned v ∧ Q_slid_0 Z a1 p3 h0 n0 v U'.heap L ∧ FrameEnd U o U' L ({ frames := 0, cells := 0, slots := 0, locals := 0 } : Room).cells ({ frames := 0, cells := 0, slots := 0, locals := 0 } : Room).slots) := by
  refine MetFree.of_bodySF (plainFor_of_name pn_1) hisR ?_
  intro p e s m args below meth c s₁ Bd hml0 hP hK
  obtain ⟨rfl, hZ, hh⟩ := hP
  have hx := Bd.exec
  have hby := Bd.bytes
  have hml : c.maxLocals = 1 := hml0
  have hown : s.vm.findClass "com/example/sixfold/sixfold/rules/Direction" = some m.cls := findClass_of_methodNamed Bd.named
  have hnm := (name_of_methodNamed Bd.named Bd.method).1
  have X0 : Stand p l e ({ frames := 0, cells := 0, slots := 0, locals := 0 } : Room) s m #[(.ref a1)] below meth c s₁ [] 0 0 := Stand.of_body Bd
  have e0 : s₁.heap = h0 := by rw [← hh, Bd.state]; rfl
  have N0 := Fr.nil n0
  show oG p e below s (Q_slid_0 Z a1 p3 h0 n0) ({ frames := 0, cells := 0, slots := 0, locals := 0 } : Room).cells ({ frames := 0, cells := 0, slots := 0, locals := 0 } : Room).slots _
  refine oS (fun t k => castTop (ef_4_r m a1) k) ?_
  show oG _ _ _ _ _ _ _ (s₁.setTop (mkF m 0 #[.val (.ref a1)] []))
  refine oS (fun t k => XS.aloadN X0.here hx rfl (hb hby d4_0) rfl rfl k) ?_
  obtain ⟨T1, X1, e1, st1⟩ := getF X0 hx hZ hown (host := "") (Or.inl (oW hw 19 rfl)) Via.refl e0 F_sl (g := (mkF m 1 #[.val (.ref a1)] [(.ref a1)])) rfl rfl (hb hby d4_1)
  refine oS (fun t k => st1 t k) ?_
  refine oS (fun t k => XS.ifNo X1.here hx rfl (hb hby d4_4) rfl ((if0 _ _).trans (feq hp).1) k) ?_
  refine oS (fun t k => XS.iconst X1.here hx rfl (hb hby d4_7) k) ?_
  refine oS (fun t k => XS.goto X1.here hx rfl (pc0 := 8) (pc' := 12) rfl (hb hby d4_8) (by decide) (by decide) k) ?_
  exact own_ret (v := some (.int 1)) X1 (fun h => by rw [Bd.returns] at h; cases h) Bd.notSynchronized (fun fs hr => retN X1 hx (t := .boolean) Bd.returns (by simp) (hb hby d4_12) hr) (by rw [e1]; exact ⟨rfl, N0, rfl⟩) (by decide) (by decide)
theorem d6_0 : decode jdk_37_method_2_code 0 = .ok (.aload_n 0, 1) := by decide +kernel
theorem d6_1 : decode jdk_37_method_2_code 1 = .ok (.getfield 7, 3) := by decide +kernel
theorem d6_4 : decode jdk_37_method_2_code 4 = .ok (.ireturn, 1) := by decide +kernel
abbrev mY3 : MethodName := (⟨"java/lang/Enum", "ordinal", "()I"⟩ : MethodName)
theorem ef_6_r (m : MethodId) (x0 : Addr) : entryFrame m #[(.ref x0)] 1 = mkF m 0 #[.val (.ref x0)] [] := by first | (simp [entryFrame, mkF, argsToLocals, Value.category]; done) | rfl
theorem pn_2 : plainName "java/lang/Enum" = true := by first | (simp [plainName, overriddenIn]; done) | decide +kernel
def Q_ord_KING (Z : State)  (w : Nat → Addr) (h0 : Heap) (n0 : Nat) (v : Option Value) (h : Heap) (L : List Loc) : Prop := v = some (.int 0) ∧ Fr n0 L ∧ h = h0
set_option maxRecDepth 65536 in
set_option maxHeartbeats 40000000 in
theorem rm_ord_KING (l : Launch) (Z : State) (a0 : Array Value) (hw : ∀ d ∈ tables_1, d.before a0 Z = true) (ws : List Jvm.Cond)  (w : Nat → Addr) (h0 : Heap) (n0 : Nat) (O0 : Old Z n0 h0) (W : own_World Z w) :
    MetFree l mY3 (head1 (Jvm.Cond.code mY3 jdk_37_method_2_code 1 (some .int) :: ws) ({ frames := 0, cells := 0, slots := 0, locals := 0 } : Room)) (fun a U => a = #[(.ref (w 0))] ∧ Z.Warmed39 U.vm ∧ U.heap = h0) (fun _ _ _ _ _ => True) (fun _ U o U' => ∃ v L, o = .returned v ∧ Q_ord_KING Z  w h0 n0 v U'.heap L ∧ FrameEnd U o U' L ({ frames := 0, cells := 0, slots := 0, locals := 0 } : Room).cells ({ frames := 0, cells := 0, slots := 0, locals := 0 } : Room).slots) := by
  refine MetFree.of_bodySF (plainFor_of_name pn_2) hisR ?_
  intro p e s m args below meth c s₁ Bd hml0 hP hK
  obtain ⟨rfl, hZ, hh⟩ := hP
  have hx := Bd.exec
  have hby := Bd.bytes
  have hml : c.maxLocals = 1 := hml0
  have hown : s.vm.findClass "java/lang/Enum" = some m.cls := findClass_of_methodNamed Bd.named
  have hnm := (name_of_methodNamed Bd.named Bd.method).1
  have X0 : Stand p l e ({ frames := 0, cells := 0, slots := 0, locals := 0 } : Room) s m #[(.ref (w 0))] below meth c s₁ [] 0 0 := Stand.of_body Bd
  have e0 : s₁.heap = h0 := by rw [← hh, Bd.state]; rfl
  have N0 := Fr.nil n0
  show oG p e below s (Q_ord_KING Z  w h0 n0) ({ frames := 0, cells := 0, slots := 0, locals := 0 } : Room).cells ({ frames := 0, cells := 0, slots := 0, locals := 0 } : Room).slots _
  refine oS (fun t k => castTop (ef_6_r m (w 0)) k) ?_
  show oG _ _ _ _ _ _ _ (s₁.setTop (mkF m 0 #[.val (.ref (w 0))] []))
  refine oS (fun t k => XS.aloadN X0.here hx rfl (hb hby d6_0) rfl rfl k) ?_
  obtain ⟨T1, X1, e1, st1⟩ := getF X0 hx hZ hown (host := "") (Or.inl (oW hw 41 rfl)) Via.refl e0 ((wF0_ordinal W).ext O0.2) (g := (mkF m 1 #[.val (.ref (w 0))] [(.ref (w 0))])) rfl rfl (hb hby d6_1)
  refine oS (fun t k => st1 t k) ?_
  exact own_ret (v := some (.int 0)) X1 (fun h => by rw [Bd.returns] at h; cases h) Bd.notSynchronized (fun fs hr => retOut X1 hx (t := .int) Bd.returns rfl (Or.inl ⟨rfl, Or.inl rfl, _, rfl⟩) (hb hby d6_4) hr) (by rw [e1]; exact ⟨rfl, N0, rfl⟩) (by decide) (by decide)
theorem d5_0 : decode prog_8_method_3_code 0 = .ok (.iload_n 2, 1) := by decide +kernel
theorem d5_1 : decode prog_8_method_3_code 1 = .ok (.ifCond .eq 10, 3) := by decide +kernel
theorem d5_11 : decode prog_8_method_3_code 11 = .ok (.aload_n 0, 1) := by decide +kernel
theorem d5_12 : decode prog_8_method_3_code 12 = .ok (.getfield 17, 3) := by decide +kernel
theorem d5_15 : decode prog_8_method_3_code 15 = .ok (.iconst 1, 1) := by decide +kernel
theorem d5_16 : decode prog_8_method_3_code 16 = .ok (.aload_n 1, 1) := by decide +kernel
theorem d5_17 : decode prog_8_method_3_code 17 = .ok (.invokevirtual 20, 3) := by decide +kernel
theorem pd_1 : parseMethodDescriptor "()I" = some ⟨[], some .int⟩ := by decide +kernel
abbrev mY4 : MethodName := (⟨"com/example/sixfold/sixfold/rules/Kind", "ordinal", "()I"⟩ : MethodName)
theorem d5_20 : decode prog_8_method_3_code 20 = .ok (.ishl, 1) := by decide +kernel
theorem d5_21 : decode prog_8_method_3_code 21 = .ok (.iand, 1) := by decide +kernel
theorem d5_22 : decode prog_8_method_3_code 22 = .ok (.ifCond .eq 7, 3) := by decide +kernel
theorem d5_29 : decode prog_8_method_3_code 29 = .ok (.iconst 0, 1) := by decide +kernel
theorem d5_30 : decode prog_8_method_3_code 30 = .ok (.ireturn, 1) := by decide +kernel
abbrev mY5 : MethodName := (⟨"com/example/sixfold/sixfold/rules/Direction", "moves", "(Lcom/example/sixfold/sixfold/rules/Kind;Z)Z"⟩ : MethodName)
theorem ef_5_rri_0 (m : MethodId) (x0 : Addr) (x1 : Addr) : entryFrame m #[(.ref x0), (.ref x1), (.int 0)] 3 = mkF m 0 #[.val (.ref x0), .val (.ref x1), .val (.int 0)] [] := by first | (simp [entryFrame, mkF, argsToLocals, Value.category]; done) | rfl
def Q_mv_KING_1 (Z : State) (a1 : Addr) (p3 : Int32) (w : Nat → Addr) (h0 : Heap) (n0 : Nat) (v : Option Value) (h : Heap) (L : List Loc) : Prop := v = some (.int 0) ∧ Fr n0 L ∧ h = h0
set_option maxRecDepth 65536 in
set_option maxHeartbeats 40000000 in
theorem rm_mv_KING_1 (l : Launch) (Z : State) (a0 : Array Value) (hw : ∀ d ∈ tables_1, d.before a0 Z = true) (ws : List Jvm.Cond) (a1 : Addr) (p3 : Int32) (w : Nat → Addr) (h0 : Heap) (n0 : Nat) (O0 : Old Z n0 h0) (W : own_World Z w) (F_sl : Fld Z h0 a1 "com/example/sixfold/sixfold/rules/Direction" "sliders" "I" (.int p3)) (hp : (p3 &&& ((1 : Int32) <<< ((0 : Int32) &&& 31))) = (0 : Int32)) :
    MetFree l mY5 (head1 (Jvm.Cond.code mY5 prog_8_method_3_code 3 (some .boolean) :: ws) ({ frames := 1, cells := 0, slots := 0, locals := 14 } : Room)) (fun a U => a = #[(.ref a1), (.ref (w 0)), (.int 0)] ∧ Z.Warmed39 U.vm ∧ U.heap = h0) (fun _ _ _ _ _ => True) (fun _ U o U' => ∃ v L, o = .returned v ∧ Q_mv_KING_1 Z a1 p3 w h0 n0 v U'.heap L ∧ FrameEnd U o U' L ({ frames := 1, cells := 0, slots := 0, locals := 14 } : Room).cells ({ frames := 1, cells := 0, slots := 0, locals := 14 } : Room).slots) := by
  refine MetFree.of_bodySF (plainFor_of_name pn_1) hisR ?_
  intro p e s m args below meth c s₁ Bd hml0 hP hK
  obtain ⟨rfl, hZ, hh⟩ := hP
  have hx := Bd.exec
  have hby := Bd.bytes
  have hml : c.maxLocals = 3 := hml0
  have hown : s.vm.findClass "com/example/sixfold/sixfold/rules/Direction" = some m.cls := findClass_of_methodNamed Bd.named
  have hnm := (name_of_methodNamed Bd.named Bd.method).1
  have X0 : Stand p l e ({ frames := 1, cells := 0, slots := 0, locals := 14 } : Room) s m #[(.ref a1), (.ref (w 0)), (.int 0)] below meth c s₁ [] 0 0 := Stand.of_body Bd
  have e0 : s₁.heap = h0 := by rw [← hh, Bd.state]; rfl
  have N0 := Fr.nil n0
  show oG p e below s (Q_mv_KING_1 Z a1 p3 w h0 n0) ({ frames := 1, cells := 0, slots := 0, locals := 14 } : Room).cells ({ frames := 1, cells := 0, slots := 0, locals := 14 } : Room).slots _
  refine oS (fun t k => castTop (ef_5_rri_0 m a1 (w 0)) k) ?_
  show oG _ _ _ _ _ _ _ (s₁.setTop (mkF m 0 #[.val (.ref a1), .val (.ref (w 0)), .val (.int 0)] []))
  refine oS (fun t k => XS.iloadN X0.here hx rfl (hb hby d5_0) rfl k) ?_
  refine oS (fun t k => XS.ifYes X0.here hx rfl (pc0 := 1) (pc' := 11) rfl (hb hby d5_1) rfl ((if0 _ _).trans (teq (by decide)).1) (by decide) (by decide) k) ?_
  refine oS (fun t k => XS.aloadN X0.here hx rfl (hb hby d5_11) rfl rfl k) ?_
  obtain ⟨T1, X1, e1, st1⟩ := getF X0 hx hZ hown (host := "") (Or.inl (oW hw 19 rfl)) Via.refl e0 F_sl (g := (mkF m 12 #[.val (.ref a1), .val (.ref (w 0)), .val (.int 0)] [(.ref a1)])) rfl rfl (hb hby d5_12)
  refine oS (fun t k => st1 t k) ?_
  refine oS (fun t k => XS.iconst X1.here hx rfl (hb hby d5_15) k) ?_
  refine oS (fun t k => XS.aloadN X1.here hx rfl (hb hby d5_16) rfl rfl k) ?_
  obtain ⟨cq2, kq2, q2a, q2b, q2c⟩ := isOf hZ e1 ((wE0 W).ext O0.2)
  obtain ⟨_, _, ⟨T2, L2, k2, n2⟩, -, X2, ⟨Lc2, hQ2, l2, y2, z2⟩, st2⟩ := X1.virtualBackUp hx (x := mY4) (y := mY3) hown (mvT hZ (oW hw 34 rfl)) (mvT hZ (oW hw 35 rfl)) (mvT hZ (oW hw 36 rfl)) (by decide) (mvT hZ (oW hw 38 rfl)) (mvT hZ (oW hw 37 rfl)) (backOf (W := 2) (rm_ord_KING l Z a0 hw []  w h0 n0 O0 W ) hZ (oW hw 40 rfl) (oW hw 39 rfl) (by decide) (by decide)) q2a q2c (g := (mkF m 17 #[.val (.ref a1), .val (.ref (w 0)), .val (.int 0)] [(.ref (w 0)), (.int 1), (.int p3)])) rfl (by rw [hml]; rfl) (Steps.refl _) (argsL := []) (rest := [(.int 1), (.int p3)]) (lenOf pd_1 rfl) rfl (by show 2 * 0 + _ ≤ _; exact Nat.le_of_eq rfl) (hb hby d5_17) (fun _ _ => ⟨rfl, e1, (by decide : 0 + 0 ≤ _), (by decide : 0 + 0 ≤ _)⟩)
  dsimp only [Pt.U, Pt.locs, Pt.cells, Pt.slots] at X2 l2 y2 z2 st2 hQ2
  subst l2 y2 z2
  obtain ⟨rfl, Nq2, e2⟩ := hQ2
  have N2 := Fr.app N0 Nq2
  refine oS (fun t k => st2.trans k) ?_
  show oG _ _ _ _ _ _ _ (T2.setTop (mkF m 20 #[.val (.ref a1), .val (.ref (w 0)), .val (.int 0)] [(.int 0), (.int 1), (.int p3)]))
  refine oS (fun t k => XS.ishl X2.here hx rfl (hb hby d5_20) rfl k) ?_
  refine oS (fun t k => XS.iand X2.here hx rfl (hb hby d5_21) rfl k) ?_
  refine oS (fun t k => XS.ifYes X2.here hx rfl (pc0 := 22) (pc' := 29) rfl (hb hby d5_22) rfl ((if0 _ _).trans (teq hp).1) (by decide) (by decide) k) ?_
  refine oS (fun t k => XS.iconst X2.here hx rfl (hb hby d5_29) k) ?_
  exact own_ret (v := some (.int 0)) X2 (fun h => by rw [Bd.returns] at h; cases h) Bd.notSynchronized (fun fs hr => retN X2 hx (t := .boolean) Bd.returns (by simp) (hb hby d5_30) hr) (by rw [e2]; exact ⟨rfl, N2, rfl⟩) (by decide) (by decide)
theorem d5_25 : decode prog_8_method_3_code 25 = .ok (.iconst 1, 1) := by decide +kernel
theorem d5_26 : decode prog_8_method_3_code 26 = .ok (.goto 4, 3) := by decide +kernel
def Q_mv_KING_0 (Z : State) (a1 : Addr) (p3 : Int32) (w : Nat → Addr) (h0 : Heap) (n0 : Nat) (v : Option Value) (h : Heap) (L : List Loc) : Prop := v = some (.int 1) ∧ Fr n0 L ∧ h = h0
set_option maxRecDepth 65536 in
set_option maxHeartbeats 40000000 in
theorem rm_mv_KING_0 (l : Launch) (Z : State) (a0 : Array Value) (hw : ∀ d ∈ tables_1, d.before a0 Z = true) (ws : List Jvm.Cond) (a1 : Addr) (p3 : Int32) (w : Nat → Addr) (h0 : Heap) (n0 : Nat) (O0 : Old Z n0 h0) (W : own_World Z w) (F_sl : Fld Z h0 a1 "com/example/sixfold/sixfold/rules/Direction" "sliders" "I" (.int p3)) (hp : ¬ ((p3 &&& ((1 : Int32) <<< ((0 : Int32) &&& 31))) = (0 : Int32))) :
    MetFree l mY5 (head1 (Jvm.Cond.code mY5 prog_8_method_3_code 3 (some .boolean) :: ws) ({ frames := 1, cells := 0, slots := 0, locals := 14 } : Room)) (fun a U => a = #[(.ref a1), (.ref (w 0)), (.int 0)] ∧ Z.Warmed39 U.vm ∧ U.heap = h0) (fun _ _ _ _ _ => True) (fun _ U o U' => ∃ v L, o = .returned v ∧ Q_mv_KING_0 Z a1 p3 w h0 n0 v U'.heap L ∧ FrameEnd U o U' L ({ frames := 1, cells := 0, slots := 0, locals := 14 } : Room).cells ({ frames := 1, cells := 0, slots := 0, locals := 14 } : Room).slots) := by
  refine MetFree.of_bodySF (plainFor_of_name pn_1) hisR ?_
  intro p e s m args below meth c s₁ Bd hml0 hP hK
  obtain ⟨rfl, hZ, hh⟩ := hP
  have hx := Bd.exec
  have hby := Bd.bytes
  have hml : c.maxLocals = 3 := hml0
  have hown : s.vm.findClass "com/example/sixfold/sixfold/rules/Direction" = some m.cls := findClass_of_methodNamed Bd.named
  have hnm := (name_of_methodNamed Bd.named Bd.method).1
  have X0 : Stand p l e ({ frames := 1, cells := 0, slots := 0, locals := 14 } : Room) s m #[(.ref a1), (.ref (w 0)), (.int 0)] below meth c s₁ [] 0 0 := Stand.of_body Bd
  have e0 : s₁.heap = h0 := by rw [← hh, Bd.state]; rfl
  have N0 := Fr.nil n0
  show oG p e below s (Q_mv_KING_0 Z a1 p3 w h0 n0) ({ frames := 1, cells := 0, slots := 0, locals := 14 } : Room).cells ({ frames := 1, cells := 0, slots := 0, locals := 14 } : Room).slots _
  refine oS (fun t k => castTop (ef_5_rri_0 m a1 (w 0)) k) ?_
  show oG _ _ _ _ _ _ _ (s₁.setTop (mkF m 0 #[.val (.ref a1), .val (.ref (w 0)), .val (.int 0)] []))
  refine oS (fun t k => XS.iloadN X0.here hx rfl (hb hby d5_0) rfl k) ?_
  refine oS (fun t k => XS.ifYes X0.here hx rfl (pc0 := 1) (pc' := 11) rfl (hb hby d5_1) rfl ((if0 _ _).trans (teq (by decide)).1) (by decide) (by decide) k) ?_
  refine oS (fun t k => XS.aloadN X0.here hx rfl (hb hby d5_11) rfl rfl k) ?_
  obtain ⟨T1, X1, e1, st1⟩ := getF X0 hx hZ hown (host := "") (Or.inl (oW hw 19 rfl)) Via.refl e0 F_sl (g := (mkF m 12 #[.val (.ref a1), .val (.ref (w 0)), .val (.int 0)] [(.ref a1)])) rfl rfl (hb hby d5_12)
  refine oS (fun t k => st1 t k) ?_
  refine oS (fun t k => XS.iconst X1.here hx rfl (hb hby d5_15) k) ?_
  refine oS (fun t k => XS.aloadN X1.here hx rfl (hb hby d5_16) rfl rfl k) ?_
  obtain ⟨cq2, kq2, q2a, q2b, q2c⟩ := isOf hZ e1 ((wE0 W).ext O0.2)
  obtain ⟨_, _, ⟨T2, L2, k2, n2⟩, -, X2, ⟨Lc2, hQ2, l2, y2, z2⟩, st2⟩ := X1.virtualBackUp hx (x := mY4) (y := mY3) hown (mvT hZ (oW hw 34 rfl)) (mvT hZ (oW hw 35 rfl)) (mvT hZ (oW hw 36 rfl)) (by decide) (mvT hZ (oW hw 38 rfl)) (mvT hZ (oW hw 37 rfl)) (backOf (W := 2) (rm_ord_KING l Z a0 hw []  w h0 n0 O0 W ) hZ (oW hw 40 rfl) (oW hw 39 rfl) (by decide) (by decide)) q2a q2c (g := (mkF m 17 #[.val (.ref a1), .val (.ref (w 0)), .val (.int 0)] [(.ref (w 0)), (.int 1), (.int p3)])) rfl (by rw [hml]; rfl) (Steps.refl _) (argsL := []) (rest := [(.int 1), (.int p3)]) (lenOf pd_1 rfl) rfl (by show 2 * 0 + _ ≤ _; exact Nat.le_of_eq rfl) (hb hby d5_17) (fun _ _ => ⟨rfl, e1, (by decide : 0 + 0 ≤ _), (by decide : 0 + 0 ≤ _)⟩)
  dsimp only [Pt.U, Pt.locs, Pt.cells, Pt.slots] at X2 l2 y2 z2 st2 hQ2
  subst l2 y2 z2
  obtain ⟨rfl, Nq2, e2⟩ := hQ2
  have N2 := Fr.app N0 Nq2
  refine oS (fun t k => st2.trans k) ?_
  show oG _ _ _ _ _ _ _ (T2.setTop (mkF m 20 #[.val (.ref a1), .val (.ref (w 0)), .val (.int 0)] [(.int 0), (.int 1), (.int p3)]))
  refine oS (fun t k => XS.ishl X2.here hx rfl (hb hby d5_20) rfl k) ?_
  refine oS (fun t k => XS.iand X2.here hx rfl (hb hby d5_21) rfl k) ?_
  refine oS (fun t k => XS.ifNo X2.here hx rfl (hb hby d5_22) rfl ((if0 _ _).trans (feq hp).1) k) ?_
  refine oS (fun t k => XS.iconst X2.here hx rfl (hb hby d5_25) k) ?_
  refine oS (fun t k => XS.goto X2.here hx rfl (pc0 := 26) (pc' := 30) rfl (hb hby d5_26) (by decide) (by decide) k) ?_
  exact own_ret (v := some (.int 1)) X2 (fun h => by rw [Bd.returns] at h; cases h) Bd.notSynchronized (fun fs hr => retN X2 hx (t := .boolean) Bd.returns (by simp) (hb hby d5_30) hr) (by rw [e2]; exact ⟨rfl, N2, rfl⟩) (by decide) (by decide)
def Q_ord_QUEEN (Z : State)  (w : Nat → Addr) (h0 : Heap) (n0 : Nat) (v : Option Value) (h : Heap) (L : List Loc) : Prop := v = some (.int 1) ∧ Fr n0 L ∧ h = h0
set_option maxRecDepth 65536 in
set_option maxHeartbeats 40000000 in
theorem rm_ord_QUEEN (l : Launch) (Z : State) (a0 : Array Value) (hw : ∀ d ∈ tables_1, d.before a0 Z = true) (ws : List Jvm.Cond)  (w : Nat → Addr) (h0 : Heap) (n0 : Nat) (O0 : Old Z n0 h0) (W : own_World Z w) :
    MetFree l mY3 (head1 (Jvm.Cond.code mY3 jdk_37_method_2_code 1 (some .int) :: ws) ({ frames := 0, cells := 0, slots := 0, locals := 0 } : Room)) (fun a U => a = #[(.ref (w 1))] ∧ Z.Warmed39 U.vm ∧ U.heap = h0) (fun _ _ _ _ _ => True) (fun _ U o U' => ∃ v L, o = .returned v ∧ Q_ord_QUEEN Z  w h0 n0 v U'.heap L ∧ FrameEnd U o U' L ({ frames := 0, cells := 0, slots := 0, locals := 0 } : Room).cells ({ frames := 0, cells := 0, slots := 0, locals := 0 } : Room).slots) := by
  refine MetFree.of_bodySF (plainFor_of_name pn_2) hisR ?_
  intro p e s m args below meth c s₁ Bd hml0 hP hK
  obtain ⟨rfl, hZ, hh⟩ := hP
  have hx := Bd.exec
  have hby := Bd.bytes
  have hml : c.maxLocals = 1 := hml0
  have hown : s.vm.findClass "java/lang/Enum" = some m.cls := findClass_of_methodNamed Bd.named
  have hnm := (name_of_methodNamed Bd.named Bd.method).1
  have X0 : Stand p l e ({ frames := 0, cells := 0, slots := 0, locals := 0 } : Room) s m #[(.ref (w 1))] below meth c s₁ [] 0 0 := Stand.of_body Bd
  have e0 : s₁.heap = h0 := by rw [← hh, Bd.state]; rfl
  have N0 := Fr.nil n0
  show oG p e below s (Q_ord_QUEEN Z  w h0 n0) ({ frames := 0, cells := 0, slots := 0, locals := 0 } : Room).cells ({ frames := 0, cells := 0, slots := 0, locals := 0 } : Room).slots _
  refine oS (fun t k => castTop (ef_6_r m (w 1)) k) ?_
  show oG _ _ _ _ _ _ _ (s₁.setTop (mkF m 0 #[.val (.ref (w 1))] []))
  refine oS (fun t k => XS.aloadN X0.here hx rfl (hb hby d6_0) rfl rfl k) ?_
  obtain ⟨T1, X1, e1, st1⟩ := getF X0 hx hZ hown (host := "") (Or.inl (oW hw 41 rfl)) Via.refl e0 ((wF1_ordinal W).ext O0.2) (g := (mkF m 1 #[.val (.ref (w 1))] [(.ref (w 1))])) rfl rfl (hb hby d6_1)
  refine oS (fun t k => st1 t k) ?_
  exact own_ret (v := some (.int 1)) X1 (fun h => by rw [Bd.returns] at h; cases h) Bd.notSynchronized (fun fs hr => retOut X1 hx (t := .int) Bd.returns rfl (Or.inl ⟨rfl, Or.inl rfl, _, rfl⟩) (hb hby d6_4) hr) (by rw [e1]; exact ⟨rfl, N0, rfl⟩) (by decide) (by decide)
def Q_mv_QUEEN_1 (Z : State) (a1 : Addr) (p3 : Int32) (w : Nat → Addr) (h0 : Heap) (n0 : Nat) (v : Option Value) (h : Heap) (L : List Loc) : Prop := v = some (.int 0) ∧ Fr n0 L ∧ h = h0
set_option maxRecDepth 65536 in
set_option maxHeartbeats 40000000 in
theorem rm_mv_QUEEN_1 (l : Launch) (Z : State) (a0 : Array Value) (hw : ∀ d ∈ tables_1, d.before a0 Z = true) (ws : List Jvm.Cond) (a1 : Addr) (p3 : Int32) (w : Nat → Addr) (h0 : Heap) (n0 : Nat) (O0 : Old Z n0 h0) (W : own_World Z w) (F_sl : Fld Z h0 a1 "com/example/sixfold/sixfold/rules/Direction" "sliders" "I" (.int p3)) (hp : (p3 &&& ((1 : Int32) <<< ((1 : Int32) &&& 31))) = (0 : Int32)) :
    MetFree l mY5 (head1 (Jvm.Cond.code mY5 prog_8_method_3_code 3 (some .boolean) :: ws) ({ frames := 1, cells := 0, slots := 0, locals := 14 } : Room)) (fun a U => a = #[(.ref a1), (.ref (w 1)), (.int 0)] ∧ Z.Warmed39 U.vm ∧ U.heap = h0) (fun _ _ _ _ _ => True) (fun _ U o U' => ∃ v L, o = .returned v ∧ Q_mv_QUEEN_1 Z a1 p3 w h0 n0 v U'.heap L ∧ FrameEnd U o U' L ({ frames := 1, cells := 0, slots := 0, locals := 14 } : Room).cells ({ frames := 1, cells := 0, slots := 0, locals := 14 } : Room).slots) := by
  refine MetFree.of_bodySF (plainFor_of_name pn_1) hisR ?_
  intro p e s m args below meth c s₁ Bd hml0 hP hK
  obtain ⟨rfl, hZ, hh⟩ := hP
  have hx := Bd.exec
  have hby := Bd.bytes
  have hml : c.maxLocals = 3 := hml0
  have hown : s.vm.findClass "com/example/sixfold/sixfold/rules/Direction" = some m.cls := findClass_of_methodNamed Bd.named
  have hnm := (name_of_methodNamed Bd.named Bd.method).1
  have X0 : Stand p l e ({ frames := 1, cells := 0, slots := 0, locals := 14 } : Room) s m #[(.ref a1), (.ref (w 1)), (.int 0)] below meth c s₁ [] 0 0 := Stand.of_body Bd
  have e0 : s₁.heap = h0 := by rw [← hh, Bd.state]; rfl
  have N0 := Fr.nil n0
  show oG p e below s (Q_mv_QUEEN_1 Z a1 p3 w h0 n0) ({ frames := 1, cells := 0, slots := 0, locals := 14 } : Room).cells ({ frames := 1, cells := 0, slots := 0, locals := 14 } : Room).slots _
  refine oS (fun t k => castTop (ef_5_rri_0 m a1 (w 1)) k) ?_
  show oG _ _ _ _ _ _ _ (s₁.setTop (mkF m 0 #[.val (.ref a1), .val (.ref (w 1)), .val (.int 0)] []))
  refine oS (fun t k => XS.iloadN X0.here hx rfl (hb hby d5_0) rfl k) ?_
  refine oS (fun t k => XS.ifYes X0.here hx rfl (pc0 := 1) (pc' := 11) rfl (hb hby d5_1) rfl ((if0 _ _).trans (teq (by decide)).1) (by decide) (by decide) k) ?_
  refine oS (fun t k => XS.aloadN X0.here hx rfl (hb hby d5_11) rfl rfl k) ?_
  obtain ⟨T1, X1, e1, st1⟩ := getF X0 hx hZ hown (host := "") (Or.inl (oW hw 19 rfl)) Via.refl e0 F_sl (g := (mkF m 12 #[.val (.ref a1), .val (.ref (w 1)), .val (.int 0)] [(.ref a1)])) rfl rfl (hb hby d5_12)
  refine oS (fun t k => st1 t k) ?_
  refine oS (fun t k => XS.iconst X1.here hx rfl (hb hby d5_15) k) ?_
  refine oS (fun t k => XS.aloadN X1.here hx rfl (hb hby d5_16) rfl rfl k) ?_
  obtain ⟨cq2, kq2, q2a, q2b, q2c⟩ := isOf hZ e1 ((wE1 W).ext O0.2)
  obtain ⟨_, _, ⟨T2, L2, k2, n2⟩, -, X2, ⟨Lc2, hQ2, l2, y2, z2⟩, st2⟩ := X1.virtualBackUp hx (x := mY4) (y := mY3) hown (mvT hZ (oW hw 34 rfl)) (mvT hZ (oW hw 35 rfl)) (mvT hZ (oW hw 36 rfl)) (by decide) (mvT hZ (oW hw 38 rfl)) (mvT hZ (oW hw 37 rfl)) (backOf (W := 2) (rm_ord_QUEEN l Z a0 hw []  w h0 n0 O0 W ) hZ (oW hw 40 rfl) (oW hw 39 rfl) (by decide) (by decide)) q2a q2c (g := (mkF m 17 #[.val (.ref a1), .val (.ref (w 1)), .val (.int 0)] [(.ref (w 1)), (.int 1), (.int p3)])) rfl (by rw [hml]; rfl) (Steps.refl _) (argsL := []) (rest := [(.int 1), (.int p3)]) (lenOf pd_1 rfl) rfl (by show 2 * 0 + _ ≤ _; exact Nat.le_of_eq rfl) (hb hby d5_17) (fun _ _ => ⟨rfl, e1, (by decide : 0 + 0 ≤ _), (by decide : 0 + 0 ≤ _)⟩)
  dsimp only [Pt.U, Pt.locs, Pt.cells, Pt.slots] at X2 l2 y2 z2 st2 hQ2
  subst l2 y2 z2
  obtain ⟨rfl, Nq2, e2⟩ := hQ2
  have N2 := Fr.app N0 Nq2
  refine oS (fun t k => st2.trans k) ?_
  show oG _ _ _ _ _ _ _ (T2.setTop (mkF m 20 #[.val (.ref a1), .val (.ref (w 1)), .val (.int 0)] [(.int 1), (.int 1), (.int p3)]))
  refine oS (fun t k => XS.ishl X2.here hx rfl (hb hby d5_20) rfl k) ?_
  refine oS (fun t k => XS.iand X2.here hx rfl (hb hby d5_21) rfl k) ?_
  refine oS (fun t k => XS.ifYes X2.here hx rfl (pc0 := 22) (pc' := 29) rfl (hb hby d5_22) rfl ((if0 _ _).trans (teq hp).1) (by decide) (by decide) k) ?_
  refine oS (fun t k => XS.iconst X2.here hx rfl (hb hby d5_29) k) ?_
  exact own_ret (v := some (.int 0)) X2 (fun h => by rw [Bd.returns] at h; cases h) Bd.notSynchronized (fun fs hr => retN X2 hx (t := .boolean) Bd.returns (by simp) (hb hby d5_30) hr) (by rw [e2]; exact ⟨rfl, N2, rfl⟩) (by decide) (by decide)
def Q_mv_QUEEN_0 (Z : State) (a1 : Addr) (p3 : Int32) (w : Nat → Addr) (h0 : Heap) (n0 : Nat) (v : Option Value) (h : Heap) (L : List Loc) : Prop := v = some (.int 1) ∧ Fr n0 L ∧ h = h0
set_option maxRecDepth 65536 in
set_option maxHeartbeats 40000000 in
theorem rm_mv_QUEEN_0 (l : Launch) (Z : State) (a0 : Array Value) (hw : ∀ d ∈ tables_1, d.before a0 Z = true) (ws : List Jvm.Cond) (a1 : Addr) (p3 : Int32) (w : Nat → Addr) (h0 : Heap) (n0 : Nat) (O0 : Old Z n0 h0) (W : own_World Z w) (F_sl : Fld Z h0 a1 "com/example/sixfold/sixfold/rules/Direction" "sliders" "I" (.int p3)) (hp : ¬ ((p3 &&& ((1 : Int32) <<< ((1 : Int32) &&& 31))) = (0 : Int32))) :
    MetFree l mY5 (head1 (Jvm.Cond.code mY5 prog_8_method_3_code 3 (some .boolean) :: ws) ({ frames := 1, cells := 0, slots := 0, locals := 14 } : Room)) (fun a U => a = #[(.ref a1), (.ref (w 1)), (.int 0)] ∧ Z.Warmed39 U.vm ∧ U.heap = h0) (fun _ _ _ _ _ => True) (fun _ U o U' => ∃ v L, o = .returned v ∧ Q_mv_QUEEN_0 Z a1 p3 w h0 n0 v U'.heap L ∧ FrameEnd U o U' L ({ frames := 1, cells := 0, slots := 0, locals := 14 } : Room).cells ({ frames := 1, cells := 0, slots := 0, locals := 14 } : Room).slots) := by
  refine MetFree.of_bodySF (plainFor_of_name pn_1) hisR ?_
  intro p e s m args below meth c s₁ Bd hml0 hP hK
  obtain ⟨rfl, hZ, hh⟩ := hP
  have hx := Bd.exec
  have hby := Bd.bytes
  have hml : c.maxLocals = 3 := hml0
  have hown : s.vm.findClass "com/example/sixfold/sixfold/rules/Direction" = some m.cls := findClass_of_methodNamed Bd.named
  have hnm := (name_of_methodNamed Bd.named Bd.method).1
  have X0 : Stand p l e ({ frames := 1, cells := 0, slots := 0, locals := 14 } : Room) s m #[(.ref a1), (.ref (w 1)), (.int 0)] below meth c s₁ [] 0 0 := Stand.of_body Bd
  have e0 : s₁.heap = h0 := by rw [← hh, Bd.state]; rfl
  have N0 := Fr.nil n0
  show oG p e below s (Q_mv_QUEEN_0 Z a1 p3 w h0 n0) ({ frames := 1, cells := 0, slots := 0, locals := 14 } : Room).cells ({ frames := 1, cells := 0, slots := 0, locals := 14 } : Room).slots _
  refine oS (fun t k => castTop (ef_5_rri_0 m a1 (w 1)) k) ?_
  show oG _ _ _ _ _ _ _ (s₁.setTop (mkF m 0 #[.val (.ref a1), .val (.ref (w 1)), .val (.int 0)] []))
  refine oS (fun t k => XS.iloadN X0.here hx rfl (hb hby d5_0) rfl k) ?_
  refine oS (fun t k => XS.ifYes X0.here hx rfl (pc0 := 1) (pc' := 11) rfl (hb hby d5_1) rfl ((if0 _ _).trans (teq (by decide)).1) (by decide) (by decide) k) ?_
  refine oS (fun t k => XS.aloadN X0.here hx rfl (hb hby d5_11) rfl rfl k) ?_
  obtain ⟨T1, X1, e1, st1⟩ := getF X0 hx hZ hown (host := "") (Or.inl (oW hw 19 rfl)) Via.refl e0 F_sl (g := (mkF m 12 #[.val (.ref a1), .val (.ref (w 1)), .val (.int 0)] [(.ref a1)])) rfl rfl (hb hby d5_12)
  refine oS (fun t k => st1 t k) ?_
  refine oS (fun t k => XS.iconst X1.here hx rfl (hb hby d5_15) k) ?_
  refine oS (fun t k => XS.aloadN X1.here hx rfl (hb hby d5_16) rfl rfl k) ?_
  obtain ⟨cq2, kq2, q2a, q2b, q2c⟩ := isOf hZ e1 ((wE1 W).ext O0.2)
  obtain ⟨_, _, ⟨T2, L2, k2, n2⟩, -, X2, ⟨Lc2, hQ2, l2, y2, z2⟩, st2⟩ := X1.virtualBackUp hx (x := mY4) (y := mY3) hown (mvT hZ (oW hw 34 rfl)) (mvT hZ (oW hw 35 rfl)) (mvT hZ (oW hw 36 rfl)) (by decide) (mvT hZ (oW hw 38 rfl)) (mvT hZ (oW hw 37 rfl)) (backOf (W := 2) (rm_ord_QUEEN l Z a0 hw []  w h0 n0 O0 W ) hZ (oW hw 40 rfl) (oW hw 39 rfl) (by decide) (by decide)) q2a q2c (g := (mkF m 17 #[.val (.ref a1), .val (.ref (w 1)), .val (.int 0)] [(.ref (w 1)), (.int 1), (.int p3)])) rfl (by rw [hml]; rfl) (Steps.refl _) (argsL := []) (rest := [(.int 1), (.int p3)]) (lenOf pd_1 rfl) rfl (by show 2 * 0 + _ ≤ _; exact Nat.le_of_eq rfl) (hb hby d5_17) (fun _ _ => ⟨rfl, e1, (by decide : 0 + 0 ≤ _), (by decide : 0 + 0 ≤ _)⟩)
  dsimp only [Pt.U, Pt.locs, Pt.cells, Pt.slots] at X2 l2 y2 z2 st2 hQ2
  subst l2 y2 z2
  obtain ⟨rfl, Nq2, e2⟩ := hQ2
  have N2 := Fr.app N0 Nq2
  refine oS (fun t k => st2.trans k) ?_
  show oG _ _ _ _ _ _ _ (T2.setTop (mkF m 20 #[.val (.ref a1), .val (.ref (w 1)), .val (.int 0)] [(.int 1), (.int 1), (.int p3)]))
  refine oS (fun t k => XS.ishl X2.here hx rfl (hb hby d5_20) rfl k) ?_
  refine oS (fun t k => XS.iand X2.here hx rfl (hb hby d5_21) rfl k) ?_
  refine oS (fun t k => XS.ifNo X2.here hx rfl (hb hby d5_22) rfl ((if0 _ _).trans (feq hp).1) k) ?_
  refine oS (fun t k => XS.iconst X2.here hx rfl (hb hby d5_25) k) ?_
  refine oS (fun t k => XS.goto X2.here hx rfl (pc0 := 26) (pc' := 30) rfl (hb hby d5_26) (by decide) (by decide) k) ?_
  exact own_ret (v := some (.int 1)) X2 (fun h => by rw [Bd.returns] at h; cases h) Bd.notSynchronized (fun fs hr => retN X2 hx (t := .boolean) Bd.returns (by simp) (hb hby d5_30) hr) (by rw [e2]; exact ⟨rfl, N2, rfl⟩) (by decide) (by decide)
def Q_ord_ROOK (Z : State)  (w : Nat → Addr) (h0 : Heap) (n0 : Nat) (v : Option Value) (h : Heap) (L : List Loc) : Prop := v = some (.int 2) ∧ Fr n0 L ∧ h = h0
set_option maxRecDepth 65536 in
set_option maxHeartbeats 40000000 in
theorem rm_ord_ROOK (l : Launch) (Z : State) (a0 : Array Value) (hw : ∀ d ∈ tables_1, d.before a0 Z = true) (ws : List Jvm.Cond)  (w : Nat → Addr) (h0 : Heap) (n0 : Nat) (O0 : Old Z n0 h0) (W : own_World Z w) :
    MetFree l mY3 (head1 (Jvm.Cond.code mY3 jdk_37_method_2_code 1 (some .int) :: ws) ({ frames := 0, cells := 0, slots := 0, locals := 0 } : Room)) (fun a U => a = #[(.ref (w 2))] ∧ Z.Warmed39 U.vm ∧ U.heap = h0) (fun _ _ _ _ _ => True) (fun _ U o U' => ∃ v L, o = .returned v ∧ Q_ord_ROOK Z  w h0 n0 v U'.heap L ∧ FrameEnd U o U' L ({ frames := 0, cells := 0, slots := 0, locals := 0 } : Room).cells ({ frames := 0, cells := 0, slots := 0, locals := 0 } : Room).slots) := by
  refine MetFree.of_bodySF (plainFor_of_name pn_2) hisR ?_
  intro p e s m args below meth c s₁ Bd hml0 hP hK
  obtain ⟨rfl, hZ, hh⟩ := hP
  have hx := Bd.exec
  have hby := Bd.bytes
  have hml : c.maxLocals = 1 := hml0
  have hown : s.vm.findClass "java/lang/Enum" = some m.cls := findClass_of_methodNamed Bd.named
  have hnm := (name_of_methodNamed Bd.named Bd.method).1
  have X0 : Stand p l e ({ frames := 0, cells := 0, slots := 0, locals := 0 } : Room) s m #[(.ref (w 2))] below meth c s₁ [] 0 0 := Stand.of_body Bd
  have e0 : s₁.heap = h0 := by rw [← hh, Bd.state]; rfl
  have N0 := Fr.nil n0
  show oG p e below s (Q_ord_ROOK Z  w h0 n0) ({ frames := 0, cells := 0, slots := 0, locals := 0 } : Room).cells ({ frames := 0, cells := 0, slots := 0, locals := 0 } : Room).slots _
  refine oS (fun t k => castTop (ef_6_r m (w 2)) k) ?_
  show oG _ _ _ _ _ _ _ (s₁.setTop (mkF m 0 #[.val (.ref (w 2))] []))
  refine oS (fun t k => XS.aloadN X0.here hx rfl (hb hby d6_0) rfl rfl k) ?_
  obtain ⟨T1, X1, e1, st1⟩ := getF X0 hx hZ hown (host := "") (Or.inl (oW hw 41 rfl)) Via.refl e0 ((wF2_ordinal W).ext O0.2) (g := (mkF m 1 #[.val (.ref (w 2))] [(.ref (w 2))])) rfl rfl (hb hby d6_1)
  refine oS (fun t k => st1 t k) ?_
  exact own_ret (v := some (.int 2)) X1 (fun h => by rw [Bd.returns] at h; cases h) Bd.notSynchronized (fun fs hr => retOut X1 hx (t := .int) Bd.returns rfl (Or.inl ⟨rfl, Or.inl rfl, _, rfl⟩) (hb hby d6_4) hr) (by rw [e1]; exact ⟨rfl, N0, rfl⟩) (by decide) (by decide)
def Q_mv_ROOK_1 (Z : State) (a1 : Addr) (p3 : Int32) (w : Nat → Addr) (h0 : Heap) (n0 : Nat) (v : Option Value) (h : Heap) (L : List Loc) : Prop := v = some (.int 0) ∧ Fr n0 L ∧ h = h0
set_option maxRecDepth 65536 in
set_option maxHeartbeats 40000000 in
theorem rm_mv_ROOK_1 (l : Launch) (Z : State) (a0 : Array Value) (hw : ∀ d ∈ tables_1, d.before a0 Z = true) (ws : List Jvm.Cond) (a1 : Addr) (p3 : Int32) (w : Nat → Addr) (h0 : Heap) (n0 : Nat) (O0 : Old Z n0 h0) (W : own_World Z w) (F_sl : Fld Z h0 a1 "com/example/sixfold/sixfold/rules/Direction" "sliders" "I" (.int p3)) (hp : (p3 &&& ((1 : Int32) <<< ((2 : Int32) &&& 31))) = (0 : Int32)) :
    MetFree l mY5 (head1 (Jvm.Cond.code mY5 prog_8_method_3_code 3 (some .boolean) :: ws) ({ frames := 1, cells := 0, slots := 0, locals := 14 } : Room)) (fun a U => a = #[(.ref a1), (.ref (w 2)), (.int 0)] ∧ Z.Warmed39 U.vm ∧ U.heap = h0) (fun _ _ _ _ _ => True) (fun _ U o U' => ∃ v L, o = .returned v ∧ Q_mv_ROOK_1 Z a1 p3 w h0 n0 v U'.heap L ∧ FrameEnd U o U' L ({ frames := 1, cells := 0, slots := 0, locals := 14 } : Room).cells ({ frames := 1, cells := 0, slots := 0, locals := 14 } : Room).slots) := by
  refine MetFree.of_bodySF (plainFor_of_name pn_1) hisR ?_
  intro p e s m args below meth c s₁ Bd hml0 hP hK
  obtain ⟨rfl, hZ, hh⟩ := hP
  have hx := Bd.exec
  have hby := Bd.bytes
  have hml : c.maxLocals = 3 := hml0
  have hown : s.vm.findClass "com/example/sixfold/sixfold/rules/Direction" = some m.cls := findClass_of_methodNamed Bd.named
  have hnm := (name_of_methodNamed Bd.named Bd.method).1
  have X0 : Stand p l e ({ frames := 1, cells := 0, slots := 0, locals := 14 } : Room) s m #[(.ref a1), (.ref (w 2)), (.int 0)] below meth c s₁ [] 0 0 := Stand.of_body Bd
  have e0 : s₁.heap = h0 := by rw [← hh, Bd.state]; rfl
  have N0 := Fr.nil n0
  show oG p e below s (Q_mv_ROOK_1 Z a1 p3 w h0 n0) ({ frames := 1, cells := 0, slots := 0, locals := 14 } : Room).cells ({ frames := 1, cells := 0, slots := 0, locals := 14 } : Room).slots _
  refine oS (fun t k => castTop (ef_5_rri_0 m a1 (w 2)) k) ?_
  show oG _ _ _ _ _ _ _ (s₁.setTop (mkF m 0 #[.val (.ref a1), .val (.ref (w 2)), .val (.int 0)] []))
  refine oS (fun t k => XS.iloadN X0.here hx rfl (hb hby d5_0) rfl k) ?_
  refine oS (fun t k => XS.ifYes X0.here hx rfl (pc0 := 1) (pc' := 11) rfl (hb hby d5_1) rfl ((if0 _ _).trans (teq (by decide)).1) (by decide) (by decide) k) ?_
  refine oS (fun t k => XS.aloadN X0.here hx rfl (hb hby d5_11) rfl rfl k) ?_
  obtain ⟨T1, X1, e1, st1⟩ := getF X0 hx hZ hown (host := "") (Or.inl (oW hw 19 rfl)) Via.refl e0 F_sl (g := (mkF m 12 #[.val (.ref a1), .val (.ref (w 2)), .val (.int 0)] [(.ref a1)])) rfl rfl (hb hby d5_12)
  refine oS (fun t k => st1 t k) ?_
  refine oS (fun t k => XS.iconst X1.here hx rfl (hb hby d5_15) k) ?_
  refine oS (fun t k => XS.aloadN X1.here hx rfl (hb hby d5_16) rfl rfl k) ?_
  obtain ⟨cq2, kq2, q2a, q2b, q2c⟩ := isOf hZ e1 ((wE2 W).ext O0.2)
  obtain ⟨_, _, ⟨T2, L2, k2, n2⟩, -, X2, ⟨Lc2, hQ2, l2, y2, z2⟩, st2⟩ := X1.virtualBackUp hx (x := mY4) (y := mY3) hown (mvT hZ (oW hw 34 rfl)) (mvT hZ (oW hw 35 rfl)) (mvT hZ (oW hw 36 rfl)) (by decide) (mvT hZ (oW hw 38 rfl)) (mvT hZ (oW hw 37 rfl)) (backOf (W := 2) (rm_ord_ROOK l Z a0 hw []  w h0 n0 O0 W ) hZ (oW hw 40 rfl) (oW hw 39 rfl) (by decide) (by decide)) q2a q2c (g := (mkF m 17 #[.val (.ref a1), .val (.ref (w 2)), .val (.int 0)] [(.ref (w 2)), (.int 1), (.int p3)])) rfl (by rw [hml]; rfl) (Steps.refl _) (argsL := []) (rest := [(.int 1), (.int p3)]) (lenOf pd_1 rfl) rfl (by show 2 * 0 + _ ≤ _; exact Nat.le_of_eq rfl) (hb hby d5_17) (fun _ _ => ⟨rfl, e1, (by decide : 0 + 0 ≤ _), (by decide : 0 + 0 ≤ _)⟩)
  dsimp only [Pt.U, Pt.locs, Pt.cells, Pt.slots] at X2 l2 y2 z2 st2 hQ2
  subst l2 y2 z2
  obtain ⟨rfl, Nq2, e2⟩ := hQ2
  have N2 := Fr.app N0 Nq2
  refine oS (fun t k => st2.trans k) ?_
  show oG _ _ _ _ _ _ _ (T2.setTop (mkF m 20 #[.val (.ref a1), .val (.ref (w 2)), .val (.int 0)] [(.int 2), (.int 1), (.int p3)]))
  refine oS (fun t k => XS.ishl X2.here hx rfl (hb hby d5_20) rfl k) ?_
  refine oS (fun t k => XS.iand X2.here hx rfl (hb hby d5_21) rfl k) ?_
  refine oS (fun t k => XS.ifYes X2.here hx rfl (pc0 := 22) (pc' := 29) rfl (hb hby d5_22) rfl ((if0 _ _).trans (teq hp).1) (by decide) (by decide) k) ?_
  refine oS (fun t k => XS.iconst X2.here hx rfl (hb hby d5_29) k) ?_
  exact own_ret (v := some (.int 0)) X2 (fun h => by rw [Bd.returns] at h; cases h) Bd.notSynchronized (fun fs hr => retN X2 hx (t := .boolean) Bd.returns (by simp) (hb hby d5_30) hr) (by rw [e2]; exact ⟨rfl, N2, rfl⟩) (by decide) (by decide)
def Q_mv_ROOK_0 (Z : State) (a1 : Addr) (p3 : Int32) (w : Nat → Addr) (h0 : Heap) (n0 : Nat) (v : Option Value) (h : Heap) (L : List Loc) : Prop := v = some (.int 1) ∧ Fr n0 L ∧ h = h0
set_option maxRecDepth 65536 in
set_option maxHeartbeats 40000000 in
theorem rm_mv_ROOK_0 (l : Launch) (Z : State) (a0 : Array Value) (hw : ∀ d ∈ tables_1, d.before a0 Z = true) (ws : List Jvm.Cond) (a1 : Addr) (p3 : Int32) (w : Nat → Addr) (h0 : Heap) (n0 : Nat) (O0 : Old Z n0 h0) (W : own_World Z w) (F_sl : Fld Z h0 a1 "com/example/sixfold/sixfold/rules/Direction" "sliders" "I" (.int p3)) (hp : ¬ ((p3 &&& ((1 : Int32) <<< ((2 : Int32) &&& 31))) = (0 : Int32))) :
    MetFree l mY5 (head1 (Jvm.Cond.code mY5 prog_8_method_3_code 3 (some .boolean) :: ws) ({ frames := 1, cells := 0, slots := 0, locals := 14 } : Room)) (fun a U => a = #[(.ref a1), (.ref (w 2)), (.int 0)] ∧ Z.Warmed39 U.vm ∧ U.heap = h0) (fun _ _ _ _ _ => True) (fun _ U o U' => ∃ v L, o = .returned v ∧ Q_mv_ROOK_0 Z a1 p3 w h0 n0 v U'.heap L ∧ FrameEnd U o U' L ({ frames := 1, cells := 0, slots := 0, locals := 14 } : Room).cells ({ frames := 1, cells := 0, slots := 0, locals := 14 } : Room).slots) := by
  refine MetFree.of_bodySF (plainFor_of_name pn_1) hisR ?_
  intro p e s m args below meth c s₁ Bd hml0 hP hK
  obtain ⟨rfl, hZ, hh⟩ := hP
  have hx := Bd.exec
  have hby := Bd.bytes
  have hml : c.maxLocals = 3 := hml0
  have hown : s.vm.findClass "com/example/sixfold/sixfold/rules/Direction" = some m.cls := findClass_of_methodNamed Bd.named
  have hnm := (name_of_methodNamed Bd.named Bd.method).1
  have X0 : Stand p l e ({ frames := 1, cells := 0, slots := 0, locals := 14 } : Room) s m #[(.ref a1), (.ref (w 2)), (.int 0)] below meth c s₁ [] 0 0 := Stand.of_body Bd
  have e0 : s₁.heap = h0 := by rw [← hh, Bd.state]; rfl
  have N0 := Fr.nil n0
  show oG p e below s (Q_mv_ROOK_0 Z a1 p3 w h0 n0) ({ frames := 1, cells := 0, slots := 0, locals := 14 } : Room).cells ({ frames := 1, cells := 0, slots := 0, locals := 14 } : Room).slots _
  refine oS (fun t k => castTop (ef_5_rri_0 m a1 (w 2)) k) ?_
  show oG _ _ _ _ _ _ _ (s₁.setTop (mkF m 0 #[.val (.ref a1), .val (.ref (w 2)), .val (.int 0)] []))
  refine oS (fun t k => XS.iloadN X0.here hx rfl (hb hby d5_0) rfl k) ?_
  refine oS (fun t k => XS.ifYes X0.here hx rfl (pc0 := 1) (pc' := 11) rfl (hb hby d5_1) rfl ((if0 _ _).trans (teq (by decide)).1) (by decide) (by decide) k) ?_
  refine oS (fun t k => XS.aloadN X0.here hx rfl (hb hby d5_11) rfl rfl k) ?_
  obtain ⟨T1, X1, e1, st1⟩ := getF X0 hx hZ hown (host := "") (Or.inl (oW hw 19 rfl)) Via.refl e0 F_sl (g := (mkF m 12 #[.val (.ref a1), .val (.ref (w 2)), .val (.int 0)] [(.ref a1)])) rfl rfl (hb hby d5_12)
  refine oS (fun t k => st1 t k) ?_
  refine oS (fun t k => XS.iconst X1.here hx rfl (hb hby d5_15) k) ?_
  refine oS (fun t k => XS.aloadN X1.here hx rfl (hb hby d5_16) rfl rfl k) ?_
  obtain ⟨cq2, kq2, q2a, q2b, q2c⟩ := isOf hZ e1 ((wE2 W).ext O0.2)
  obtain ⟨_, _, ⟨T2, L2, k2, n2⟩, -, X2, ⟨Lc2, hQ2, l2, y2, z2⟩, st2⟩ := X1.virtualBackUp hx (x := mY4) (y := mY3) hown (mvT hZ (oW hw 34 rfl)) (mvT hZ (oW hw 35 rfl)) (mvT hZ (oW hw 36 rfl)) (by decide) (mvT hZ (oW hw 38 rfl)) (mvT hZ (oW hw 37 rfl)) (backOf (W := 2) (rm_ord_ROOK l Z a0 hw []  w h0 n0 O0 W ) hZ (oW hw 40 rfl) (oW hw 39 rfl) (by decide) (by decide)) q2a q2c (g := (mkF m 17 #[.val (.ref a1), .val (.ref (w 2)), .val (.int 0)] [(.ref (w 2)), (.int 1), (.int p3)])) rfl (by rw [hml]; rfl) (Steps.refl _) (argsL := []) (rest := [(.int 1), (.int p3)]) (lenOf pd_1 rfl) rfl (by show 2 * 0 + _ ≤ _; exact Nat.le_of_eq rfl) (hb hby d5_17) (fun _ _ => ⟨rfl, e1, (by decide : 0 + 0 ≤ _), (by decide : 0 + 0 ≤ _)⟩)
  dsimp only [Pt.U, Pt.locs, Pt.cells, Pt.slots] at X2 l2 y2 z2 st2 hQ2
  subst l2 y2 z2
  obtain ⟨rfl, Nq2, e2⟩ := hQ2
  have N2 := Fr.app N0 Nq2
  refine oS (fun t k => st2.trans k) ?_
  show oG _ _ _ _ _ _ _ (T2.setTop (mkF m 20 #[.val (.ref a1), .val (.ref (w 2)), .val (.int 0)] [(.int 2), (.int 1), (.int p3)]))
  refine oS (fun t k => XS.ishl X2.here hx rfl (hb hby d5_20) rfl k) ?_
  refine oS (fun t k => XS.iand X2.here hx rfl (hb hby d5_21) rfl k) ?_
  refine oS (fun t k => XS.ifNo X2.here hx rfl (hb hby d5_22) rfl ((if0 _ _).trans (feq hp).1) k) ?_
  refine oS (fun t k => XS.iconst X2.here hx rfl (hb hby d5_25) k) ?_
  refine oS (fun t k => XS.goto X2.here hx rfl (pc0 := 26) (pc' := 30) rfl (hb hby d5_26) (by decide) (by decide) k) ?_
  exact own_ret (v := some (.int 1)) X2 (fun h => by rw [Bd.returns] at h; cases h) Bd.notSynchronized (fun fs hr => retN X2 hx (t := .boolean) Bd.returns (by simp) (hb hby d5_30) hr) (by rw [e2]; exact ⟨rfl, N2, rfl⟩) (by decide) (by decide)
def Q_ord_BISHOP (Z : State)  (w : Nat → Addr) (h0 : Heap) (n0 : Nat) (v : Option Value) (h : Heap) (L : List Loc) : Prop := v = some (.int 3) ∧ Fr n0 L ∧ h = h0
set_option maxRecDepth 65536 in
set_option maxHeartbeats 40000000 in
theorem rm_ord_BISHOP (l : Launch) (Z : State) (a0 : Array Value) (hw : ∀ d ∈ tables_1, d.before a0 Z = true) (ws : List Jvm.Cond)  (w : Nat → Addr) (h0 : Heap) (n0 : Nat) (O0 : Old Z n0 h0) (W : own_World Z w) :
    MetFree l mY3 (head1 (Jvm.Cond.code mY3 jdk_37_method_2_code 1 (some .int) :: ws) ({ frames := 0, cells := 0, slots := 0, locals := 0 } : Room)) (fun a U => a = #[(.ref (w 3))] ∧ Z.Warmed39 U.vm ∧ U.heap = h0) (fun _ _ _ _ _ => True) (fun _ U o U' => ∃ v L, o = .returned v ∧ Q_ord_BISHOP Z  w h0 n0 v U'.heap L ∧ FrameEnd U o U' L ({ frames := 0, cells := 0, slots := 0, locals := 0 } : Room).cells ({ frames := 0, cells := 0, slots := 0, locals := 0 } : Room).slots) := by
  refine MetFree.of_bodySF (plainFor_of_name pn_2) hisR ?_
  intro p e s m args below meth c s₁ Bd hml0 hP hK
  obtain ⟨rfl, hZ, hh⟩ := hP
  have hx := Bd.exec
  have hby := Bd.bytes
  have hml : c.maxLocals = 1 := hml0
  have hown : s.vm.findClass "java/lang/Enum" = some m.cls := findClass_of_methodNamed Bd.named
  have hnm := (name_of_methodNamed Bd.named Bd.method).1
  have X0 : Stand p l e ({ frames := 0, cells := 0, slots := 0, locals := 0 } : Room) s m #[(.ref (w 3))] below meth c s₁ [] 0 0 := Stand.of_body Bd
  have e0 : s₁.heap = h0 := by rw [← hh, Bd.state]; rfl
  have N0 := Fr.nil n0
  show oG p e below s (Q_ord_BISHOP Z  w h0 n0) ({ frames := 0, cells := 0, slots := 0, locals := 0 } : Room).cells ({ frames := 0, cells := 0, slots := 0, locals := 0 } : Room).slots _
  refine oS (fun t k => castTop (ef_6_r m (w 3)) k) ?_
  show oG _ _ _ _ _ _ _ (s₁.setTop (mkF m 0 #[.val (.ref (w 3))] []))
  refine oS (fun t k => XS.aloadN X0.here hx rfl (hb hby d6_0) rfl rfl k) ?_
  obtain ⟨T1, X1, e1, st1⟩ := getF X0 hx hZ hown (host := "") (Or.inl (oW hw 41 rfl)) Via.refl e0 ((wF3_ordinal W).ext O0.2) (g := (mkF m 1 #[.val (.ref (w 3))] [(.ref (w 3))])) rfl rfl (hb hby d6_1)
  refine oS (fun t k => st1 t k) ?_
  exact own_ret (v := some (.int 3)) X1 (fun h => by rw [Bd.returns] at h; cases h) Bd.notSynchronized (fun fs hr => retOut X1 hx (t := .int) Bd.returns rfl (Or.inl ⟨rfl, Or.inl rfl, _, rfl⟩) (hb hby d6_4) hr) (by rw [e1]; exact ⟨rfl, N0, rfl⟩) (by decide) (by decide)
def Q_mv_BISHOP_1 (Z : State) (a1 : Addr) (p3 : Int32) (w : Nat → Addr) (h0 : Heap) (n0 : Nat) (v : Option Value) (h : Heap) (L : List Loc) : Prop := v = some (.int 0) ∧ Fr n0 L ∧ h = h0
set_option maxRecDepth 65536 in
set_option maxHeartbeats 40000000 in
theorem rm_mv_BISHOP_1 (l : Launch) (Z : State) (a0 : Array Value) (hw : ∀ d ∈ tables_1, d.before a0 Z = true) (ws : List Jvm.Cond) (a1 : Addr) (p3 : Int32) (w : Nat → Addr) (h0 : Heap) (n0 : Nat) (O0 : Old Z n0 h0) (W : own_World Z w) (F_sl : Fld Z h0 a1 "com/example/sixfold/sixfold/rules/Direction" "sliders" "I" (.int p3)) (hp : (p3 &&& ((1 : Int32) <<< ((3 : Int32) &&& 31))) = (0 : Int32)) :
    MetFree l mY5 (head1 (Jvm.Cond.code mY5 prog_8_method_3_code 3 (some .boolean) :: ws) ({ frames := 1, cells := 0, slots := 0, locals := 14 } : Room)) (fun a U => a = #[(.ref a1), (.ref (w 3)), (.int 0)] ∧ Z.Warmed39 U.vm ∧ U.heap = h0) (fun _ _ _ _ _ => True) (fun _ U o U' => ∃ v L, o = .returned v ∧ Q_mv_BISHOP_1 Z a1 p3 w h0 n0 v U'.heap L ∧ FrameEnd U o U' L ({ frames := 1, cells := 0, slots := 0, locals := 14 } : Room).cells ({ frames := 1, cells := 0, slots := 0, locals := 14 } : Room).slots) := by
  refine MetFree.of_bodySF (plainFor_of_name pn_1) hisR ?_
  intro p e s m args below meth c s₁ Bd hml0 hP hK
  obtain ⟨rfl, hZ, hh⟩ := hP
  have hx := Bd.exec
  have hby := Bd.bytes
  have hml : c.maxLocals = 3 := hml0
  have hown : s.vm.findClass "com/example/sixfold/sixfold/rules/Direction" = some m.cls := findClass_of_methodNamed Bd.named
  have hnm := (name_of_methodNamed Bd.named Bd.method).1
  have X0 : Stand p l e ({ frames := 1, cells := 0, slots := 0, locals := 14 } : Room) s m #[(.ref a1), (.ref (w 3)), (.int 0)] below meth c s₁ [] 0 0 := Stand.of_body Bd
  have e0 : s₁.heap = h0 := by rw [← hh, Bd.state]; rfl
  have N0 := Fr.nil n0
  show oG p e below s (Q_mv_BISHOP_1 Z a1 p3 w h0 n0) ({ frames := 1, cells := 0, slots := 0, locals := 14 } : Room).cells ({ frames := 1, cells := 0, slots := 0, locals := 14 } : Room).slots _
  refine oS (fun t k => castTop (ef_5_rri_0 m a1 (w 3)) k) ?_
  show oG _ _ _ _ _ _ _ (s₁.setTop (mkF m 0 #[.val (.ref a1), .val (.ref (w 3)), .val (.int 0)] []))
  refine oS (fun t k => XS.iloadN X0.here hx rfl (hb hby d5_0) rfl k) ?_
  refine oS (fun t k => XS.ifYes X0.here hx rfl (pc0 := 1) (pc' := 11) rfl (hb hby d5_1) rfl ((if0 _ _).trans (teq (by decide)).1) (by decide) (by decide) k) ?_
  refine oS (fun t k => XS.aloadN X0.here hx rfl (hb hby d5_11) rfl rfl k) ?_
  obtain ⟨T1, X1, e1, st1⟩ := getF X0 hx hZ hown (host := "") (Or.inl (oW hw 19 rfl)) Via.refl e0 F_sl (g := (mkF m 12 #[.val (.ref a1), .val (.ref (w 3)), .val (.int 0)] [(.ref a1)])) rfl rfl (hb hby d5_12)
  refine oS (fun t k => st1 t k) ?_
  refine oS (fun t k => XS.iconst X1.here hx rfl (hb hby d5_15) k) ?_
  refine oS (fun t k => XS.aloadN X1.here hx rfl (hb hby d5_16) rfl rfl k) ?_
  obtain ⟨cq2, kq2, q2a, q2b, q2c⟩ := isOf hZ e1 ((wE3 W).ext O0.2)
  obtain ⟨_, _, ⟨T2, L2, k2, n2⟩, -, X2, ⟨Lc2, hQ2, l2, y2, z2⟩, st2⟩ := X1.virtualBackUp hx (x := mY4) (y := mY3) hown (mvT hZ (oW hw 34 rfl)) (mvT hZ (oW hw 35 rfl)) (mvT hZ (oW hw 36 rfl)) (by decide) (mvT hZ (oW hw 38 rfl)) (mvT hZ (oW hw 37 rfl)) (backOf (W := 2) (rm_ord_BISHOP l Z a0 hw []  w h0 n0 O0 W ) hZ (oW hw 40 rfl) (oW hw 39 rfl) (by decide) (by decide)) q2a q2c (g := (mkF m 17 #[.val (.ref a1), .val (.ref (w 3)), .val (.int 0)] [(.ref (w 3)), (.int 1), (.int p3)])) rfl (by rw [hml]; rfl) (Steps.refl _) (argsL := []) (rest := [(.int 1), (.int p3)]) (lenOf pd_1 rfl) rfl (by show 2 * 0 + _ ≤ _; exact Nat.le_of_eq rfl) (hb hby d5_17) (fun _ _ => ⟨rfl, e1, (by decide : 0 + 0 ≤ _), (by decide : 0 + 0 ≤ _)⟩)
  dsimp only [Pt.U, Pt.locs, Pt.cells, Pt.slots] at X2 l2 y2 z2 st2 hQ2
  subst l2 y2 z2
  obtain ⟨rfl, Nq2, e2⟩ := hQ2
  have N2 := Fr.app N0 Nq2
  refine oS (fun t k => st2.trans k) ?_
  show oG _ _ _ _ _ _ _ (T2.setTop (mkF m 20 #[.val (.ref a1), .val (.ref (w 3)), .val (.int 0)] [(.int 3), (.int 1), (.int p3)]))
  refine oS (fun t k => XS.ishl X2.here hx rfl (hb hby d5_20) rfl k) ?_
  refine oS (fun t k => XS.iand X2.here hx rfl (hb hby d5_21) rfl k) ?_
  refine oS (fun t k => XS.ifYes X2.here hx rfl (pc0 := 22) (pc' := 29) rfl (hb hby d5_22) rfl ((if0 _ _).trans (teq hp).1) (by decide) (by decide) k) ?_
  refine oS (fun t k => XS.iconst X2.here hx rfl (hb hby d5_29) k) ?_
  exact own_ret (v := some (.int 0)) X2 (fun h => by rw [Bd.returns] at h; cases h) Bd.notSynchronized (fun fs hr => retN X2 hx (t := .boolean) Bd.returns (by simp) (hb hby d5_30) hr) (by rw [e2]; exact ⟨rfl, N2, rfl⟩) (by decide) (by decide)
def Q_mv_BISHOP_0 (Z : State) (a1 : Addr) (p3 : Int32) (w : Nat → Addr) (h0 : Heap) (n0 : Nat) (v : Option Value) (h : Heap) (L : List Loc) : Prop := v = some (.int 1) ∧ Fr n0 L ∧ h = h0
set_option maxRecDepth 65536 in
set_option maxHeartbeats 40000000 in
theorem rm_mv_BISHOP_0 (l : Launch) (Z : State) (a0 : Array Value) (hw : ∀ d ∈ tables_1, d.before a0 Z = true) (ws : List Jvm.Cond) (a1 : Addr) (p3 : Int32) (w : Nat → Addr) (h0 : Heap) (n0 : Nat) (O0 : Old Z n0 h0) (W : own_World Z w) (F_sl : Fld Z h0 a1 "com/example/sixfold/sixfold/rules/Direction" "sliders" "I" (.int p3)) (hp : ¬ ((p3 &&& ((1 : Int32) <<< ((3 : Int32) &&& 31))) = (0 : Int32))) :
    MetFree l mY5 (head1 (Jvm.Cond.code mY5 prog_8_method_3_code 3 (some .boolean) :: ws) ({ frames := 1, cells := 0, slots := 0, locals := 14 } : Room)) (fun a U => a = #[(.ref a1), (.ref (w 3)), (.int 0)] ∧ Z.Warmed39 U.vm ∧ U.heap = h0) (fun _ _ _ _ _ => True) (fun _ U o U' => ∃ v L, o = .returned v ∧ Q_mv_BISHOP_0 Z a1 p3 w h0 n0 v U'.heap L ∧ FrameEnd U o U' L ({ frames := 1, cells := 0, slots := 0, locals := 14 } : Room).cells ({ frames := 1, cells := 0, slots := 0, locals := 14 } : Room).slots) := by
  refine MetFree.of_bodySF (plainFor_of_name pn_1) hisR ?_
  intro p e s m args below meth c s₁ Bd hml0 hP hK
  obtain ⟨rfl, hZ, hh⟩ := hP
  have hx := Bd.exec
  have hby := Bd.bytes
  have hml : c.maxLocals = 3 := hml0
  have hown : s.vm.findClass "com/example/sixfold/sixfold/rules/Direction" = some m.cls := findClass_of_methodNamed Bd.named
  have hnm := (name_of_methodNamed Bd.named Bd.method).1
  have X0 : Stand p l e ({ frames := 1, cells := 0, slots := 0, locals := 14 } : Room) s m #[(.ref a1), (.ref (w 3)), (.int 0)] below meth c s₁ [] 0 0 := Stand.of_body Bd
  have e0 : s₁.heap = h0 := by rw [← hh, Bd.state]; rfl
  have N0 := Fr.nil n0
  show oG p e below s (Q_mv_BISHOP_0 Z a1 p3 w h0 n0) ({ frames := 1, cells := 0, slots := 0, locals := 14 } : Room).cells ({ frames := 1, cells := 0, slots := 0, locals := 14 } : Room).slots _
  refine oS (fun t k => castTop (ef_5_rri_0 m a1 (w 3)) k) ?_
  show oG _ _ _ _ _ _ _ (s₁.setTop (mkF m 0 #[.val (.ref a1), .val (.ref (w 3)), .val (.int 0)] []))
  refine oS (fun t k => XS.iloadN X0.here hx rfl (hb hby d5_0) rfl k) ?_
  refine oS (fun t k => XS.ifYes X0.here hx rfl (pc0 := 1) (pc' := 11) rfl (hb hby d5_1) rfl ((if0 _ _).trans (teq (by decide)).1) (by decide) (by decide) k) ?_
  refine oS (fun t k => XS.aloadN X0.here hx rfl (hb hby d5_11) rfl rfl k) ?_
  obtain ⟨T1, X1, e1, st1⟩ := getF X0 hx hZ hown (host := "") (Or.inl (oW hw 19 rfl)) Via.refl e0 F_sl (g := (mkF m 12 #[.val (.ref a1), .val (.ref (w 3)), .val (.int 0)] [(.ref a1)])) rfl rfl (hb hby d5_12)
  refine oS (fun t k => st1 t k) ?_
  refine oS (fun t k => XS.iconst X1.here hx rfl (hb hby d5_15) k) ?_
  refine oS (fun t k => XS.aloadN X1.here hx rfl (hb hby d5_16) rfl rfl k) ?_
  obtain ⟨cq2, kq2, q2a, q2b, q2c⟩ := isOf hZ e1 ((wE3 W).ext O0.2)
  obtain ⟨_, _, ⟨T2, L2, k2, n2⟩, -, X2, ⟨Lc2, hQ2, l2, y2, z2⟩, st2⟩ := X1.virtualBackUp hx (x := mY4) (y := mY3) hown (mvT hZ (oW hw 34 rfl)) (mvT hZ (oW hw 35 rfl)) (mvT hZ (oW hw 36 rfl)) (by decide) (mvT hZ (oW hw 38 rfl)) (mvT hZ (oW hw 37 rfl)) (backOf (W := 2) (rm_ord_BISHOP l Z a0 hw []  w h0 n0 O0 W ) hZ (oW hw 40 rfl) (oW hw 39 rfl) (by decide) (by decide)) q2a q2c (g := (mkF m 17 #[.val (.ref a1), .val (.ref (w 3)), .val (.int 0)] [(.ref (w 3)), (.int 1), (.int p3)])) rfl (by rw [hml]; rfl) (Steps.refl _) (argsL := []) (rest := [(.int 1), (.int p3)]) (lenOf pd_1 rfl) rfl (by show 2 * 0 + _ ≤ _; exact Nat.le_of_eq rfl) (hb hby d5_17) (fun _ _ => ⟨rfl, e1, (by decide : 0 + 0 ≤ _), (by decide : 0 + 0 ≤ _)⟩)
  dsimp only [Pt.U, Pt.locs, Pt.cells, Pt.slots] at X2 l2 y2 z2 st2 hQ2
  subst l2 y2 z2
  obtain ⟨rfl, Nq2, e2⟩ := hQ2
  have N2 := Fr.app N0 Nq2
  refine oS (fun t k => st2.trans k) ?_
  show oG _ _ _ _ _ _ _ (T2.setTop (mkF m 20 #[.val (.ref a1), .val (.ref (w 3)), .val (.int 0)] [(.int 3), (.int 1), (.int p3)]))
  refine oS (fun t k => XS.ishl X2.here hx rfl (hb hby d5_20) rfl k) ?_
  refine oS (fun t k => XS.iand X2.here hx rfl (hb hby d5_21) rfl k) ?_
  refine oS (fun t k => XS.ifNo X2.here hx rfl (hb hby d5_22) rfl ((if0 _ _).trans (feq hp).1) k) ?_
  refine oS (fun t k => XS.iconst X2.here hx rfl (hb hby d5_25) k) ?_
  refine oS (fun t k => XS.goto X2.here hx rfl (pc0 := 26) (pc' := 30) rfl (hb hby d5_26) (by decide) (by decide) k) ?_
  exact own_ret (v := some (.int 1)) X2 (fun h => by rw [Bd.returns] at h; cases h) Bd.notSynchronized (fun fs hr => retN X2 hx (t := .boolean) Bd.returns (by simp) (hb hby d5_30) hr) (by rw [e2]; exact ⟨rfl, N2, rfl⟩) (by decide) (by decide)
def Q_ord_KNIGHT (Z : State)  (w : Nat → Addr) (h0 : Heap) (n0 : Nat) (v : Option Value) (h : Heap) (L : List Loc) : Prop := v = some (.int 4) ∧ Fr n0 L ∧ h = h0
set_option maxRecDepth 65536 in
set_option maxHeartbeats 40000000 in
theorem rm_ord_KNIGHT (l : Launch) (Z : State) (a0 : Array Value) (hw : ∀ d ∈ tables_1, d.before a0 Z = true) (ws : List Jvm.Cond)  (w : Nat → Addr) (h0 : Heap) (n0 : Nat) (O0 : Old Z n0 h0) (W : own_World Z w) :
    MetFree l mY3 (head1 (Jvm.Cond.code mY3 jdk_37_method_2_code 1 (some .int) :: ws) ({ frames := 0, cells := 0, slots := 0, locals := 0 } : Room)) (fun a U => a = #[(.ref (w 4))] ∧ Z.Warmed39 U.vm ∧ U.heap = h0) (fun _ _ _ _ _ => True) (fun _ U o U' => ∃ v L, o = .returned v ∧ Q_ord_KNIGHT Z  w h0 n0 v U'.heap L ∧ FrameEnd U o U' L ({ frames := 0, cells := 0, slots := 0, locals := 0 } : Room).cells ({ frames := 0, cells := 0, slots := 0, locals := 0 } : Room).slots) := by
  refine MetFree.of_bodySF (plainFor_of_name pn_2) hisR ?_
  intro p e s m args below meth c s₁ Bd hml0 hP hK
  obtain ⟨rfl, hZ, hh⟩ := hP
  have hx := Bd.exec
  have hby := Bd.bytes
  have hml : c.maxLocals = 1 := hml0
  have hown : s.vm.findClass "java/lang/Enum" = some m.cls := findClass_of_methodNamed Bd.named
  have hnm := (name_of_methodNamed Bd.named Bd.method).1
  have X0 : Stand p l e ({ frames := 0, cells := 0, slots := 0, locals := 0 } : Room) s m #[(.ref (w 4))] below meth c s₁ [] 0 0 := Stand.of_body Bd
  have e0 : s₁.heap = h0 := by rw [← hh, Bd.state]; rfl
  have N0 := Fr.nil n0
  show oG p e below s (Q_ord_KNIGHT Z  w h0 n0) ({ frames := 0, cells := 0, slots := 0, locals := 0 } : Room).cells ({ frames := 0, cells := 0, slots := 0, locals := 0 } : Room).slots _
  refine oS (fun t k => castTop (ef_6_r m (w 4)) k) ?_
  show oG _ _ _ _ _ _ _ (s₁.setTop (mkF m 0 #[.val (.ref (w 4))] []))
  refine oS (fun t k => XS.aloadN X0.here hx rfl (hb hby d6_0) rfl rfl k) ?_
  obtain ⟨T1, X1, e1, st1⟩ := getF X0 hx hZ hown (host := "") (Or.inl (oW hw 41 rfl)) Via.refl e0 ((wF4_ordinal W).ext O0.2) (g := (mkF m 1 #[.val (.ref (w 4))] [(.ref (w 4))])) rfl rfl (hb hby d6_1)
  refine oS (fun t k => st1 t k) ?_
  exact own_ret (v := some (.int 4)) X1 (fun h => by rw [Bd.returns] at h; cases h) Bd.notSynchronized (fun fs hr => retOut X1 hx (t := .int) Bd.returns rfl (Or.inl ⟨rfl, Or.inl rfl, _, rfl⟩) (hb hby d6_4) hr) (by rw [e1]; exact ⟨rfl, N0, rfl⟩) (by decide) (by decide)
def Q_mv_KNIGHT_1 (Z : State) (a1 : Addr) (p3 : Int32) (w : Nat → Addr) (h0 : Heap) (n0 : Nat) (v : Option Value) (h : Heap) (L : List Loc) : Prop := v = some (.int 0) ∧ Fr n0 L ∧ h = h0
set_option maxRecDepth 65536 in
set_option maxHeartbeats 40000000 in
theorem rm_mv_KNIGHT_1 (l : Launch) (Z : State) (a0 : Array Value) (hw : ∀ d ∈ tables_1, d.before a0 Z = true) (ws : List Jvm.Cond) (a1 : Addr) (p3 : Int32) (w : Nat → Addr) (h0 : Heap) (n0 : Nat) (O0 : Old Z n0 h0) (W : own_World Z w) (F_sl : Fld Z h0 a1 "com/example/sixfold/sixfold/rules/Direction" "sliders" "I" (.int p3)) (hp : (p3 &&& ((1 : Int32) <<< ((4 : Int32) &&& 31))) = (0 : Int32)) :
    MetFree l mY5 (head1 (Jvm.Cond.code mY5 prog_8_method_3_code 3 (some .boolean) :: ws) ({ frames := 1, cells := 0, slots := 0, locals := 14 } : Room)) (fun a U => a = #[(.ref a1), (.ref (w 4)), (.int 0)] ∧ Z.Warmed39 U.vm ∧ U.heap = h0) (fun _ _ _ _ _ => True) (fun _ U o U' => ∃ v L, o = .returned v ∧ Q_mv_KNIGHT_1 Z a1 p3 w h0 n0 v U'.heap L ∧ FrameEnd U o U' L ({ frames := 1, cells := 0, slots := 0, locals := 14 } : Room).cells ({ frames := 1, cells := 0, slots := 0, locals := 14 } : Room).slots) := by
  refine MetFree.of_bodySF (plainFor_of_name pn_1) hisR ?_
  intro p e s m args below meth c s₁ Bd hml0 hP hK
  obtain ⟨rfl, hZ, hh⟩ := hP
  have hx := Bd.exec
  have hby := Bd.bytes
  have hml : c.maxLocals = 3 := hml0
  have hown : s.vm.findClass "com/example/sixfold/sixfold/rules/Direction" = some m.cls := findClass_of_methodNamed Bd.named
  have hnm := (name_of_methodNamed Bd.named Bd.method).1
  have X0 : Stand p l e ({ frames := 1, cells := 0, slots := 0, locals := 14 } : Room) s m #[(.ref a1), (.ref (w 4)), (.int 0)] below meth c s₁ [] 0 0 := Stand.of_body Bd
  have e0 : s₁.heap = h0 := by rw [← hh, Bd.state]; rfl
  have N0 := Fr.nil n0
  show oG p e below s (Q_mv_KNIGHT_1 Z a1 p3 w h0 n0) ({ frames := 1, cells := 0, slots := 0, locals := 14 } : Room).cells ({ frames := 1, cells := 0, slots := 0, locals := 14 } : Room).slots _
  refine oS (fun t k => castTop (ef_5_rri_0 m a1 (w 4)) k) ?_
  show oG _ _ _ _ _ _ _ (s₁.setTop (mkF m 0 #[.val (.ref a1), .val (.ref (w 4)), .val (.int 0)] []))
  refine oS (fun t k => XS.iloadN X0.here hx rfl (hb hby d5_0) rfl k) ?_
  refine oS (fun t k => XS.ifYes X0.here hx rfl (pc0 := 1) (pc' := 11) rfl (hb hby d5_1) rfl ((if0 _ _).trans (teq (by decide)).1) (by decide) (by decide) k) ?_
  refine oS (fun t k => XS.aloadN X0.here hx rfl (hb hby d5_11) rfl rfl k) ?_
  obtain ⟨T1, X1, e1, st1⟩ := getF X0 hx hZ hown (host := "") (Or.inl (oW hw 19 rfl)) Via.refl e0 F_sl (g := (mkF m 12 #[.val (.ref a1), .val (.ref (w 4)), .val (.int 0)] [(.ref a1)])) rfl rfl (hb hby d5_12)
  refine oS (fun t k => st1 t k) ?_
  refine oS (fun t k => XS.iconst X1.here hx rfl (hb hby d5_15) k) ?_
  refine oS (fun t k => XS.aloadN X1.here hx rfl (hb hby d5_16) rfl rfl k) ?_
  obtain ⟨cq2, kq2, q2a, q2b, q2c⟩ := isOf hZ e1 ((wE4 W).ext O0.2)
  obtain ⟨_, _, ⟨T2, L2, k2, n2⟩, -, X2, ⟨Lc2, hQ2, l2, y2, z2⟩, st2⟩ := X1.virtualBackUp hx (x := mY4) (y := mY3) hown (mvT hZ (oW hw 34 rfl)) (mvT hZ (oW hw 35 rfl)) (mvT hZ (oW hw 36 rfl)) (by decide) (mvT hZ (oW hw 38 rfl)) (mvT hZ (oW hw 37 rfl)) (backOf (W := 2) (rm_ord_KNIGHT l Z a0 hw []  w h0 n0 O0 W ) hZ (oW hw 40 rfl) (oW hw 39 rfl) (by decide) (by decide)) q2a q2c (g := (mkF m 17 #[.val (.ref a1), .val (.ref (w 4)), .val (.int 0)] [(.ref (w 4)), (.int 1), (.int p3)])) rfl (by rw [hml]; rfl) (Steps.refl _) (argsL := []) (rest := [(.int 1), (.int p3)]) (lenOf pd_1 rfl) rfl (by show 2 * 0 + _ ≤ _; exact Nat.le_of_eq rfl) (hb hby d5_17) (fun _ _ => ⟨rfl, e1, (by decide : 0 + 0 ≤ _), (by decide : 0 + 0 ≤ _)⟩)
  dsimp only [Pt.U, Pt.locs, Pt.cells, Pt.slots] at X2 l2 y2 z2 st2 hQ2
  subst l2 y2 z2
  obtain ⟨rfl, Nq2, e2⟩ := hQ2
  have N2 := Fr.app N0 Nq2
  refine oS (fun t k => st2.trans k) ?_
  show oG _ _ _ _ _ _ _ (T2.setTop (mkF m 20 #[.val (.ref a1), .val (.ref (w 4)), .val (.int 0)] [(.int 4), (.int 1), (.int p3)]))
  refine oS (fun t k => XS.ishl X2.here hx rfl (hb hby d5_20) rfl k) ?_
  refine oS (fun t k => XS.iand X2.here hx rfl (hb hby d5_21) rfl k) ?_
  refine oS (fun t k => XS.ifYes X2.here hx rfl (pc0 := 22) (pc' := 29) rfl (hb hby d5_22) rfl ((if0 _ _).trans (teq hp).1) (by decide) (by decide) k) ?_
  refine oS (fun t k => XS.iconst X2.here hx rfl (hb hby d5_29) k) ?_
  exact own_ret (v := some (.int 0)) X2 (fun h => by rw [Bd.returns] at h; cases h) Bd.notSynchronized (fun fs hr => retN X2 hx (t := .boolean) Bd.returns (by simp) (hb hby d5_30) hr) (by rw [e2]; exact ⟨rfl, N2, rfl⟩) (by decide) (by decide)
def Q_mv_KNIGHT_0 (Z : State) (a1 : Addr) (p3 : Int32) (w : Nat → Addr) (h0 : Heap) (n0 : Nat) (v : Option Value) (h : Heap) (L : List Loc) : Prop := v = some (.int 1) ∧ Fr n0 L ∧ h = h0
set_option maxRecDepth 65536 in
set_option maxHeartbeats 40000000 in
theorem rm_mv_KNIGHT_0 (l : Launch) (Z : State) (a0 : Array Value) (hw : ∀ d ∈ tables_1, d.before a0 Z = true) (ws : List Jvm.Cond) (a1 : Addr) (p3 : Int32) (w : Nat → Addr) (h0 : Heap) (n0 : Nat) (O0 : Old Z n0 h0) (W : own_World Z w) (F_sl : Fld Z h0 a1 "com/example/sixfold/sixfold/rules/Direction" "sliders" "I" (.int p3)) (hp : ¬ ((p3 &&& ((1 : Int32) <<< ((4 : Int32) &&& 31))) = (0 : Int32))) :
    MetFree l mY5 (head1 (Jvm.Cond.code mY5 prog_8_method_3_code 3 (some .boolean) :: ws) ({ frames := 1, cells := 0, slots := 0, locals := 14 } : Room)) (fun a U => a = #[(.ref a1), (.ref (w 4)), (.int 0)] ∧ Z.Warmed39 U.vm ∧ U.heap = h0) (fun _ _ _ _ _ => True) (fun _ U o U' => ∃ v L, o = .returned v ∧ Q_mv_KNIGHT_0 Z a1 p3 w h0 n0 v U'.heap L ∧ FrameEnd U o U' L ({ frames := 1, cells := 0, slots := 0, locals := 14 } : Room).cells ({ frames := 1, cells := 0, slots := 0, locals := 14 } : Room).slots) := by
  refine MetFree.of_bodySF (plainFor_of_name pn_1) hisR ?_
  intro p e s m args below meth c s₁ Bd hml0 hP hK
  obtain ⟨rfl, hZ, hh⟩ := hP
  have hx := Bd.exec
  have hby := Bd.bytes
  have hml : c.maxLocals = 3 := hml0
  have hown : s.vm.findClass "com/example/sixfold/sixfold/rules/Direction" = some m.cls := findClass_of_methodNamed Bd.named
  have hnm := (name_of_methodNamed Bd.named Bd.method).1
  have X0 : Stand p l e ({ frames := 1, cells := 0, slots := 0, locals := 14 } : Room) s m #[(.ref a1), (.ref (w 4)), (.int 0)] below meth c s₁ [] 0 0 := Stand.of_body Bd
  have e0 : s₁.heap = h0 := by rw [← hh, Bd.state]; rfl
  have N0 := Fr.nil n0
  show oG p e below s (Q_mv_KNIGHT_0 Z a1 p3 w h0 n0) ({ frames := 1, cells := 0, slots := 0, locals := 14 } : Room).cells ({ frames := 1, cells := 0, slots := 0, locals := 14 } : Room).slots _
  refine oS (fun t k => castTop (ef_5_rri_0 m a1 (w 4)) k) ?_
  show oG _ _ _ _ _ _ _ (s₁.setTop (mkF m 0 #[.val (.ref a1), .val (.ref (w 4)), .val (.int 0)] []))
  refine oS (fun t k => XS.iloadN X0.here hx rfl (hb hby d5_0) rfl k) ?_
  refine oS (fun t k => XS.ifYes X0.here hx rfl (pc0 := 1) (pc' := 11) rfl (hb hby d5_1) rfl ((if0 _ _).trans (teq (by decide)).1) (by decide) (by decide) k) ?_
  refine oS (fun t k => XS.aloadN X0.here hx rfl (hb hby d5_11) rfl rfl k) ?_
  obtain ⟨T1, X1, e1, st1⟩ := getF X0 hx hZ hown (host := "") (Or.inl (oW hw 19 rfl)) Via.refl e0 F_sl (g := (mkF m 12 #[.val (.ref a1), .val (.ref (w 4)), .val (.int 0)] [(.ref a1)])) rfl rfl (hb hby d5_12)
  refine oS (fun t k => st1 t k) ?_
  refine oS (fun t k => XS.iconst X1.here hx rfl (hb hby d5_15) k) ?_
  refine oS (fun t k => XS.aloadN X1.here hx rfl (hb hby d5_16) rfl rfl k) ?_
  obtain ⟨cq2, kq2, q2a, q2b, q2c⟩ := isOf hZ e1 ((wE4 W).ext O0.2)
  obtain ⟨_, _, ⟨T2, L2, k2, n2⟩, -, X2, ⟨Lc2, hQ2, l2, y2, z2⟩, st2⟩ := X1.virtualBackUp hx (x := mY4) (y := mY3) hown (mvT hZ (oW hw 34 rfl)) (mvT hZ (oW hw 35 rfl)) (mvT hZ (oW hw 36 rfl)) (by decide) (mvT hZ (oW hw 38 rfl)) (mvT hZ (oW hw 37 rfl)) (backOf (W := 2) (rm_ord_KNIGHT l Z a0 hw []  w h0 n0 O0 W ) hZ (oW hw 40 rfl) (oW hw 39 rfl) (by decide) (by decide)) q2a q2c (g := (mkF m 17 #[.val (.ref a1), .val (.ref (w 4)), .val (.int 0)] [(.ref (w 4)), (.int 1), (.int p3)])) rfl (by rw [hml]; rfl) (Steps.refl _) (argsL := []) (rest := [(.int 1), (.int p3)]) (lenOf pd_1 rfl) rfl (by show 2 * 0 + _ ≤ _; exact Nat.le_of_eq rfl) (hb hby d5_17) (fun _ _ => ⟨rfl, e1, (by decide : 0 + 0 ≤ _), (by decide : 0 + 0 ≤ _)⟩)
  dsimp only [Pt.U, Pt.locs, Pt.cells, Pt.slots] at X2 l2 y2 z2 st2 hQ2
  subst l2 y2 z2
  obtain ⟨rfl, Nq2, e2⟩ := hQ2
  have N2 := Fr.app N0 Nq2
  refine oS (fun t k => st2.trans k) ?_
  show oG _ _ _ _ _ _ _ (T2.setTop (mkF m 20 #[.val (.ref a1), .val (.ref (w 4)), .val (.int 0)] [(.int 4), (.int 1), (.int p3)]))
  refine oS (fun t k => XS.ishl X2.here hx rfl (hb hby d5_20) rfl k) ?_
  refine oS (fun t k => XS.iand X2.here hx rfl (hb hby d5_21) rfl k) ?_
  refine oS (fun t k => XS.ifNo X2.here hx rfl (hb hby d5_22) rfl ((if0 _ _).trans (feq hp).1) k) ?_
  refine oS (fun t k => XS.iconst X2.here hx rfl (hb hby d5_25) k) ?_
  refine oS (fun t k => XS.goto X2.here hx rfl (pc0 := 26) (pc' := 30) rfl (hb hby d5_26) (by decide) (by decide) k) ?_
  exact own_ret (v := some (.int 1)) X2 (fun h => by rw [Bd.returns] at h; cases h) Bd.notSynchronized (fun fs hr => retN X2 hx (t := .boolean) Bd.returns (by simp) (hb hby d5_30) hr) (by rw [e2]; exact ⟨rfl, N2, rfl⟩) (by decide) (by decide)
def Q_ord_PAWN (Z : State)  (w : Nat → Addr) (h0 : Heap) (n0 : Nat) (v : Option Value) (h : Heap) (L : List Loc) : Prop := v = some (.int 5) ∧ Fr n0 L ∧ h = h0
set_option maxRecDepth 65536 in
set_option maxHeartbeats 40000000 in
theorem rm_ord_PAWN (l : Launch) (Z : State) (a0 : Array Value) (hw : ∀ d ∈ tables_1, d.before a0 Z = true) (ws : List Jvm.Cond)  (w : Nat → Addr) (h0 : Heap) (n0 : Nat) (O0 : Old Z n0 h0) (W : own_World Z w) :
    MetFree l mY3 (head1 (Jvm.Cond.code mY3 jdk_37_method_2_code 1 (some .int) :: ws) ({ frames := 0, cells := 0, slots := 0, locals := 0 } : Room)) (fun a U => a = #[(.ref (w 5))] ∧ Z.Warmed39 U.vm ∧ U.heap = h0) (fun _ _ _ _ _ => True) (fun _ U o U' => ∃ v L, o = .returned v ∧ Q_ord_PAWN Z  w h0 n0 v U'.heap L ∧ FrameEnd U o U' L ({ frames := 0, cells := 0, slots := 0, locals := 0 } : Room).cells ({ frames := 0, cells := 0, slots := 0, locals := 0 } : Room).slots) := by
  refine MetFree.of_bodySF (plainFor_of_name pn_2) hisR ?_
  intro p e s m args below meth c s₁ Bd hml0 hP hK
  obtain ⟨rfl, hZ, hh⟩ := hP
  have hx := Bd.exec
  have hby := Bd.bytes
  have hml : c.maxLocals = 1 := hml0
  have hown : s.vm.findClass "java/lang/Enum" = some m.cls := findClass_of_methodNamed Bd.named
  have hnm := (name_of_methodNamed Bd.named Bd.method).1
  have X0 : Stand p l e ({ frames := 0, cells := 0, slots := 0, locals := 0 } : Room) s m #[(.ref (w 5))] below meth c s₁ [] 0 0 := Stand.of_body Bd
  have e0 : s₁.heap = h0 := by rw [← hh, Bd.state]; rfl
  have N0 := Fr.nil n0
  show oG p e below s (Q_ord_PAWN Z  w h0 n0) ({ frames := 0, cells := 0, slots := 0, locals := 0 } : Room).cells ({ frames := 0, cells := 0, slots := 0, locals := 0 } : Room).slots _
  refine oS (fun t k => castTop (ef_6_r m (w 5)) k) ?_
  show oG _ _ _ _ _ _ _ (s₁.setTop (mkF m 0 #[.val (.ref (w 5))] []))
  refine oS (fun t k => XS.aloadN X0.here hx rfl (hb hby d6_0) rfl rfl k) ?_
  obtain ⟨T1, X1, e1, st1⟩ := getF X0 hx hZ hown (host := "") (Or.inl (oW hw 41 rfl)) Via.refl e0 ((wF5_ordinal W).ext O0.2) (g := (mkF m 1 #[.val (.ref (w 5))] [(.ref (w 5))])) rfl rfl (hb hby d6_1)
  refine oS (fun t k => st1 t k) ?_
  exact own_ret (v := some (.int 5)) X1 (fun h => by rw [Bd.returns] at h; cases h) Bd.notSynchronized (fun fs hr => retOut X1 hx (t := .int) Bd.returns rfl (Or.inl ⟨rfl, Or.inl rfl, _, rfl⟩) (hb hby d6_4) hr) (by rw [e1]; exact ⟨rfl, N0, rfl⟩) (by decide) (by decide)
def Q_mv_PAWN_1 (Z : State) (a1 : Addr) (p3 : Int32) (w : Nat → Addr) (h0 : Heap) (n0 : Nat) (v : Option Value) (h : Heap) (L : List Loc) : Prop := v = some (.int 0) ∧ Fr n0 L ∧ h = h0
set_option maxRecDepth 65536 in
set_option maxHeartbeats 40000000 in
theorem rm_mv_PAWN_1 (l : Launch) (Z : State) (a0 : Array Value) (hw : ∀ d ∈ tables_1, d.before a0 Z = true) (ws : List Jvm.Cond) (a1 : Addr) (p3 : Int32) (w : Nat → Addr) (h0 : Heap) (n0 : Nat) (O0 : Old Z n0 h0) (W : own_World Z w) (F_sl : Fld Z h0 a1 "com/example/sixfold/sixfold/rules/Direction" "sliders" "I" (.int p3)) (hp : (p3 &&& ((1 : Int32) <<< ((5 : Int32) &&& 31))) = (0 : Int32)) :
    MetFree l mY5 (head1 (Jvm.Cond.code mY5 prog_8_method_3_code 3 (some .boolean) :: ws) ({ frames := 1, cells := 0, slots := 0, locals := 14 } : Room)) (fun a U => a = #[(.ref a1), (.ref (w 5)), (.int 0)] ∧ Z.Warmed39 U.vm ∧ U.heap = h0) (fun _ _ _ _ _ => True) (fun _ U o U' => ∃ v L, o = .returned v ∧ Q_mv_PAWN_1 Z a1 p3 w h0 n0 v U'.heap L ∧ FrameEnd U o U' L ({ frames := 1, cells := 0, slots := 0, locals := 14 } : Room).cells ({ frames := 1, cells := 0, slots := 0, locals := 14 } : Room).slots) := by
  refine MetFree.of_bodySF (plainFor_of_name pn_1) hisR ?_
  intro p e s m args below meth c s₁ Bd hml0 hP hK
  obtain ⟨rfl, hZ, hh⟩ := hP
  have hx := Bd.exec
  have hby := Bd.bytes
  have hml : c.maxLocals = 3 := hml0
  have hown : s.vm.findClass "com/example/sixfold/sixfold/rules/Direction" = some m.cls := findClass_of_methodNamed Bd.named
  have hnm := (name_of_methodNamed Bd.named Bd.method).1
  have X0 : Stand p l e ({ frames := 1, cells := 0, slots := 0, locals := 14 } : Room) s m #[(.ref a1), (.ref (w 5)), (.int 0)] below meth c s₁ [] 0 0 := Stand.of_body Bd
  have e0 : s₁.heap = h0 := by rw [← hh, Bd.state]; rfl
  have N0 := Fr.nil n0
  show oG p e below s (Q_mv_PAWN_1 Z a1 p3 w h0 n0) ({ frames := 1, cells := 0, slots := 0, locals := 14 } : Room).cells ({ frames := 1, cells := 0, slots := 0, locals := 14 } : Room).slots _
  refine oS (fun t k => castTop (ef_5_rri_0 m a1 (w 5)) k) ?_
  show oG _ _ _ _ _ _ _ (s₁.setTop (mkF m 0 #[.val (.ref a1), .val (.ref (w 5)), .val (.int 0)] []))
  refine oS (fun t k => XS.iloadN X0.here hx rfl (hb hby d5_0) rfl k) ?_
  refine oS (fun t k => XS.ifYes X0.here hx rfl (pc0 := 1) (pc' := 11) rfl (hb hby d5_1) rfl ((if0 _ _).trans (teq (by decide)).1) (by decide) (by decide) k) ?_
  refine oS (fun t k => XS.aloadN X0.here hx rfl (hb hby d5_11) rfl rfl k) ?_
  obtain ⟨T1, X1, e1, st1⟩ := getF X0 hx hZ hown (host := "") (Or.inl (oW hw 19 rfl)) Via.refl e0 F_sl (g := (mkF m 12 #[.val (.ref a1), .val (.ref (w 5)), .val (.int 0)] [(.ref a1)])) rfl rfl (hb hby d5_12)
  refine oS (fun t k => st1 t k) ?_
  refine oS (fun t k => XS.iconst X1.here hx rfl (hb hby d5_15) k) ?_
  refine oS (fun t k => XS.aloadN X1.here hx rfl (hb hby d5_16) rfl rfl k) ?_
  obtain ⟨cq2, kq2, q2a, q2b, q2c⟩ := isOf hZ e1 ((wE5 W).ext O0.2)
  obtain ⟨_, _, ⟨T2, L2, k2, n2⟩, -, X2, ⟨Lc2, hQ2, l2, y2, z2⟩, st2⟩ := X1.virtualBackUp hx (x := mY4) (y := mY3) hown (mvT hZ (oW hw 34 rfl)) (mvT hZ (oW hw 35 rfl)) (mvT hZ (oW hw 36 rfl)) (by decide) (mvT hZ (oW hw 38 rfl)) (mvT hZ (oW hw 37 rfl)) (backOf (W := 2) (rm_ord_PAWN l Z a0 hw []  w h0 n0 O0 W ) hZ (oW hw 40 rfl) (oW hw 39 rfl) (by decide) (by decide)) q2a q2c (g := (mkF m 17 #[.val (.ref a1), .val (.ref (w 5)), .val (.int 0)] [(.ref (w 5)), (.int 1), (.int p3)])) rfl (by rw [hml]; rfl) (Steps.refl _) (argsL := []) (rest := [(.int 1), (.int p3)]) (lenOf pd_1 rfl) rfl (by show 2 * 0 + _ ≤ _; exact Nat.le_of_eq rfl) (hb hby d5_17) (fun _ _ => ⟨rfl, e1, (by decide : 0 + 0 ≤ _), (by decide : 0 + 0 ≤ _)⟩)
  dsimp only [Pt.U, Pt.locs, Pt.cells, Pt.slots] at X2 l2 y2 z2 st2 hQ2
  subst l2 y2 z2
  obtain ⟨rfl, Nq2, e2⟩ := hQ2
  have N2 := Fr.app N0 Nq2
  refine oS (fun t k => st2.trans k) ?_
  show oG _ _ _ _ _ _ _ (T2.setTop (mkF m 20 #[.val (.ref a1), .val (.ref (w 5)), .val (.int 0)] [(.int 5), (.int 1), (.int p3)]))
  refine oS (fun t k => XS.ishl X2.here hx rfl (hb hby d5_20) rfl k) ?_
  refine oS (fun t k => XS.iand X2.here hx rfl (hb hby d5_21) rfl k) ?_
  refine oS (fun t k => XS.ifYes X2.here hx rfl (pc0 := 22) (pc' := 29) rfl (hb hby d5_22) rfl ((if0 _ _).trans (teq hp).1) (by decide) (by decide) k) ?_
  refine oS (fun t k => XS.iconst X2.here hx rfl (hb hby d5_29) k) ?_
  exact own_ret (v := some (.int 0)) X2 (fun h => by rw [Bd.returns] at h; cases h) Bd.notSynchronized (fun fs hr => retN X2 hx (t := .boolean) Bd.returns (by simp) (hb hby d5_30) hr) (by rw [e2]; exact ⟨rfl, N2, rfl⟩) (by decide) (by decide)
def Q_mv_PAWN_0 (Z : State) (a1 : Addr) (p3 : Int32) (w : Nat → Addr) (h0 : Heap) (n0 : Nat) (v : Option Value) (h : Heap) (L : List Loc) : Prop := v = some (.int 1) ∧ Fr n0 L ∧ h = h0
set_option maxRecDepth 65536 in
set_option maxHeartbeats 40000000 in
theorem rm_mv_PAWN_0 (l : Launch) (Z : State) (a0 : Array Value) (hw : ∀ d ∈ tables_1, d.before a0 Z = true) (ws : List Jvm.Cond) (a1 : Addr) (p3 : Int32) (w : Nat → Addr) (h0 : Heap) (n0 : Nat) (O0 : Old Z n0 h0) (W : own_World Z w) (F_sl : Fld Z h0 a1 "com/example/sixfold/sixfold/rules/Direction" "sliders" "I" (.int p3)) (hp : ¬ ((p3 &&& ((1 : Int32) <<< ((5 : Int32) &&& 31))) = (0 : Int32))) :
    MetFree l mY5 (head1 (Jvm.Cond.code mY5 prog_8_method_3_code 3 (some .boolean) :: ws) ({ frames := 1, cells := 0, slots := 0, locals := 14 } : Room)) (fun a U => a = #[(.ref a1), (.ref (w 5)), (.int 0)] ∧ Z.Warmed39 U.vm ∧ U.heap = h0) (fun _ _ _ _ _ => True) (fun _ U o U' => ∃ v L, o = .returned v ∧ Q_mv_PAWN_0 Z a1 p3 w h0 n0 v U'.heap L ∧ FrameEnd U o U' L ({ frames := 1, cells := 0, slots := 0, locals := 14 } : Room).cells ({ frames := 1, cells := 0, slots := 0, locals := 14 } : Room).slots) := by
  refine MetFree.of_bodySF (plainFor_of_name pn_1) hisR ?_
  intro p e s m args below meth c s₁ Bd hml0 hP hK
  obtain ⟨rfl, hZ, hh⟩ := hP
  have hx := Bd.exec
  have hby := Bd.bytes
  have hml : c.maxLocals = 3 := hml0
  have hown : s.vm.findClass "com/example/sixfold/sixfold/rules/Direction" = some m.cls := findClass_of_methodNamed Bd.named
  have hnm := (name_of_methodNamed Bd.named Bd.method).1
  have X0 : Stand p l e ({ frames := 1, cells := 0, slots := 0, locals := 14 } : Room) s m #[(.ref a1), (.ref (w 5)), (.int 0)] below meth c s₁ [] 0 0 := Stand.of_body Bd
  have e0 : s₁.heap = h0 := by rw [← hh, Bd.state]; rfl
  have N0 := Fr.nil n0
  show oG p e below s (Q_mv_PAWN_0 Z a1 p3 w h0 n0) ({ frames := 1, cells := 0, slots := 0, locals := 14 } : Room).cells ({ frames := 1, cells := 0, slots := 0, locals := 14 } : Room).slots _
  refine oS (fun t k => castTop (ef_5_rri_0 m a1 (w 5)) k) ?_
  show oG _ _ _ _ _ _ _ (s₁.setTop (mkF m 0 #[.val (.ref a1), .val (.ref (w 5)), .val (.int 0)] []))
  refine oS (fun t k => XS.iloadN X0.here hx rfl (hb hby d5_0) rfl k) ?_
  refine oS (fun t k => XS.ifYes X0.here hx rfl (pc0 := 1) (pc' := 11) rfl (hb hby d5_1) rfl ((if0 _ _).trans (teq (by decide)).1) (by decide) (by decide) k) ?_
  refine oS (fun t k => XS.aloadN X0.here hx rfl (hb hby d5_11) rfl rfl k) ?_
  obtain ⟨T1, X1, e1, st1⟩ := getF X0 hx hZ hown (host := "") (Or.inl (oW hw 19 rfl)) Via.refl e0 F_sl (g := (mkF m 12 #[.val (.ref a1), .val (.ref (w 5)), .val (.int 0)] [(.ref a1)])) rfl rfl (hb hby d5_12)
  refine oS (fun t k => st1 t k) ?_
  refine oS (fun t k => XS.iconst X1.here hx rfl (hb hby d5_15) k) ?_
  refine oS (fun t k => XS.aloadN X1.here hx rfl (hb hby d5_16) rfl rfl k) ?_
  obtain ⟨cq2, kq2, q2a, q2b, q2c⟩ := isOf hZ e1 ((wE5 W).ext O0.2)
  obtain ⟨_, _, ⟨T2, L2, k2, n2⟩, -, X2, ⟨Lc2, hQ2, l2, y2, z2⟩, st2⟩ := X1.virtualBackUp hx (x := mY4) (y := mY3) hown (mvT hZ (oW hw 34 rfl)) (mvT hZ (oW hw 35 rfl)) (mvT hZ (oW hw 36 rfl)) (by decide) (mvT hZ (oW hw 38 rfl)) (mvT hZ (oW hw 37 rfl)) (backOf (W := 2) (rm_ord_PAWN l Z a0 hw []  w h0 n0 O0 W ) hZ (oW hw 40 rfl) (oW hw 39 rfl) (by decide) (by decide)) q2a q2c (g := (mkF m 17 #[.val (.ref a1), .val (.ref (w 5)), .val (.int 0)] [(.ref (w 5)), (.int 1), (.int p3)])) rfl (by rw [hml]; rfl) (Steps.refl _) (argsL := []) (rest := [(.int 1), (.int p3)]) (lenOf pd_1 rfl) rfl (by show 2 * 0 + _ ≤ _; exact Nat.le_of_eq rfl) (hb hby d5_17) (fun _ _ => ⟨rfl, e1, (by decide : 0 + 0 ≤ _), (by decide : 0 + 0 ≤ _)⟩)
  dsimp only [Pt.U, Pt.locs, Pt.cells, Pt.slots] at X2 l2 y2 z2 st2 hQ2
  subst l2 y2 z2
  obtain ⟨rfl, Nq2, e2⟩ := hQ2
  have N2 := Fr.app N0 Nq2
  refine oS (fun t k => st2.trans k) ?_
  show oG _ _ _ _ _ _ _ (T2.setTop (mkF m 20 #[.val (.ref a1), .val (.ref (w 5)), .val (.int 0)] [(.int 5), (.int 1), (.int p3)]))
  refine oS (fun t k => XS.ishl X2.here hx rfl (hb hby d5_20) rfl k) ?_
  refine oS (fun t k => XS.iand X2.here hx rfl (hb hby d5_21) rfl k) ?_
  refine oS (fun t k => XS.ifNo X2.here hx rfl (hb hby d5_22) rfl ((if0 _ _).trans (feq hp).1) k) ?_
  refine oS (fun t k => XS.iconst X2.here hx rfl (hb hby d5_25) k) ?_
  refine oS (fun t k => XS.goto X2.here hx rfl (pc0 := 26) (pc' := 30) rfl (hb hby d5_26) (by decide) (by decide) k) ?_
  exact own_ret (v := some (.int 1)) X2 (fun h => by rw [Bd.returns] at h; cases h) Bd.notSynchronized (fun fs hr => retN X2 hx (t := .boolean) Bd.returns (by simp) (hb hby d5_30) hr) (by rw [e2]; exact ⟨rfl, N2, rfl⟩) (by decide) (by decide)
theorem pd_2 : parseMethodDescriptor "([III)V" = some ⟨[(.array .int), .int, .int], none⟩ := by decide +kernel
theorem pd_3 : parseMethodDescriptor "()Z" = some ⟨[], some .boolean⟩ := by decide +kernel
theorem pd_4 : parseMethodDescriptor "(Lcom/example/sixfold/sixfold/rules/Kind;Z)Z" = some ⟨[(.object "com/example/sixfold/sixfold/rules/Kind"), .boolean], some .boolean⟩ := by decide +kernel
theorem ef_0_ii (m : MethodId) (x0 : Int32) (x1 : Int32) : entryFrame m #[(.int x0), (.int x1)] maxLocals = mkF m 0 #[.val (.int x0), .val (.int x1), .unset, .unset, .unset, .unset, .unset] [] := by first | (simp [entryFrame, mkF, argsToLocals, Value.category, maxLocals]; done) | rfl
theorem pn_3 : plainName "com/example/sixfold/sixfold/rules/DirectionIsSlidAlongPinLaw" = true := by first | (simp [plainName, overriddenIn]; done) | decide +kernel
def Q_law (Z : State) (p1 : Int32) (p2 : Int32) (w : Nat → Addr) (h0 : Heap) (n0 : Nat) (v : Option Value) (h : Heap) (L : List Loc) : Prop := v = some (.int 1) ∧ Fr n0 L
set_option maxRecDepth 65536 in
set_option maxHeartbeats 40000000 in
theorem rm_law (l : Launch) (Z : State) (a0 : Array Value) (hw : ∀ d ∈ tables_1, d.before a0 Z = true) (ws : List Jvm.Cond) (p1 : Int32) (p2 : Int32) (w : Nat → Addr) (h0 : Heap) (n0 : Nat) (O0 : Old Z n0 h0) (W : own_World Z w) :
    MetFree l x (head1 (Jvm.Cond.code x code maxLocals ret :: ws) room_1) (fun a U => a = #[(.int p1), (.int p2)] ∧ Z.Warmed39 U.vm ∧ U.heap = h0) (fun _ _ _ _ _ => True) (fun _ U o U' => ∃ v L, o = .returned v ∧ Q_law Z p1 p2 w h0 n0 v U'.heap L ∧ FrameEnd U o U' L room_1.cells room_1.slots) := by
  refine MetFree.of_bodySF (plainFor_of_name pn_3) hisR ?_
  intro p e s m args below meth c s₁ Bd hml0 hP hK
  obtain ⟨rfl, hZ, hh⟩ := hP
  have hx := Bd.exec
  have hby := Bd.bytes
  have hml : c.maxLocals = 7 := hml0
  have hown : s.vm.findClass "com/example/sixfold/sixfold/rules/DirectionIsSlidAlongPinLaw" = some m.cls := findClass_of_methodNamed Bd.named
  have hnm := (name_of_methodNamed Bd.named Bd.method).1
  have X0 : Stand p l e room_1 s m #[(.int p1), (.int p2)] below meth c s₁ [] 0 0 := Stand.of_body Bd
  have e0 : s₁.heap = h0 := by rw [← hh, Bd.state]; rfl
  have N0 := Fr.nil n0
  show oG p e below s (Q_law Z p1 p2 w h0 n0) room_1.cells room_1.slots _
  refine oS (fun t k => castTop (ef_0_ii m p1 p2) k) ?_
  show oG _ _ _ _ _ _ _ (s₁.setTop (mkF m 0 #[.val (.int p1), .val (.int p2), .unset, .unset, .unset, .unset, .unset] []))
  refine oS (fun t k => XS.iloadN X0.here hx rfl (hb hby at_0) rfl k) ?_
  refine oS (fun t k => XS.bipush X0.here hx rfl (hb hby at_1) k) ?_
  refine oS (fun t k => XS.iand X0.here hx rfl (hb hby at_3) rfl k) ?_
  refine oS (fun t k => XS.istoreN X0.here hx rfl (hb hby at_4) rfl (l' := #[.val (.int p1), .val (.int p2), .val (.int (p1 &&& (63 : Int32))), .unset, .unset, .unset, .unset]) rfl k) ?_
  refine oS (fun t k => XS.iloadN X0.here hx rfl (hb hby at_5) rfl k) ?_
  refine oS (fun t k => XS.iloadN X0.here hx rfl (hb hby at_6) rfl k) ?_
  refine oS (fun t k => XS.iand X0.here hx rfl (hb hby at_7) rfl k) ?_
  refine oS (fun t k => XS.istoreN X0.here hx rfl (hb hby at_8) rfl (l' := #[.val (.int p1), .val (.int p2), .val (.int (p1 &&& (63 : Int32))), .val (.int (p2 &&& (p1 &&& (63 : Int32)))), .unset, .unset, .unset]) rfl k) ?_
  obtain ⟨T1, h1, X1, e1, E1, A1, D1, -, st1⟩ := newO X0 hx hZ hown (oW hw 0 rfl) (oW hw 1 rfl) (oW hw 2 rfl) e0 (g := (mkF m 9 #[.val (.int p1), .val (.int p2), .val (.int (p1 &&& (63 : Int32))), .val (.int (p2 &&& (p1 &&& (63 : Int32)))), .unset, .unset, .unset] [])) rfl (hb hby at_9) (by decide) (by decide)
  obtain ⟨b1, g1⟩ : ∃ z, z = h0.size := ⟨_, rfl⟩
  rw [← g1] at A1 D1 st1
  have gx1 : n0 ≤ b1 := Nat.le_trans (O0.1 ▸ O0.2.1) (Nat.le_of_eq g1.symm)
  have O1 := O0.ext E1
  have F_step_b1 : Fld Z h1 b1 "com/example/sixfold/sixfold/rules/Direction" "step" "[I" .null := D1 (Or.inr (oW hw 16 rfl)) (ty := (.array .int)) (by decide)
  have F_kinds_b1 : Fld Z h1 b1 "com/example/sixfold/sixfold/rules/Direction" "kinds" "I" (.int 0) := D1 (Or.inr (oW hw 18 rfl)) (ty := .int) (by decide)
  have F_sliders_b1 : Fld Z h1 b1 "com/example/sixfold/sixfold/rules/Direction" "sliders" "I" (.int 0) := D1 (Or.inr (oW hw 20 rfl)) (ty := .int) (by decide)
  refine oS (fun t k => st1 t k) ?_
  refine oS (fun t k => XS.dup X1.here hx rfl (hb hby at_12) rfl rfl k) ?_
  show oG _ _ _ _ _ _ _ (T1.setTop (mkF m 13 #[.val (.int p1), .val (.int p2), .val (.int (p1 &&& (63 : Int32))), .val (.int (p2 &&& (p1 &&& (63 : Int32)))), .unset, .unset, .unset] [(.ref b1), (.ref b1)]))
  refine oS (fun t k => XS.iconst X1.here hx rfl (hb hby at_13) k) ?_
  obtain ⟨T2, h2, k2, X2, e2, E2, A2, st2⟩ := newP X1 hx hZ (oW hw 3 rfl) e1 (g := (mkF m 14 #[.val (.int p1), .val (.int p2), .val (.int (p1 &&& (63 : Int32))), .val (.int (p2 &&& (p1 &&& (63 : Int32)))), .unset, .unset, .unset] [(.int 2), (.ref b1), (.ref b1)])) rfl (hb hby at_14) rfl (by decide) (cap := 2) (by decide) (by decide) (by decide) (by decide)
  obtain ⟨b2, g2⟩ : ∃ z, z = h1.size := ⟨_, rfl⟩
  rw [← g2] at A2 st2
  have V2 : Arv Z h2 b2 k2 .int (2 : Int32) [(.int 0), (.int 0)] (.int 0) := (Arv.new A2 (by decide)).pad (pad_rep [] (.int 0) 2)
  have gx2 : n0 ≤ b2 := Nat.le_trans (O1.1 ▸ O1.2.1) (Nat.le_of_eq g2.symm)
  have ne_b1_b2 : b1 ≠ b2 := Nat.ne_of_lt (Nat.lt_of_lt_of_le A1.lt (Nat.le_of_eq g2.symm))
  have O2 := O1.ext E2
  refine oS (fun t k => st2 t k) ?_
  refine oS (fun t k => XS.dup X2.here hx rfl (hb hby at_16) rfl rfl k) ?_
  refine oS (fun t k => XS.iconst X2.here hx rfl (hb hby at_17) k) ?_
  refine oS (fun t k => XS.iconst X2.here hx rfl (hb hby at_18) k) ?_
  obtain ⟨cl3, Ar3, q3, Sz3, Ng3, Ha3, Gf3⟩ := V2
  have hin3 : ¬ ((0 : Int32) < 0 ∨ cl3.slots.size ≤ ((0 : Int32)).toNatClampNeg) := inb_of Sz3 ⟨by decide, by decide⟩
  obtain ⟨T4, h4, X4, e4, W4, st4⟩ := stI X2 hx hZ e2 Ar3 (j := (0 : Int32)) hin3 (g := (mkF m 19 #[.val (.int p1), .val (.int p2), .val (.int (p1 &&& (63 : Int32))), .val (.int (p2 &&& (p1 &&& (63 : Int32)))), .unset, .unset, .unset] [(.int 0), (.int 0), (.ref b2), (.ref b2), (.ref b1), (.ref b1)])) rfl rfl (hb hby at_19)
  have O4 := O2.wr W4 gx2
  have N4 := Fr.snoc X4 N0 gx2
  have V4 : Arv Z h4 b2 k2 .int (2 : Int32) [(.int 0), (.int 0)] (.int 0) := Arv.set Ar3 q3 Sz3 Ng3 Ha3 Gf3 rfl W4 0 rfl (Nat.le_of_ble_eq_true rfl)
  refine oS (fun t k => st4 t k) ?_
  refine oS (fun t k => XS.dup X4.here hx rfl (hb hby at_20) rfl rfl k) ?_
  refine oS (fun t k => XS.iconst X4.here hx rfl (hb hby at_21) k) ?_
  refine oS (fun t k => XS.iconst X4.here hx rfl (hb hby at_22) k) ?_
  obtain ⟨cl5, Ar5, q5, Sz5, Ng5, Ha5, Gf5⟩ := V4
  have hin5 : ¬ ((1 : Int32) < 0 ∨ cl5.slots.size ≤ ((1 : Int32)).toNatClampNeg) := inb_of Sz5 ⟨by decide, by decide⟩
  obtain ⟨T6, h6, X6, e6, W6, st6⟩ := stI X4 hx hZ e4 Ar5 (j := (1 : Int32)) hin5 (g := (mkF m 23 #[.val (.int p1), .val (.int p2), .val (.int (p1 &&& (63 : Int32))), .val (.int (p2 &&& (p1 &&& (63 : Int32)))), .unset, .unset, .unset] [(.int 1), (.int 1), (.ref b2), (.ref b2), (.ref b1), (.ref b1)])) rfl rfl (hb hby at_23)
  have O6 := O4.wr W6 gx2
  have N6 := Fr.snoc X6 N4 gx2
  have V6 : Arv Z h6 b2 k2 .int (2 : Int32) [(.int 0), (.int 1)] (.int 0) := Arv.set Ar5 q5 Sz5 Ng5 Ha5 Gf5 rfl W6 1 rfl (Nat.le_of_ble_eq_true rfl)
  refine oS (fun t k => st6 t k) ?_
  show oG _ _ _ _ _ _ _ (T6.setTop (mkF m 24 #[.val (.int p1), .val (.int p2), .val (.int (p1 &&& (63 : Int32))), .val (.int (p2 &&& (p1 &&& (63 : Int32)))), .unset, .unset, .unset] [(.ref b2), (.ref b1), (.ref b1)]))
  refine oS (fun t k => XS.iloadN X6.here hx rfl (hb hby at_24) rfl k) ?_
  refine oS (fun t k => XS.iloadN X6.here hx rfl (hb hby at_25) rfl k) ?_
  obtain ⟨_, _, ⟨T7, L7, k7, n7⟩, -, X7, ⟨Lc7, hQ7, l7, y7, z7⟩, st7⟩ := X6.specialBack hx (y := mY1) rfl hown (mvT hZ (oW hw 4 rfl)) (mvT hZ (oW hw 5 rfl)) (mvT hZ (oW hw 6 rfl)) (by decide) (backOf (W := 1) (rm_init l Z a0 hw [] b1 b2 (p1 &&& (63 : Int32)) (p2 &&& (p1 &&& (63 : Int32))) .null (.int 0) (.int 0) w h6 n0 O6 W (((A1.ext E2).wr W4).wr W6) gx1 (((F_step_b1.ext E2).other W4 (Or.inl ne_b1_b2)).other W6 (Or.inl ne_b1_b2)) (((F_kinds_b1.ext E2).other W4 (Or.inl ne_b1_b2)).other W6 (Or.inl ne_b1_b2)) (((F_sliders_b1.ext E2).other W4 (Or.inl ne_b1_b2)).other W6 (Or.inl ne_b1_b2))) hZ (oW hw 6 rfl) (oW hw 2 rfl) (by decide) (by decide)) (g := (mkF m 26 #[.val (.int p1), .val (.int p2), .val (.int (p1 &&& (63 : Int32))), .val (.int (p2 &&& (p1 &&& (63 : Int32)))), .unset, .unset, .unset] [(.int (p2 &&& (p1 &&& (63 : Int32)))), (.int (p1 &&& (63 : Int32))), (.ref b2), (.ref b1), (.ref b1)])) rfl (by rw [hml]; rfl) (Steps.refl _) (a := b1) (argsL := [(.ref b2), (.int (p1 &&& (63 : Int32))), (.int (p2 &&& (p1 &&& (63 : Int32))))]) (rest := [(.ref b1)]) (lenOf pd_2 rfl) rfl (by show 2 * 0 + _ ≤ _; exact Nat.le_of_eq rfl) (hb hby at_26) (fun _ _ => ⟨rfl, e6, (by decide : 2 + 0 ≤ _), (by decide : 5 + 0 ≤ _)⟩)
  dsimp only [Pt.U, Pt.locs, Pt.cells, Pt.slots] at X7 l7 y7 z7 st7 hQ7
  subst l7 y7 z7
  obtain ⟨rfl, Nq7, K7, P7_0, P7_1, P7_2, P7_3⟩ := hQ7
  have N7 := Fr.app N6 Nq7
  have O7 := O6.keep K7 (allS gx1 all0)
  refine oS (fun t k => st7.trans k) ?_
  show oG _ _ _ _ _ _ _ (T7.setTop (mkF m 29 #[.val (.int p1), .val (.int p2), .val (.int (p1 &&& (63 : Int32))), .val (.int (p2 &&& (p1 &&& (63 : Int32)))), .unset, .unset, .unset] [(.ref b1)]))
  refine oS (fun t k => XS.astore X7.here hx rfl (hb hby at_29) rfl rfl (l' := #[.val (.int p1), .val (.int p2), .val (.int (p1 &&& (63 : Int32))), .val (.int (p2 &&& (p1 &&& (63 : Int32)))), .val (.ref b1), .unset, .unset]) rfl k) ?_
  refine oS (fun t k => XS.aload X7.here hx rfl (hb hby at_31) rfl rfl k) ?_
  by_cases hS : (p2 &&& (p1 &&& (63 : Int32))) = (0 : Int32)
  · obtain ⟨cq8, kq8, q8a, q8b, q8c⟩ := isOf hZ rfl P7_0
    obtain ⟨_, _, ⟨T8, L8, k8, n8⟩, -, X8, ⟨Lc8, hQ8, l8, y8, z8⟩, st8⟩ := X7.virtualBack hx (y := mY2) (z := mY2) hown (mvT hZ (oW hw 21 rfl)) (mvT hZ (oW hw 22 rfl)) (notFace_of_selects (args := #[]) (mvT hZ (oW hw 24 rfl))) (mvT hZ (oW hw 24 rfl)) (mvT hZ (oW hw 23 rfl)) (by decide) (backOf (W := 0) (rm_slid_1 l Z a0 hw [] b1 (p2 &&& (p1 &&& (63 : Int32)))  T7.heap n0 O7  P7_3 hS) hZ (oW hw 25 rfl) (oW hw 2 rfl) (by decide) (by decide)) q8a q8c (g := (mkF m 33 #[.val (.int p1), .val (.int p2), .val (.int (p1 &&& (63 : Int32))), .val (.int (p2 &&& (p1 &&& (63 : Int32)))), .val (.ref b1), .unset, .unset] [(.ref b1)])) rfl (by rw [hml]; rfl) (Steps.refl _) (argsL := []) (rest := []) (lenOf pd_3 rfl) rfl (by show 2 * 0 + _ ≤ _; exact Nat.le_of_eq rfl) (hb hby at_33) (fun _ _ => ⟨rfl, rfl, (by decide : 2 + 0 ≤ _), (by decide : 5 + 0 ≤ _)⟩)
    dsimp only [Pt.U, Pt.locs, Pt.cells, Pt.slots] at X8 l8 y8 z8 st8 hQ8
    subst l8 y8 z8
    obtain ⟨rfl, Nq8, e8⟩ := hQ8
    have N8 := Fr.app N7 Nq8
    refine oS (fun t k => st8.trans k) ?_
    show oG _ _ _ _ _ _ _ (T8.setTop (mkF m 36 #[.val (.int p1), .val (.int p2), .val (.int (p1 &&& (63 : Int32))), .val (.int (p2 &&& (p1 &&& (63 : Int32)))), .val (.ref b1), .unset, .unset] [(.int 0)]))
    refine oS (fun t k => XS.istore X8.here hx rfl (hb hby at_36) rfl (l' := #[.val (.int p1), .val (.int p2), .val (.int (p1 &&& (63 : Int32))), .val (.int (p2 &&& (p1 &&& (63 : Int32)))), .val (.ref b1), .val (.int 0), .unset]) rfl k) ?_
    refine oS (fun t k => XS.aload X8.here hx rfl (hb hby at_38) rfl rfl k) ?_
    obtain ⟨T9, X9, e9, st9⟩ := getS2 X8 hx hZ hown (host := "") (Or.inl (oW hw 26 rfl)) Via.refl e8 ((wS0 W).ext O7.2) (g := (mkF m 40 #[.val (.int p1), .val (.int p2), .val (.int (p1 &&& (63 : Int32))), .val (.int (p2 &&& (p1 &&& (63 : Int32)))), .val (.ref b1), .val (.int 0), .unset] [(.ref b1)])) rfl (hb hby at_40)
    refine oS (fun t k => st9 t k) ?_
    refine oS (fun t k => XS.iconst X9.here hx rfl (hb hby at_43) k) ?_
    have hb0 : ((p2 &&& (p1 &&& (63 : Int32))) &&& ((1 : Int32) <<< ((0 : Int32) &&& 31))) = (0 : Int32) := own_z0 hS
    obtain ⟨cq10, kq10, q10a, q10b, q10c⟩ := isOf hZ e9 P7_0
    obtain ⟨_, _, ⟨T10, L10, k10, n10⟩, -, X10, ⟨Lc10, hQ10, l10, y10, z10⟩, st10⟩ := X9.virtualBack hx (y := mY5) (z := mY5) hown (mvT hZ (oW hw 29 rfl)) (mvT hZ (oW hw 30 rfl)) (notFace_of_selects (args := #[]) (mvT hZ (oW hw 32 rfl))) (mvT hZ (oW hw 32 rfl)) (mvT hZ (oW hw 31 rfl)) (by decide) (backOf (W := 0) (rm_mv_KING_1 l Z a0 hw [] b1 (p2 &&& (p1 &&& (63 : Int32))) w T7.heap n0 O7 W P7_3 hb0) hZ (oW hw 33 rfl) (oW hw 2 rfl) (by decide) (by decide)) q10a q10c (g := (mkF m 44 #[.val (.int p1), .val (.int p2), .val (.int (p1 &&& (63 : Int32))), .val (.int (p2 &&& (p1 &&& (63 : Int32)))), .val (.ref b1), .val (.int 0), .unset] [(.int 0), (.ref (w 0)), (.ref b1)])) rfl (by rw [hml]; rfl) (Steps.refl _) (argsL := [(.ref (w 0)), (.int 0)]) (rest := []) (lenOf pd_4 rfl) rfl (by show 2 * 0 + _ ≤ _; exact Nat.le_of_eq rfl) (hb hby at_44) (fun _ _ => ⟨rfl, e9, (by decide : 2 + 0 ≤ _), (by decide : 5 + 0 ≤ _)⟩)
    dsimp only [Pt.U, Pt.locs, Pt.cells, Pt.slots] at X10 l10 y10 z10 st10 hQ10
    subst l10 y10 z10
    obtain ⟨rfl, Nq10, e10⟩ := hQ10
    have N10 := Fr.app N8 Nq10
    refine oS (fun t k => st10.trans k) ?_
    show oG _ _ _ _ _ _ _ (T10.setTop (mkF m 47 #[.val (.int p1), .val (.int p2), .val (.int (p1 &&& (63 : Int32))), .val (.int (p2 &&& (p1 &&& (63 : Int32)))), .val (.ref b1), .val (.int 0), .unset] [(.int 0)]))
    refine oS (fun t k => XS.ifNo X10.here hx rfl (hb hby at_47) rfl ((if0 _ _).trans (teq (by decide)).2) k) ?_
    refine oS (fun t k => XS.aload X10.here hx rfl (hb hby at_50) rfl rfl k) ?_
    obtain ⟨T11, X11, e11, st11⟩ := getS2 X10 hx hZ hown (host := "") (Or.inl (oW hw 43 rfl)) Via.refl e10 ((wS1 W).ext O7.2) (g := (mkF m 52 #[.val (.int p1), .val (.int p2), .val (.int (p1 &&& (63 : Int32))), .val (.int (p2 &&& (p1 &&& (63 : Int32)))), .val (.ref b1), .val (.int 0), .unset] [(.ref b1)])) rfl (hb hby at_52)
    refine oS (fun t k => st11 t k) ?_
    refine oS (fun t k => XS.iconst X11.here hx rfl (hb hby at_55) k) ?_
    have hb1 : ((p2 &&& (p1 &&& (63 : Int32))) &&& ((1 : Int32) <<< ((1 : Int32) &&& 31))) = (0 : Int32) := own_z1 hS
    obtain ⟨cq12, kq12, q12a, q12b, q12c⟩ := isOf hZ e11 P7_0
    obtain ⟨_, _, ⟨T12, L12, k12, n12⟩, -, X12, ⟨Lc12, hQ12, l12, y12, z12⟩, st12⟩ := X11.virtualBack hx (y := mY5) (z := mY5) hown (mvT hZ (oW hw 29 rfl)) (mvT hZ (oW hw 30 rfl)) (notFace_of_selects (args := #[]) (mvT hZ (oW hw 32 rfl))) (mvT hZ (oW hw 32 rfl)) (mvT hZ (oW hw 31 rfl)) (by decide) (backOf (W := 0) (rm_mv_QUEEN_1 l Z a0 hw [] b1 (p2 &&& (p1 &&& (63 : Int32))) w T7.heap n0 O7 W P7_3 hb1) hZ (oW hw 33 rfl) (oW hw 2 rfl) (by decide) (by decide)) q12a q12c (g := (mkF m 56 #[.val (.int p1), .val (.int p2), .val (.int (p1 &&& (63 : Int32))), .val (.int (p2 &&& (p1 &&& (63 : Int32)))), .val (.ref b1), .val (.int 0), .unset] [(.int 0), (.ref (w 1)), (.ref b1)])) rfl (by rw [hml]; rfl) (Steps.refl _) (argsL := [(.ref (w 1)), (.int 0)]) (rest := []) (lenOf pd_4 rfl) rfl (by show 2 * 0 + _ ≤ _; exact Nat.le_of_eq rfl) (hb hby at_56) (fun _ _ => ⟨rfl, e11, (by decide : 2 + 0 ≤ _), (by decide : 5 + 0 ≤ _)⟩)
    dsimp only [Pt.U, Pt.locs, Pt.cells, Pt.slots] at X12 l12 y12 z12 st12 hQ12
    subst l12 y12 z12
    obtain ⟨rfl, Nq12, e12⟩ := hQ12
    have N12 := Fr.app N10 Nq12
    refine oS (fun t k => st12.trans k) ?_
    show oG _ _ _ _ _ _ _ (T12.setTop (mkF m 59 #[.val (.int p1), .val (.int p2), .val (.int (p1 &&& (63 : Int32))), .val (.int (p2 &&& (p1 &&& (63 : Int32)))), .val (.ref b1), .val (.int 0), .unset] [(.int 0)]))
    refine oS (fun t k => XS.ifNo X12.here hx rfl (hb hby at_59) rfl ((if0 _ _).trans (teq (by decide)).2) k) ?_
    refine oS (fun t k => XS.aload X12.here hx rfl (hb hby at_62) rfl rfl k) ?_
    obtain ⟨T13, X13, e13, st13⟩ := getS2 X12 hx hZ hown (host := "") (Or.inl (oW hw 45 rfl)) Via.refl e12 ((wS2 W).ext O7.2) (g := (mkF m 64 #[.val (.int p1), .val (.int p2), .val (.int (p1 &&& (63 : Int32))), .val (.int (p2 &&& (p1 &&& (63 : Int32)))), .val (.ref b1), .val (.int 0), .unset] [(.ref b1)])) rfl (hb hby at_64)
    refine oS (fun t k => st13 t k) ?_
    refine oS (fun t k => XS.iconst X13.here hx rfl (hb hby at_67) k) ?_
    have hb2 : ((p2 &&& (p1 &&& (63 : Int32))) &&& ((1 : Int32) <<< ((2 : Int32) &&& 31))) = (0 : Int32) := own_z2 hS
    obtain ⟨cq14, kq14, q14a, q14b, q14c⟩ := isOf hZ e13 P7_0
    obtain ⟨_, _, ⟨T14, L14, k14, n14⟩, -, X14, ⟨Lc14, hQ14, l14, y14, z14⟩, st14⟩ := X13.virtualBack hx (y := mY5) (z := mY5) hown (mvT hZ (oW hw 29 rfl)) (mvT hZ (oW hw 30 rfl)) (notFace_of_selects (args := #[]) (mvT hZ (oW hw 32 rfl))) (mvT hZ (oW hw 32 rfl)) (mvT hZ (oW hw 31 rfl)) (by decide) (backOf (W := 0) (rm_mv_ROOK_1 l Z a0 hw [] b1 (p2 &&& (p1 &&& (63 : Int32))) w T7.heap n0 O7 W P7_3 hb2) hZ (oW hw 33 rfl) (oW hw 2 rfl) (by decide) (by decide)) q14a q14c (g := (mkF m 68 #[.val (.int p1), .val (.int p2), .val (.int (p1 &&& (63 : Int32))), .val (.int (p2 &&& (p1 &&& (63 : Int32)))), .val (.ref b1), .val (.int 0), .unset] [(.int 0), (.ref (w 2)), (.ref b1)])) rfl (by rw [hml]; rfl) (Steps.refl _) (argsL := [(.ref (w 2)), (.int 0)]) (rest := []) (lenOf pd_4 rfl) rfl (by show 2 * 0 + _ ≤ _; exact Nat.le_of_eq rfl) (hb hby at_68) (fun _ _ => ⟨rfl, e13, (by decide : 2 + 0 ≤ _), (by decide : 5 + 0 ≤ _)⟩)
    dsimp only [Pt.U, Pt.locs, Pt.cells, Pt.slots] at X14 l14 y14 z14 st14 hQ14
    subst l14 y14 z14
    obtain ⟨rfl, Nq14, e14⟩ := hQ14
    have N14 := Fr.app N12 Nq14
    refine oS (fun t k => st14.trans k) ?_
    show oG _ _ _ _ _ _ _ (T14.setTop (mkF m 71 #[.val (.int p1), .val (.int p2), .val (.int (p1 &&& (63 : Int32))), .val (.int (p2 &&& (p1 &&& (63 : Int32)))), .val (.ref b1), .val (.int 0), .unset] [(.int 0)]))
    refine oS (fun t k => XS.ifNo X14.here hx rfl (hb hby at_71) rfl ((if0 _ _).trans (teq (by decide)).2) k) ?_
    refine oS (fun t k => XS.aload X14.here hx rfl (hb hby at_74) rfl rfl k) ?_
    obtain ⟨T15, X15, e15, st15⟩ := getS2 X14 hx hZ hown (host := "") (Or.inl (oW hw 47 rfl)) Via.refl e14 ((wS3 W).ext O7.2) (g := (mkF m 76 #[.val (.int p1), .val (.int p2), .val (.int (p1 &&& (63 : Int32))), .val (.int (p2 &&& (p1 &&& (63 : Int32)))), .val (.ref b1), .val (.int 0), .unset] [(.ref b1)])) rfl (hb hby at_76)
    refine oS (fun t k => st15 t k) ?_
    refine oS (fun t k => XS.iconst X15.here hx rfl (hb hby at_79) k) ?_
    have hb3 : ((p2 &&& (p1 &&& (63 : Int32))) &&& ((1 : Int32) <<< ((3 : Int32) &&& 31))) = (0 : Int32) := own_z3 hS
    obtain ⟨cq16, kq16, q16a, q16b, q16c⟩ := isOf hZ e15 P7_0
    obtain ⟨_, _, ⟨T16, L16, k16, n16⟩, -, X16, ⟨Lc16, hQ16, l16, y16, z16⟩, st16⟩ := X15.virtualBack hx (y := mY5) (z := mY5) hown (mvT hZ (oW hw 29 rfl)) (mvT hZ (oW hw 30 rfl)) (notFace_of_selects (args := #[]) (mvT hZ (oW hw 32 rfl))) (mvT hZ (oW hw 32 rfl)) (mvT hZ (oW hw 31 rfl)) (by decide) (backOf (W := 0) (rm_mv_BISHOP_1 l Z a0 hw [] b1 (p2 &&& (p1 &&& (63 : Int32))) w T7.heap n0 O7 W P7_3 hb3) hZ (oW hw 33 rfl) (oW hw 2 rfl) (by decide) (by decide)) q16a q16c (g := (mkF m 80 #[.val (.int p1), .val (.int p2), .val (.int (p1 &&& (63 : Int32))), .val (.int (p2 &&& (p1 &&& (63 : Int32)))), .val (.ref b1), .val (.int 0), .unset] [(.int 0), (.ref (w 3)), (.ref b1)])) rfl (by rw [hml]; rfl) (Steps.refl _) (argsL := [(.ref (w 3)), (.int 0)]) (rest := []) (lenOf pd_4 rfl) rfl (by show 2 * 0 + _ ≤ _; exact Nat.le_of_eq rfl) (hb hby at_80) (fun _ _ => ⟨rfl, e15, (by decide : 2 + 0 ≤ _), (by decide : 5 + 0 ≤ _)⟩)
    dsimp only [Pt.U, Pt.locs, Pt.cells, Pt.slots] at X16 l16 y16 z16 st16 hQ16
    subst l16 y16 z16
    obtain ⟨rfl, Nq16, e16⟩ := hQ16
    have N16 := Fr.app N14 Nq16
    refine oS (fun t k => st16.trans k) ?_
    show oG _ _ _ _ _ _ _ (T16.setTop (mkF m 83 #[.val (.int p1), .val (.int p2), .val (.int (p1 &&& (63 : Int32))), .val (.int (p2 &&& (p1 &&& (63 : Int32)))), .val (.ref b1), .val (.int 0), .unset] [(.int 0)]))
    refine oS (fun t k => XS.ifNo X16.here hx rfl (hb hby at_83) rfl ((if0 _ _).trans (teq (by decide)).2) k) ?_
    refine oS (fun t k => XS.aload X16.here hx rfl (hb hby at_86) rfl rfl k) ?_
    obtain ⟨T17, X17, e17, st17⟩ := getS2 X16 hx hZ hown (host := "") (Or.inl (oW hw 49 rfl)) Via.refl e16 ((wS4 W).ext O7.2) (g := (mkF m 88 #[.val (.int p1), .val (.int p2), .val (.int (p1 &&& (63 : Int32))), .val (.int (p2 &&& (p1 &&& (63 : Int32)))), .val (.ref b1), .val (.int 0), .unset] [(.ref b1)])) rfl (hb hby at_88)
    refine oS (fun t k => st17 t k) ?_
    refine oS (fun t k => XS.iconst X17.here hx rfl (hb hby at_91) k) ?_
    have hb4 : ((p2 &&& (p1 &&& (63 : Int32))) &&& ((1 : Int32) <<< ((4 : Int32) &&& 31))) = (0 : Int32) := own_z4 hS
    obtain ⟨cq18, kq18, q18a, q18b, q18c⟩ := isOf hZ e17 P7_0
    obtain ⟨_, _, ⟨T18, L18, k18, n18⟩, -, X18, ⟨Lc18, hQ18, l18, y18, z18⟩, st18⟩ := X17.virtualBack hx (y := mY5) (z := mY5) hown (mvT hZ (oW hw 29 rfl)) (mvT hZ (oW hw 30 rfl)) (notFace_of_selects (args := #[]) (mvT hZ (oW hw 32 rfl))) (mvT hZ (oW hw 32 rfl)) (mvT hZ (oW hw 31 rfl)) (by decide) (backOf (W := 0) (rm_mv_KNIGHT_1 l Z a0 hw [] b1 (p2 &&& (p1 &&& (63 : Int32))) w T7.heap n0 O7 W P7_3 hb4) hZ (oW hw 33 rfl) (oW hw 2 rfl) (by decide) (by decide)) q18a q18c (g := (mkF m 92 #[.val (.int p1), .val (.int p2), .val (.int (p1 &&& (63 : Int32))), .val (.int (p2 &&& (p1 &&& (63 : Int32)))), .val (.ref b1), .val (.int 0), .unset] [(.int 0), (.ref (w 4)), (.ref b1)])) rfl (by rw [hml]; rfl) (Steps.refl _) (argsL := [(.ref (w 4)), (.int 0)]) (rest := []) (lenOf pd_4 rfl) rfl (by show 2 * 0 + _ ≤ _; exact Nat.le_of_eq rfl) (hb hby at_92) (fun _ _ => ⟨rfl, e17, (by decide : 2 + 0 ≤ _), (by decide : 5 + 0 ≤ _)⟩)
    dsimp only [Pt.U, Pt.locs, Pt.cells, Pt.slots] at X18 l18 y18 z18 st18 hQ18
    subst l18 y18 z18
    obtain ⟨rfl, Nq18, e18⟩ := hQ18
    have N18 := Fr.app N16 Nq18
    refine oS (fun t k => st18.trans k) ?_
    show oG _ _ _ _ _ _ _ (T18.setTop (mkF m 95 #[.val (.int p1), .val (.int p2), .val (.int (p1 &&& (63 : Int32))), .val (.int (p2 &&& (p1 &&& (63 : Int32)))), .val (.ref b1), .val (.int 0), .unset] [(.int 0)]))
    refine oS (fun t k => XS.ifNo X18.here hx rfl (hb hby at_95) rfl ((if0 _ _).trans (teq (by decide)).2) k) ?_
    refine oS (fun t k => XS.aload X18.here hx rfl (hb hby at_98) rfl rfl k) ?_
    obtain ⟨T19, X19, e19, st19⟩ := getS2 X18 hx hZ hown (host := "") (Or.inl (oW hw 51 rfl)) Via.refl e18 ((wS5 W).ext O7.2) (g := (mkF m 100 #[.val (.int p1), .val (.int p2), .val (.int (p1 &&& (63 : Int32))), .val (.int (p2 &&& (p1 &&& (63 : Int32)))), .val (.ref b1), .val (.int 0), .unset] [(.ref b1)])) rfl (hb hby at_100)
    refine oS (fun t k => st19 t k) ?_
    refine oS (fun t k => XS.iconst X19.here hx rfl (hb hby at_103) k) ?_
    have hb5 : ((p2 &&& (p1 &&& (63 : Int32))) &&& ((1 : Int32) <<< ((5 : Int32) &&& 31))) = (0 : Int32) := own_z5 hS
    obtain ⟨cq20, kq20, q20a, q20b, q20c⟩ := isOf hZ e19 P7_0
    obtain ⟨_, _, ⟨T20, L20, k20, n20⟩, -, X20, ⟨Lc20, hQ20, l20, y20, z20⟩, st20⟩ := X19.virtualBack hx (y := mY5) (z := mY5) hown (mvT hZ (oW hw 29 rfl)) (mvT hZ (oW hw 30 rfl)) (notFace_of_selects (args := #[]) (mvT hZ (oW hw 32 rfl))) (mvT hZ (oW hw 32 rfl)) (mvT hZ (oW hw 31 rfl)) (by decide) (backOf (W := 0) (rm_mv_PAWN_1 l Z a0 hw [] b1 (p2 &&& (p1 &&& (63 : Int32))) w T7.heap n0 O7 W P7_3 hb5) hZ (oW hw 33 rfl) (oW hw 2 rfl) (by decide) (by decide)) q20a q20c (g := (mkF m 104 #[.val (.int p1), .val (.int p2), .val (.int (p1 &&& (63 : Int32))), .val (.int (p2 &&& (p1 &&& (63 : Int32)))), .val (.ref b1), .val (.int 0), .unset] [(.int 0), (.ref (w 5)), (.ref b1)])) rfl (by rw [hml]; rfl) (Steps.refl _) (argsL := [(.ref (w 5)), (.int 0)]) (rest := []) (lenOf pd_4 rfl) rfl (by show 2 * 0 + _ ≤ _; exact Nat.le_of_eq rfl) (hb hby at_104) (fun _ _ => ⟨rfl, e19, (by decide : 2 + 0 ≤ _), (by decide : 5 + 0 ≤ _)⟩)
    dsimp only [Pt.U, Pt.locs, Pt.cells, Pt.slots] at X20 l20 y20 z20 st20 hQ20
    subst l20 y20 z20
    obtain ⟨rfl, Nq20, e20⟩ := hQ20
    have N20 := Fr.app N18 Nq20
    refine oS (fun t k => st20.trans k) ?_
    show oG _ _ _ _ _ _ _ (T20.setTop (mkF m 107 #[.val (.int p1), .val (.int p2), .val (.int (p1 &&& (63 : Int32))), .val (.int (p2 &&& (p1 &&& (63 : Int32)))), .val (.ref b1), .val (.int 0), .unset] [(.int 0)]))
    refine oS (fun t k => XS.ifYes X20.here hx rfl (pc0 := 107) (pc' := 114) rfl (hb hby at_107) rfl ((if0 _ _).trans (teq (by decide)).1) (by decide) (by decide) k) ?_
    refine oS (fun t k => XS.iconst X20.here hx rfl (hb hby at_114) k) ?_
    refine oS (fun t k => XS.istore X20.here hx rfl (hb hby at_115) rfl (l' := #[.val (.int p1), .val (.int p2), .val (.int (p1 &&& (63 : Int32))), .val (.int (p2 &&& (p1 &&& (63 : Int32)))), .val (.ref b1), .val (.int 0), .val (.int 0)]) rfl k) ?_
    refine oS (fun t k => XS.iload X20.here hx rfl (hb hby at_117) rfl k) ?_
    refine oS (fun t k => XS.iload X20.here hx rfl (hb hby at_119) rfl k) ?_
    refine oS (fun t k => XS.icmpNo X20.here hx rfl (hb hby at_121) rfl (teq (by decide)).2 k) ?_
    refine oS (fun t k => XS.iconst X20.here hx rfl (hb hby at_124) k) ?_
    refine oS (fun t k => XS.goto X20.here hx rfl (pc0 := 125) (pc' := 129) rfl (hb hby at_125) (by decide) (by decide) k) ?_
    exact own_ret (v := some (.int 1)) X20 (fun h => by rw [Bd.returns] at h; cases h) Bd.notSynchronized (fun fs hr => retN X20 hx (t := .boolean) Bd.returns (by simp) (hb hby at_129) hr) (by rw [e20]; exact ⟨rfl, N20⟩) (by decide) (by decide)
  · obtain ⟨cq21, kq21, q21a, q21b, q21c⟩ := isOf hZ rfl P7_0
    obtain ⟨_, _, ⟨T21, L21, k21, n21⟩, -, X21, ⟨Lc21, hQ21, l21, y21, z21⟩, st21⟩ := X7.virtualBack hx (y := mY2) (z := mY2) hown (mvT hZ (oW hw 21 rfl)) (mvT hZ (oW hw 22 rfl)) (notFace_of_selects (args := #[]) (mvT hZ (oW hw 24 rfl))) (mvT hZ (oW hw 24 rfl)) (mvT hZ (oW hw 23 rfl)) (by decide) (backOf (W := 0) (rm_slid_0 l Z a0 hw [] b1 (p2 &&& (p1 &&& (63 : Int32)))  T7.heap n0 O7  P7_3 hS) hZ (oW hw 25 rfl) (oW hw 2 rfl) (by decide) (by decide)) q21a q21c (g := (mkF m 33 #[.val (.int p1), .val (.int p2), .val (.int (p1 &&& (63 : Int32))), .val (.int (p2 &&& (p1 &&& (63 : Int32)))), .val (.ref b1), .unset, .unset] [(.ref b1)])) rfl (by rw [hml]; rfl) (Steps.refl _) (argsL := []) (rest := []) (lenOf pd_3 rfl) rfl (by show 2 * 0 + _ ≤ _; exact Nat.le_of_eq rfl) (hb hby at_33) (fun _ _ => ⟨rfl, rfl, (by decide : 2 + 0 ≤ _), (by decide : 5 + 0 ≤ _)⟩)
    dsimp only [Pt.U, Pt.locs, Pt.cells, Pt.slots] at X21 l21 y21 z21 st21 hQ21
    subst l21 y21 z21
    obtain ⟨rfl, Nq21, e21⟩ := hQ21
    have N21 := Fr.app N7 Nq21
    refine oS (fun t k => st21.trans k) ?_
    show oG _ _ _ _ _ _ _ (T21.setTop (mkF m 36 #[.val (.int p1), .val (.int p2), .val (.int (p1 &&& (63 : Int32))), .val (.int (p2 &&& (p1 &&& (63 : Int32)))), .val (.ref b1), .unset, .unset] [(.int 1)]))
    refine oS (fun t k => XS.istore X21.here hx rfl (hb hby at_36) rfl (l' := #[.val (.int p1), .val (.int p2), .val (.int (p1 &&& (63 : Int32))), .val (.int (p2 &&& (p1 &&& (63 : Int32)))), .val (.ref b1), .val (.int 1), .unset]) rfl k) ?_
    refine oS (fun t k => XS.aload X21.here hx rfl (hb hby at_38) rfl rfl k) ?_
    obtain ⟨T22, X22, e22, st22⟩ := getS2 X21 hx hZ hown (host := "") (Or.inl (oW hw 26 rfl)) Via.refl e21 ((wS0 W).ext O7.2) (g := (mkF m 40 #[.val (.int p1), .val (.int p2), .val (.int (p1 &&& (63 : Int32))), .val (.int (p2 &&& (p1 &&& (63 : Int32)))), .val (.ref b1), .val (.int 1), .unset] [(.ref b1)])) rfl (hb hby at_40)
    refine oS (fun t k => st22 t k) ?_
    refine oS (fun t k => XS.iconst X22.here hx rfl (hb hby at_43) k) ?_
    by_cases hb0 : ((p2 &&& (p1 &&& (63 : Int32))) &&& ((1 : Int32) <<< ((0 : Int32) &&& 31))) = (0 : Int32)
    · obtain ⟨cq23, kq23, q23a, q23b, q23c⟩ := isOf hZ e22 P7_0
      obtain ⟨_, _, ⟨T23, L23, k23, n23⟩, -, X23, ⟨Lc23, hQ23, l23, y23, z23⟩, st23⟩ := X22.virtualBack hx (y := mY5) (z := mY5) hown (mvT hZ (oW hw 29 rfl)) (mvT hZ (oW hw 30 rfl)) (notFace_of_selects (args := #[]) (mvT hZ (oW hw 32 rfl))) (mvT hZ (oW hw 32 rfl)) (mvT hZ (oW hw 31 rfl)) (by decide) (backOf (W := 0) (rm_mv_KING_1 l Z a0 hw [] b1 (p2 &&& (p1 &&& (63 : Int32))) w T7.heap n0 O7 W P7_3 hb0) hZ (oW hw 33 rfl) (oW hw 2 rfl) (by decide) (by decide)) q23a q23c (g := (mkF m 44 #[.val (.int p1), .val (.int p2), .val (.int (p1 &&& (63 : Int32))), .val (.int (p2 &&& (p1 &&& (63 : Int32)))), .val (.ref b1), .val (.int 1), .unset] [(.int 0), (.ref (w 0)), (.ref b1)])) rfl (by rw [hml]; rfl) (Steps.refl _) (argsL := [(.ref (w 0)), (.int 0)]) (rest := []) (lenOf pd_4 rfl) rfl (by show 2 * 0 + _ ≤ _; exact Nat.le_of_eq rfl) (hb hby at_44) (fun _ _ => ⟨rfl, e22, (by decide : 2 + 0 ≤ _), (by decide : 5 + 0 ≤ _)⟩)
      dsimp only [Pt.U, Pt.locs, Pt.cells, Pt.slots] at X23 l23 y23 z23 st23 hQ23
      subst l23 y23 z23
      obtain ⟨rfl, Nq23, e23⟩ := hQ23
      have N23 := Fr.app N21 Nq23
      refine oS (fun t k => st23.trans k) ?_
      show oG _ _ _ _ _ _ _ (T23.setTop (mkF m 47 #[.val (.int p1), .val (.int p2), .val (.int (p1 &&& (63 : Int32))), .val (.int (p2 &&& (p1 &&& (63 : Int32)))), .val (.ref b1), .val (.int 1), .unset] [(.int 0)]))
      refine oS (fun t k => XS.ifNo X23.here hx rfl (hb hby at_47) rfl ((if0 _ _).trans (teq (by decide)).2) k) ?_
      refine oS (fun t k => XS.aload X23.here hx rfl (hb hby at_50) rfl rfl k) ?_
      obtain ⟨T24, X24, e24, st24⟩ := getS2 X23 hx hZ hown (host := "") (Or.inl (oW hw 43 rfl)) Via.refl e23 ((wS1 W).ext O7.2) (g := (mkF m 52 #[.val (.int p1), .val (.int p2), .val (.int (p1 &&& (63 : Int32))), .val (.int (p2 &&& (p1 &&& (63 : Int32)))), .val (.ref b1), .val (.int 1), .unset] [(.ref b1)])) rfl (hb hby at_52)
      refine oS (fun t k => st24 t k) ?_
      refine oS (fun t k => XS.iconst X24.here hx rfl (hb hby at_55) k) ?_
      by_cases hb1 : ((p2 &&& (p1 &&& (63 : Int32))) &&& ((1 : Int32) <<< ((1 : Int32) &&& 31))) = (0 : Int32)
      · obtain ⟨cq25, kq25, q25a, q25b, q25c⟩ := isOf hZ e24 P7_0
        obtain ⟨_, _, ⟨T25, L25, k25, n25⟩, -, X25, ⟨Lc25, hQ25, l25, y25, z25⟩, st25⟩ := X24.virtualBack hx (y := mY5) (z := mY5) hown (mvT hZ (oW hw 29 rfl)) (mvT hZ (oW hw 30 rfl)) (notFace_of_selects (args := #[]) (mvT hZ (oW hw 32 rfl))) (mvT hZ (oW hw 32 rfl)) (mvT hZ (oW hw 31 rfl)) (by decide) (backOf (W := 0) (rm_mv_QUEEN_1 l Z a0 hw [] b1 (p2 &&& (p1 &&& (63 : Int32))) w T7.heap n0 O7 W P7_3 hb1) hZ (oW hw 33 rfl) (oW hw 2 rfl) (by decide) (by decide)) q25a q25c (g := (mkF m 56 #[.val (.int p1), .val (.int p2), .val (.int (p1 &&& (63 : Int32))), .val (.int (p2 &&& (p1 &&& (63 : Int32)))), .val (.ref b1), .val (.int 1), .unset] [(.int 0), (.ref (w 1)), (.ref b1)])) rfl (by rw [hml]; rfl) (Steps.refl _) (argsL := [(.ref (w 1)), (.int 0)]) (rest := []) (lenOf pd_4 rfl) rfl (by show 2 * 0 + _ ≤ _; exact Nat.le_of_eq rfl) (hb hby at_56) (fun _ _ => ⟨rfl, e24, (by decide : 2 + 0 ≤ _), (by decide : 5 + 0 ≤ _)⟩)
        dsimp only [Pt.U, Pt.locs, Pt.cells, Pt.slots] at X25 l25 y25 z25 st25 hQ25
        subst l25 y25 z25
        obtain ⟨rfl, Nq25, e25⟩ := hQ25
        have N25 := Fr.app N23 Nq25
        refine oS (fun t k => st25.trans k) ?_
        show oG _ _ _ _ _ _ _ (T25.setTop (mkF m 59 #[.val (.int p1), .val (.int p2), .val (.int (p1 &&& (63 : Int32))), .val (.int (p2 &&& (p1 &&& (63 : Int32)))), .val (.ref b1), .val (.int 1), .unset] [(.int 0)]))
        refine oS (fun t k => XS.ifNo X25.here hx rfl (hb hby at_59) rfl ((if0 _ _).trans (teq (by decide)).2) k) ?_
        refine oS (fun t k => XS.aload X25.here hx rfl (hb hby at_62) rfl rfl k) ?_
        obtain ⟨T26, X26, e26, st26⟩ := getS2 X25 hx hZ hown (host := "") (Or.inl (oW hw 45 rfl)) Via.refl e25 ((wS2 W).ext O7.2) (g := (mkF m 64 #[.val (.int p1), .val (.int p2), .val (.int (p1 &&& (63 : Int32))), .val (.int (p2 &&& (p1 &&& (63 : Int32)))), .val (.ref b1), .val (.int 1), .unset] [(.ref b1)])) rfl (hb hby at_64)
        refine oS (fun t k => st26 t k) ?_
        refine oS (fun t k => XS.iconst X26.here hx rfl (hb hby at_67) k) ?_
        by_cases hb2 : ((p2 &&& (p1 &&& (63 : Int32))) &&& ((1 : Int32) <<< ((2 : Int32) &&& 31))) = (0 : Int32)
        · obtain ⟨cq27, kq27, q27a, q27b, q27c⟩ := isOf hZ e26 P7_0
          obtain ⟨_, _, ⟨T27, L27, k27, n27⟩, -, X27, ⟨Lc27, hQ27, l27, y27, z27⟩, st27⟩ := X26.virtualBack hx (y := mY5) (z := mY5) hown (mvT hZ (oW hw 29 rfl)) (mvT hZ (oW hw 30 rfl)) (notFace_of_selects (args := #[]) (mvT hZ (oW hw 32 rfl))) (mvT hZ (oW hw 32 rfl)) (mvT hZ (oW hw 31 rfl)) (by decide) (backOf (W := 0) (rm_mv_ROOK_1 l Z a0 hw [] b1 (p2 &&& (p1 &&& (63 : Int32))) w T7.heap n0 O7 W P7_3 hb2) hZ (oW hw 33 rfl) (oW hw 2 rfl) (by decide) (by decide)) q27a q27c (g := (mkF m 68 #[.val (.int p1), .val (.int p2), .val (.int (p1 &&& (63 : Int32))), .val (.int (p2 &&& (p1 &&& (63 : Int32)))), .val (.ref b1), .val (.int 1), .unset] [(.int 0), (.ref (w 2)), (.ref b1)])) rfl (by rw [hml]; rfl) (Steps.refl _) (argsL := [(.ref (w 2)), (.int 0)]) (rest := []) (lenOf pd_4 rfl) rfl (by show 2 * 0 + _ ≤ _; exact Nat.le_of_eq rfl) (hb hby at_68) (fun _ _ => ⟨rfl, e26, (by decide : 2 + 0 ≤ _), (by decide : 5 + 0 ≤ _)⟩)
          dsimp only [Pt.U, Pt.locs, Pt.cells, Pt.slots] at X27 l27 y27 z27 st27 hQ27
          subst l27 y27 z27
          obtain ⟨rfl, Nq27, e27⟩ := hQ27
          have N27 := Fr.app N25 Nq27
          refine oS (fun t k => st27.trans k) ?_
          show oG _ _ _ _ _ _ _ (T27.setTop (mkF m 71 #[.val (.int p1), .val (.int p2), .val (.int (p1 &&& (63 : Int32))), .val (.int (p2 &&& (p1 &&& (63 : Int32)))), .val (.ref b1), .val (.int 1), .unset] [(.int 0)]))
          refine oS (fun t k => XS.ifNo X27.here hx rfl (hb hby at_71) rfl ((if0 _ _).trans (teq (by decide)).2) k) ?_
          refine oS (fun t k => XS.aload X27.here hx rfl (hb hby at_74) rfl rfl k) ?_
          obtain ⟨T28, X28, e28, st28⟩ := getS2 X27 hx hZ hown (host := "") (Or.inl (oW hw 47 rfl)) Via.refl e27 ((wS3 W).ext O7.2) (g := (mkF m 76 #[.val (.int p1), .val (.int p2), .val (.int (p1 &&& (63 : Int32))), .val (.int (p2 &&& (p1 &&& (63 : Int32)))), .val (.ref b1), .val (.int 1), .unset] [(.ref b1)])) rfl (hb hby at_76)
          refine oS (fun t k => st28 t k) ?_
          refine oS (fun t k => XS.iconst X28.here hx rfl (hb hby at_79) k) ?_
          by_cases hb3 : ((p2 &&& (p1 &&& (63 : Int32))) &&& ((1 : Int32) <<< ((3 : Int32) &&& 31))) = (0 : Int32)
          · obtain ⟨cq29, kq29, q29a, q29b, q29c⟩ := isOf hZ e28 P7_0
            obtain ⟨_, _, ⟨T29, L29, k29, n29⟩, -, X29, ⟨Lc29, hQ29, l29, y29, z29⟩, st29⟩ := X28.virtualBack hx (y := mY5) (z := mY5) hown (mvT hZ (oW hw 29 rfl)) (mvT hZ (oW hw 30 rfl)) (notFace_of_selects (args := #[]) (mvT hZ (oW hw 32 rfl))) (mvT hZ (oW hw 32 rfl)) (mvT hZ (oW hw 31 rfl)) (by decide) (backOf (W := 0) (rm_mv_BISHOP_1 l Z a0 hw [] b1 (p2 &&& (p1 &&& (63 : Int32))) w T7.heap n0 O7 W P7_3 hb3) hZ (oW hw 33 rfl) (oW hw 2 rfl) (by decide) (by decide)) q29a q29c (g := (mkF m 80 #[.val (.int p1), .val (.int p2), .val (.int (p1 &&& (63 : Int32))), .val (.int (p2 &&& (p1 &&& (63 : Int32)))), .val (.ref b1), .val (.int 1), .unset] [(.int 0), (.ref (w 3)), (.ref b1)])) rfl (by rw [hml]; rfl) (Steps.refl _) (argsL := [(.ref (w 3)), (.int 0)]) (rest := []) (lenOf pd_4 rfl) rfl (by show 2 * 0 + _ ≤ _; exact Nat.le_of_eq rfl) (hb hby at_80) (fun _ _ => ⟨rfl, e28, (by decide : 2 + 0 ≤ _), (by decide : 5 + 0 ≤ _)⟩)
            dsimp only [Pt.U, Pt.locs, Pt.cells, Pt.slots] at X29 l29 y29 z29 st29 hQ29
            subst l29 y29 z29
            obtain ⟨rfl, Nq29, e29⟩ := hQ29
            have N29 := Fr.app N27 Nq29
            refine oS (fun t k => st29.trans k) ?_
            show oG _ _ _ _ _ _ _ (T29.setTop (mkF m 83 #[.val (.int p1), .val (.int p2), .val (.int (p1 &&& (63 : Int32))), .val (.int (p2 &&& (p1 &&& (63 : Int32)))), .val (.ref b1), .val (.int 1), .unset] [(.int 0)]))
            refine oS (fun t k => XS.ifNo X29.here hx rfl (hb hby at_83) rfl ((if0 _ _).trans (teq (by decide)).2) k) ?_
            refine oS (fun t k => XS.aload X29.here hx rfl (hb hby at_86) rfl rfl k) ?_
            obtain ⟨T30, X30, e30, st30⟩ := getS2 X29 hx hZ hown (host := "") (Or.inl (oW hw 49 rfl)) Via.refl e29 ((wS4 W).ext O7.2) (g := (mkF m 88 #[.val (.int p1), .val (.int p2), .val (.int (p1 &&& (63 : Int32))), .val (.int (p2 &&& (p1 &&& (63 : Int32)))), .val (.ref b1), .val (.int 1), .unset] [(.ref b1)])) rfl (hb hby at_88)
            refine oS (fun t k => st30 t k) ?_
            refine oS (fun t k => XS.iconst X30.here hx rfl (hb hby at_91) k) ?_
            by_cases hb4 : ((p2 &&& (p1 &&& (63 : Int32))) &&& ((1 : Int32) <<< ((4 : Int32) &&& 31))) = (0 : Int32)
            · obtain ⟨cq31, kq31, q31a, q31b, q31c⟩ := isOf hZ e30 P7_0
              obtain ⟨_, _, ⟨T31, L31, k31, n31⟩, -, X31, ⟨Lc31, hQ31, l31, y31, z31⟩, st31⟩ := X30.virtualBack hx (y := mY5) (z := mY5) hown (mvT hZ (oW hw 29 rfl)) (mvT hZ (oW hw 30 rfl)) (notFace_of_selects (args := #[]) (mvT hZ (oW hw 32 rfl))) (mvT hZ (oW hw 32 rfl)) (mvT hZ (oW hw 31 rfl)) (by decide) (backOf (W := 0) (rm_mv_KNIGHT_1 l Z a0 hw [] b1 (p2 &&& (p1 &&& (63 : Int32))) w T7.heap n0 O7 W P7_3 hb4) hZ (oW hw 33 rfl) (oW hw 2 rfl) (by decide) (by decide)) q31a q31c (g := (mkF m 92 #[.val (.int p1), .val (.int p2), .val (.int (p1 &&& (63 : Int32))), .val (.int (p2 &&& (p1 &&& (63 : Int32)))), .val (.ref b1), .val (.int 1), .unset] [(.int 0), (.ref (w 4)), (.ref b1)])) rfl (by rw [hml]; rfl) (Steps.refl _) (argsL := [(.ref (w 4)), (.int 0)]) (rest := []) (lenOf pd_4 rfl) rfl (by show 2 * 0 + _ ≤ _; exact Nat.le_of_eq rfl) (hb hby at_92) (fun _ _ => ⟨rfl, e30, (by decide : 2 + 0 ≤ _), (by decide : 5 + 0 ≤ _)⟩)
              dsimp only [Pt.U, Pt.locs, Pt.cells, Pt.slots] at X31 l31 y31 z31 st31 hQ31
              subst l31 y31 z31
              obtain ⟨rfl, Nq31, e31⟩ := hQ31
              have N31 := Fr.app N29 Nq31
              refine oS (fun t k => st31.trans k) ?_
              show oG _ _ _ _ _ _ _ (T31.setTop (mkF m 95 #[.val (.int p1), .val (.int p2), .val (.int (p1 &&& (63 : Int32))), .val (.int (p2 &&& (p1 &&& (63 : Int32)))), .val (.ref b1), .val (.int 1), .unset] [(.int 0)]))
              refine oS (fun t k => XS.ifNo X31.here hx rfl (hb hby at_95) rfl ((if0 _ _).trans (teq (by decide)).2) k) ?_
              refine oS (fun t k => XS.aload X31.here hx rfl (hb hby at_98) rfl rfl k) ?_
              obtain ⟨T32, X32, e32, st32⟩ := getS2 X31 hx hZ hown (host := "") (Or.inl (oW hw 51 rfl)) Via.refl e31 ((wS5 W).ext O7.2) (g := (mkF m 100 #[.val (.int p1), .val (.int p2), .val (.int (p1 &&& (63 : Int32))), .val (.int (p2 &&& (p1 &&& (63 : Int32)))), .val (.ref b1), .val (.int 1), .unset] [(.ref b1)])) rfl (hb hby at_100)
              refine oS (fun t k => st32 t k) ?_
              refine oS (fun t k => XS.iconst X32.here hx rfl (hb hby at_103) k) ?_
              have hb5 : ¬ (((p2 &&& (p1 &&& (63 : Int32))) &&& ((1 : Int32) <<< ((5 : Int32) &&& 31))) = (0 : Int32)) := (fun h5 => hS (own_bits p1 p2 hb0 hb1 hb2 hb3 hb4 h5))
              obtain ⟨cq33, kq33, q33a, q33b, q33c⟩ := isOf hZ e32 P7_0
              obtain ⟨_, _, ⟨T33, L33, k33, n33⟩, -, X33, ⟨Lc33, hQ33, l33, y33, z33⟩, st33⟩ := X32.virtualBack hx (y := mY5) (z := mY5) hown (mvT hZ (oW hw 29 rfl)) (mvT hZ (oW hw 30 rfl)) (notFace_of_selects (args := #[]) (mvT hZ (oW hw 32 rfl))) (mvT hZ (oW hw 32 rfl)) (mvT hZ (oW hw 31 rfl)) (by decide) (backOf (W := 0) (rm_mv_PAWN_0 l Z a0 hw [] b1 (p2 &&& (p1 &&& (63 : Int32))) w T7.heap n0 O7 W P7_3 hb5) hZ (oW hw 33 rfl) (oW hw 2 rfl) (by decide) (by decide)) q33a q33c (g := (mkF m 104 #[.val (.int p1), .val (.int p2), .val (.int (p1 &&& (63 : Int32))), .val (.int (p2 &&& (p1 &&& (63 : Int32)))), .val (.ref b1), .val (.int 1), .unset] [(.int 0), (.ref (w 5)), (.ref b1)])) rfl (by rw [hml]; rfl) (Steps.refl _) (argsL := [(.ref (w 5)), (.int 0)]) (rest := []) (lenOf pd_4 rfl) rfl (by show 2 * 0 + _ ≤ _; exact Nat.le_of_eq rfl) (hb hby at_104) (fun _ _ => ⟨rfl, e32, (by decide : 2 + 0 ≤ _), (by decide : 5 + 0 ≤ _)⟩)
              dsimp only [Pt.U, Pt.locs, Pt.cells, Pt.slots] at X33 l33 y33 z33 st33 hQ33
              subst l33 y33 z33
              obtain ⟨rfl, Nq33, e33⟩ := hQ33
              have N33 := Fr.app N31 Nq33
              refine oS (fun t k => st33.trans k) ?_
              show oG _ _ _ _ _ _ _ (T33.setTop (mkF m 107 #[.val (.int p1), .val (.int p2), .val (.int (p1 &&& (63 : Int32))), .val (.int (p2 &&& (p1 &&& (63 : Int32)))), .val (.ref b1), .val (.int 1), .unset] [(.int 1)]))
              refine oS (fun t k => XS.ifNo X33.here hx rfl (hb hby at_107) rfl ((if0 _ _).trans (feq (by decide)).1) k) ?_
              refine oS (fun t k => XS.iconst X33.here hx rfl (hb hby at_110) k) ?_
              refine oS (fun t k => XS.goto X33.here hx rfl (pc0 := 111) (pc' := 115) rfl (hb hby at_111) (by decide) (by decide) k) ?_
              refine oS (fun t k => XS.istore X33.here hx rfl (hb hby at_115) rfl (l' := #[.val (.int p1), .val (.int p2), .val (.int (p1 &&& (63 : Int32))), .val (.int (p2 &&& (p1 &&& (63 : Int32)))), .val (.ref b1), .val (.int 1), .val (.int 1)]) rfl k) ?_
              refine oS (fun t k => XS.iload X33.here hx rfl (hb hby at_117) rfl k) ?_
              refine oS (fun t k => XS.iload X33.here hx rfl (hb hby at_119) rfl k) ?_
              refine oS (fun t k => XS.icmpNo X33.here hx rfl (hb hby at_121) rfl (teq (by decide)).2 k) ?_
              refine oS (fun t k => XS.iconst X33.here hx rfl (hb hby at_124) k) ?_
              refine oS (fun t k => XS.goto X33.here hx rfl (pc0 := 125) (pc' := 129) rfl (hb hby at_125) (by decide) (by decide) k) ?_
              exact own_ret (v := some (.int 1)) X33 (fun h => by rw [Bd.returns] at h; cases h) Bd.notSynchronized (fun fs hr => retN X33 hx (t := .boolean) Bd.returns (by simp) (hb hby at_129) hr) (by rw [e33]; exact ⟨rfl, N33⟩) (by decide) (by decide)
            · obtain ⟨cq34, kq34, q34a, q34b, q34c⟩ := isOf hZ e30 P7_0
              obtain ⟨_, _, ⟨T34, L34, k34, n34⟩, -, X34, ⟨Lc34, hQ34, l34, y34, z34⟩, st34⟩ := X30.virtualBack hx (y := mY5) (z := mY5) hown (mvT hZ (oW hw 29 rfl)) (mvT hZ (oW hw 30 rfl)) (notFace_of_selects (args := #[]) (mvT hZ (oW hw 32 rfl))) (mvT hZ (oW hw 32 rfl)) (mvT hZ (oW hw 31 rfl)) (by decide) (backOf (W := 0) (rm_mv_KNIGHT_0 l Z a0 hw [] b1 (p2 &&& (p1 &&& (63 : Int32))) w T7.heap n0 O7 W P7_3 hb4) hZ (oW hw 33 rfl) (oW hw 2 rfl) (by decide) (by decide)) q34a q34c (g := (mkF m 92 #[.val (.int p1), .val (.int p2), .val (.int (p1 &&& (63 : Int32))), .val (.int (p2 &&& (p1 &&& (63 : Int32)))), .val (.ref b1), .val (.int 1), .unset] [(.int 0), (.ref (w 4)), (.ref b1)])) rfl (by rw [hml]; rfl) (Steps.refl _) (argsL := [(.ref (w 4)), (.int 0)]) (rest := []) (lenOf pd_4 rfl) rfl (by show 2 * 0 + _ ≤ _; exact Nat.le_of_eq rfl) (hb hby at_92) (fun _ _ => ⟨rfl, e30, (by decide : 2 + 0 ≤ _), (by decide : 5 + 0 ≤ _)⟩)
              dsimp only [Pt.U, Pt.locs, Pt.cells, Pt.slots] at X34 l34 y34 z34 st34 hQ34
              subst l34 y34 z34
              obtain ⟨rfl, Nq34, e34⟩ := hQ34
              have N34 := Fr.app N29 Nq34
              refine oS (fun t k => st34.trans k) ?_
              show oG _ _ _ _ _ _ _ (T34.setTop (mkF m 95 #[.val (.int p1), .val (.int p2), .val (.int (p1 &&& (63 : Int32))), .val (.int (p2 &&& (p1 &&& (63 : Int32)))), .val (.ref b1), .val (.int 1), .unset] [(.int 1)]))
              refine oS (fun t k => XS.ifYes X34.here hx rfl (pc0 := 95) (pc' := 110) rfl (hb hby at_95) rfl ((if0 _ _).trans (feq (by decide)).2) (by decide) (by decide) k) ?_
              refine oS (fun t k => XS.iconst X34.here hx rfl (hb hby at_110) k) ?_
              refine oS (fun t k => XS.goto X34.here hx rfl (pc0 := 111) (pc' := 115) rfl (hb hby at_111) (by decide) (by decide) k) ?_
              refine oS (fun t k => XS.istore X34.here hx rfl (hb hby at_115) rfl (l' := #[.val (.int p1), .val (.int p2), .val (.int (p1 &&& (63 : Int32))), .val (.int (p2 &&& (p1 &&& (63 : Int32)))), .val (.ref b1), .val (.int 1), .val (.int 1)]) rfl k) ?_
              refine oS (fun t k => XS.iload X34.here hx rfl (hb hby at_117) rfl k) ?_
              refine oS (fun t k => XS.iload X34.here hx rfl (hb hby at_119) rfl k) ?_
              refine oS (fun t k => XS.icmpNo X34.here hx rfl (hb hby at_121) rfl (teq (by decide)).2 k) ?_
              refine oS (fun t k => XS.iconst X34.here hx rfl (hb hby at_124) k) ?_
              refine oS (fun t k => XS.goto X34.here hx rfl (pc0 := 125) (pc' := 129) rfl (hb hby at_125) (by decide) (by decide) k) ?_
              exact own_ret (v := some (.int 1)) X34 (fun h => by rw [Bd.returns] at h; cases h) Bd.notSynchronized (fun fs hr => retN X34 hx (t := .boolean) Bd.returns (by simp) (hb hby at_129) hr) (by rw [e34]; exact ⟨rfl, N34⟩) (by decide) (by decide)
          · obtain ⟨cq35, kq35, q35a, q35b, q35c⟩ := isOf hZ e28 P7_0
            obtain ⟨_, _, ⟨T35, L35, k35, n35⟩, -, X35, ⟨Lc35, hQ35, l35, y35, z35⟩, st35⟩ := X28.virtualBack hx (y := mY5) (z := mY5) hown (mvT hZ (oW hw 29 rfl)) (mvT hZ (oW hw 30 rfl)) (notFace_of_selects (args := #[]) (mvT hZ (oW hw 32 rfl))) (mvT hZ (oW hw 32 rfl)) (mvT hZ (oW hw 31 rfl)) (by decide) (backOf (W := 0) (rm_mv_BISHOP_0 l Z a0 hw [] b1 (p2 &&& (p1 &&& (63 : Int32))) w T7.heap n0 O7 W P7_3 hb3) hZ (oW hw 33 rfl) (oW hw 2 rfl) (by decide) (by decide)) q35a q35c (g := (mkF m 80 #[.val (.int p1), .val (.int p2), .val (.int (p1 &&& (63 : Int32))), .val (.int (p2 &&& (p1 &&& (63 : Int32)))), .val (.ref b1), .val (.int 1), .unset] [(.int 0), (.ref (w 3)), (.ref b1)])) rfl (by rw [hml]; rfl) (Steps.refl _) (argsL := [(.ref (w 3)), (.int 0)]) (rest := []) (lenOf pd_4 rfl) rfl (by show 2 * 0 + _ ≤ _; exact Nat.le_of_eq rfl) (hb hby at_80) (fun _ _ => ⟨rfl, e28, (by decide : 2 + 0 ≤ _), (by decide : 5 + 0 ≤ _)⟩)
            dsimp only [Pt.U, Pt.locs, Pt.cells, Pt.slots] at X35 l35 y35 z35 st35 hQ35
            subst l35 y35 z35
            obtain ⟨rfl, Nq35, e35⟩ := hQ35
            have N35 := Fr.app N27 Nq35
            refine oS (fun t k => st35.trans k) ?_
            show oG _ _ _ _ _ _ _ (T35.setTop (mkF m 83 #[.val (.int p1), .val (.int p2), .val (.int (p1 &&& (63 : Int32))), .val (.int (p2 &&& (p1 &&& (63 : Int32)))), .val (.ref b1), .val (.int 1), .unset] [(.int 1)]))
            refine oS (fun t k => XS.ifYes X35.here hx rfl (pc0 := 83) (pc' := 110) rfl (hb hby at_83) rfl ((if0 _ _).trans (feq (by decide)).2) (by decide) (by decide) k) ?_
            refine oS (fun t k => XS.iconst X35.here hx rfl (hb hby at_110) k) ?_
            refine oS (fun t k => XS.goto X35.here hx rfl (pc0 := 111) (pc' := 115) rfl (hb hby at_111) (by decide) (by decide) k) ?_
            refine oS (fun t k => XS.istore X35.here hx rfl (hb hby at_115) rfl (l' := #[.val (.int p1), .val (.int p2), .val (.int (p1 &&& (63 : Int32))), .val (.int (p2 &&& (p1 &&& (63 : Int32)))), .val (.ref b1), .val (.int 1), .val (.int 1)]) rfl k) ?_
            refine oS (fun t k => XS.iload X35.here hx rfl (hb hby at_117) rfl k) ?_
            refine oS (fun t k => XS.iload X35.here hx rfl (hb hby at_119) rfl k) ?_
            refine oS (fun t k => XS.icmpNo X35.here hx rfl (hb hby at_121) rfl (teq (by decide)).2 k) ?_
            refine oS (fun t k => XS.iconst X35.here hx rfl (hb hby at_124) k) ?_
            refine oS (fun t k => XS.goto X35.here hx rfl (pc0 := 125) (pc' := 129) rfl (hb hby at_125) (by decide) (by decide) k) ?_
            exact own_ret (v := some (.int 1)) X35 (fun h => by rw [Bd.returns] at h; cases h) Bd.notSynchronized (fun fs hr => retN X35 hx (t := .boolean) Bd.returns (by simp) (hb hby at_129) hr) (by rw [e35]; exact ⟨rfl, N35⟩) (by decide) (by decide)
        · obtain ⟨cq36, kq36, q36a, q36b, q36c⟩ := isOf hZ e26 P7_0
          obtain ⟨_, _, ⟨T36, L36, k36, n36⟩, -, X36, ⟨Lc36, hQ36, l36, y36, z36⟩, st36⟩ := X26.virtualBack hx (y := mY5) (z := mY5) hown (mvT hZ (oW hw 29 rfl)) (mvT hZ (oW hw 30 rfl)) (notFace_of_selects (args := #[]) (mvT hZ (oW hw 32 rfl))) (mvT hZ (oW hw 32 rfl)) (mvT hZ (oW hw 31 rfl)) (by decide) (backOf (W := 0) (rm_mv_ROOK_0 l Z a0 hw [] b1 (p2 &&& (p1 &&& (63 : Int32))) w T7.heap n0 O7 W P7_3 hb2) hZ (oW hw 33 rfl) (oW hw 2 rfl) (by decide) (by decide)) q36a q36c (g := (mkF m 68 #[.val (.int p1), .val (.int p2), .val (.int (p1 &&& (63 : Int32))), .val (.int (p2 &&& (p1 &&& (63 : Int32)))), .val (.ref b1), .val (.int 1), .unset] [(.int 0), (.ref (w 2)), (.ref b1)])) rfl (by rw [hml]; rfl) (Steps.refl _) (argsL := [(.ref (w 2)), (.int 0)]) (rest := []) (lenOf pd_4 rfl) rfl (by show 2 * 0 + _ ≤ _; exact Nat.le_of_eq rfl) (hb hby at_68) (fun _ _ => ⟨rfl, e26, (by decide : 2 + 0 ≤ _), (by decide : 5 + 0 ≤ _)⟩)
          dsimp only [Pt.U, Pt.locs, Pt.cells, Pt.slots] at X36 l36 y36 z36 st36 hQ36
          subst l36 y36 z36
          obtain ⟨rfl, Nq36, e36⟩ := hQ36
          have N36 := Fr.app N25 Nq36
          refine oS (fun t k => st36.trans k) ?_
          show oG _ _ _ _ _ _ _ (T36.setTop (mkF m 71 #[.val (.int p1), .val (.int p2), .val (.int (p1 &&& (63 : Int32))), .val (.int (p2 &&& (p1 &&& (63 : Int32)))), .val (.ref b1), .val (.int 1), .unset] [(.int 1)]))
          refine oS (fun t k => XS.ifYes X36.here hx rfl (pc0 := 71) (pc' := 110) rfl (hb hby at_71) rfl ((if0 _ _).trans (feq (by decide)).2) (by decide) (by decide) k) ?_
          refine oS (fun t k => XS.iconst X36.here hx rfl (hb hby at_110) k) ?_
          refine oS (fun t k => XS.goto X36.here hx rfl (pc0 := 111) (pc' := 115) rfl (hb hby at_111) (by decide) (by decide) k) ?_
          refine oS (fun t k => XS.istore X36.here hx rfl (hb hby at_115) rfl (l' := #[.val (.int p1), .val (.int p2), .val (.int (p1 &&& (63 : Int32))), .val (.int (p2 &&& (p1 &&& (63 : Int32)))), .val (.ref b1), .val (.int 1), .val (.int 1)]) rfl k) ?_
          refine oS (fun t k => XS.iload X36.here hx rfl (hb hby at_117) rfl k) ?_
          refine oS (fun t k => XS.iload X36.here hx rfl (hb hby at_119) rfl k) ?_
          refine oS (fun t k => XS.icmpNo X36.here hx rfl (hb hby at_121) rfl (teq (by decide)).2 k) ?_
          refine oS (fun t k => XS.iconst X36.here hx rfl (hb hby at_124) k) ?_
          refine oS (fun t k => XS.goto X36.here hx rfl (pc0 := 125) (pc' := 129) rfl (hb hby at_125) (by decide) (by decide) k) ?_
          exact own_ret (v := some (.int 1)) X36 (fun h => by rw [Bd.returns] at h; cases h) Bd.notSynchronized (fun fs hr => retN X36 hx (t := .boolean) Bd.returns (by simp) (hb hby at_129) hr) (by rw [e36]; exact ⟨rfl, N36⟩) (by decide) (by decide)
      · obtain ⟨cq37, kq37, q37a, q37b, q37c⟩ := isOf hZ e24 P7_0
        obtain ⟨_, _, ⟨T37, L37, k37, n37⟩, -, X37, ⟨Lc37, hQ37, l37, y37, z37⟩, st37⟩ := X24.virtualBack hx (y := mY5) (z := mY5) hown (mvT hZ (oW hw 29 rfl)) (mvT hZ (oW hw 30 rfl)) (notFace_of_selects (args := #[]) (mvT hZ (oW hw 32 rfl))) (mvT hZ (oW hw 32 rfl)) (mvT hZ (oW hw 31 rfl)) (by decide) (backOf (W := 0) (rm_mv_QUEEN_0 l Z a0 hw [] b1 (p2 &&& (p1 &&& (63 : Int32))) w T7.heap n0 O7 W P7_3 hb1) hZ (oW hw 33 rfl) (oW hw 2 rfl) (by decide) (by decide)) q37a q37c (g := (mkF m 56 #[.val (.int p1), .val (.int p2), .val (.int (p1 &&& (63 : Int32))), .val (.int (p2 &&& (p1 &&& (63 : Int32)))), .val (.ref b1), .val (.int 1), .unset] [(.int 0), (.ref (w 1)), (.ref b1)])) rfl (by rw [hml]; rfl) (Steps.refl _) (argsL := [(.ref (w 1)), (.int 0)]) (rest := []) (lenOf pd_4 rfl) rfl (by show 2 * 0 + _ ≤ _; exact Nat.le_of_eq rfl) (hb hby at_56) (fun _ _ => ⟨rfl, e24, (by decide : 2 + 0 ≤ _), (by decide : 5 + 0 ≤ _)⟩)
        dsimp only [Pt.U, Pt.locs, Pt.cells, Pt.slots] at X37 l37 y37 z37 st37 hQ37
        subst l37 y37 z37
        obtain ⟨rfl, Nq37, e37⟩ := hQ37
        have N37 := Fr.app N23 Nq37
        refine oS (fun t k => st37.trans k) ?_
        show oG _ _ _ _ _ _ _ (T37.setTop (mkF m 59 #[.val (.int p1), .val (.int p2), .val (.int (p1 &&& (63 : Int32))), .val (.int (p2 &&& (p1 &&& (63 : Int32)))), .val (.ref b1), .val (.int 1), .unset] [(.int 1)]))
        refine oS (fun t k => XS.ifYes X37.here hx rfl (pc0 := 59) (pc' := 110) rfl (hb hby at_59) rfl ((if0 _ _).trans (feq (by decide)).2) (by decide) (by decide) k) ?_
        refine oS (fun t k => XS.iconst X37.here hx rfl (hb hby at_110) k) ?_
        refine oS (fun t k => XS.goto X37.here hx rfl (pc0 := 111) (pc' := 115) rfl (hb hby at_111) (by decide) (by decide) k) ?_
        refine oS (fun t k => XS.istore X37.here hx rfl (hb hby at_115) rfl (l' := #[.val (.int p1), .val (.int p2), .val (.int (p1 &&& (63 : Int32))), .val (.int (p2 &&& (p1 &&& (63 : Int32)))), .val (.ref b1), .val (.int 1), .val (.int 1)]) rfl k) ?_
        refine oS (fun t k => XS.iload X37.here hx rfl (hb hby at_117) rfl k) ?_
        refine oS (fun t k => XS.iload X37.here hx rfl (hb hby at_119) rfl k) ?_
        refine oS (fun t k => XS.icmpNo X37.here hx rfl (hb hby at_121) rfl (teq (by decide)).2 k) ?_
        refine oS (fun t k => XS.iconst X37.here hx rfl (hb hby at_124) k) ?_
        refine oS (fun t k => XS.goto X37.here hx rfl (pc0 := 125) (pc' := 129) rfl (hb hby at_125) (by decide) (by decide) k) ?_
        exact own_ret (v := some (.int 1)) X37 (fun h => by rw [Bd.returns] at h; cases h) Bd.notSynchronized (fun fs hr => retN X37 hx (t := .boolean) Bd.returns (by simp) (hb hby at_129) hr) (by rw [e37]; exact ⟨rfl, N37⟩) (by decide) (by decide)
    · obtain ⟨cq38, kq38, q38a, q38b, q38c⟩ := isOf hZ e22 P7_0
      obtain ⟨_, _, ⟨T38, L38, k38, n38⟩, -, X38, ⟨Lc38, hQ38, l38, y38, z38⟩, st38⟩ := X22.virtualBack hx (y := mY5) (z := mY5) hown (mvT hZ (oW hw 29 rfl)) (mvT hZ (oW hw 30 rfl)) (notFace_of_selects (args := #[]) (mvT hZ (oW hw 32 rfl))) (mvT hZ (oW hw 32 rfl)) (mvT hZ (oW hw 31 rfl)) (by decide) (backOf (W := 0) (rm_mv_KING_0 l Z a0 hw [] b1 (p2 &&& (p1 &&& (63 : Int32))) w T7.heap n0 O7 W P7_3 hb0) hZ (oW hw 33 rfl) (oW hw 2 rfl) (by decide) (by decide)) q38a q38c (g := (mkF m 44 #[.val (.int p1), .val (.int p2), .val (.int (p1 &&& (63 : Int32))), .val (.int (p2 &&& (p1 &&& (63 : Int32)))), .val (.ref b1), .val (.int 1), .unset] [(.int 0), (.ref (w 0)), (.ref b1)])) rfl (by rw [hml]; rfl) (Steps.refl _) (argsL := [(.ref (w 0)), (.int 0)]) (rest := []) (lenOf pd_4 rfl) rfl (by show 2 * 0 + _ ≤ _; exact Nat.le_of_eq rfl) (hb hby at_44) (fun _ _ => ⟨rfl, e22, (by decide : 2 + 0 ≤ _), (by decide : 5 + 0 ≤ _)⟩)
      dsimp only [Pt.U, Pt.locs, Pt.cells, Pt.slots] at X38 l38 y38 z38 st38 hQ38
      subst l38 y38 z38
      obtain ⟨rfl, Nq38, e38⟩ := hQ38
      have N38 := Fr.app N21 Nq38
      refine oS (fun t k => st38.trans k) ?_
      show oG _ _ _ _ _ _ _ (T38.setTop (mkF m 47 #[.val (.int p1), .val (.int p2), .val (.int (p1 &&& (63 : Int32))), .val (.int (p2 &&& (p1 &&& (63 : Int32)))), .val (.ref b1), .val (.int 1), .unset] [(.int 1)]))
      refine oS (fun t k => XS.ifYes X38.here hx rfl (pc0 := 47) (pc' := 110) rfl (hb hby at_47) rfl ((if0 _ _).trans (feq (by decide)).2) (by decide) (by decide) k) ?_
      refine oS (fun t k => XS.iconst X38.here hx rfl (hb hby at_110) k) ?_
      refine oS (fun t k => XS.goto X38.here hx rfl (pc0 := 111) (pc' := 115) rfl (hb hby at_111) (by decide) (by decide) k) ?_
      refine oS (fun t k => XS.istore X38.here hx rfl (hb hby at_115) rfl (l' := #[.val (.int p1), .val (.int p2), .val (.int (p1 &&& (63 : Int32))), .val (.int (p2 &&& (p1 &&& (63 : Int32)))), .val (.ref b1), .val (.int 1), .val (.int 1)]) rfl k) ?_
      refine oS (fun t k => XS.iload X38.here hx rfl (hb hby at_117) rfl k) ?_
      refine oS (fun t k => XS.iload X38.here hx rfl (hb hby at_119) rfl k) ?_
      refine oS (fun t k => XS.icmpNo X38.here hx rfl (hb hby at_121) rfl (teq (by decide)).2 k) ?_
      refine oS (fun t k => XS.iconst X38.here hx rfl (hb hby at_124) k) ?_
      refine oS (fun t k => XS.goto X38.here hx rfl (pc0 := 125) (pc' := 129) rfl (hb hby at_125) (by decide) (by decide) k) ?_
      exact own_ret (v := some (.int 1)) X38 (fun h => by rw [Bd.returns] at h; cases h) Bd.notSynchronized (fun fs hr => retN X38 hx (t := .boolean) Bd.returns (by simp) (hb hby at_129) hr) (by rw [e38]; exact ⟨rfl, N38⟩) (by decide) (by decide)
set_option maxRecDepth 65536 in
set_option maxHeartbeats 40000000 in
theorem comes_1 {Post : Tables → Env → Array Value → State → Outcome → State → Prop} (hpost : ∀ tb e args s v u, (limb_1_1.after args s (.returned v) u = true ∧ limb_1_2.after args s (.returned v) u = true ∧ True) → FrameEnd s (.returned v) u (Jvm.fieldLocs frame_1_writes args s ++ Jvm.arrayLocs frame_1_arrays args s ++ Jvm.staticLocs frame_1_statics s) 16 128 → Post tb e args s (.returned v) u) :
    ArmFor flags0 classFile x code maxLocals ret World_1 tables_1 room_1 Calls_1 rest_1 Pre_1 Post := by
  intro l hfl _ _ p e ha hc hk s m args below hf hA hF happ hP
  obtain ⟨hcalls, hrest, hpre⟩ := hP
  obtain ⟨-, -, -, hnamed, -, -, -, hat⟩ := (Spec.applies_iff hf).mp happ
  obtain ⟨hg, hn⟩ := and_e (Cond.before_iff.mp (show (Jvm.Cond.and given_1 narrow_1).before args s = true from hpre))
  obtain ⟨g0, g1⟩ := and_e hg
  obtain ⟨g2, g3⟩ := and_e g1
  obtain ⟨w0, w1, rfl⟩ : ∃ w0 w1 : Value, args = #[w0, w1] := by
    have hs : args.size = 2 := by simpa [Cond.value, given_1] using g0
    obtain ⟨L⟩ := args
    match L, hs with
    | [w0, w1], _ => exact ⟨w0, w1, rfl⟩
  have hw := fun d (hd : d ∈ tables_1) => atoms_spec (ws := Jvm.Cond.code x code maxLocals ret :: tables_1) hat d (List.mem_cons_of_mem _ hd)
  have hfit : Fit s := fun {y c} hc i hi => by
    obtain ⟨ha, rfl⟩ := Array.getElem?_eq_some_iff.mp hc
    have q := List.all_eq_true.mp ((Array.all_eq_true_iff_forall_mem.mp hF) _ (Array.getElem_mem ha)) i (List.mem_range.mpr hi)
    simpa [Array.getElem?_eq_getElem hi] using q
  obtain ⟨i0, ei0⟩ := is_v g2
  obtain rfl : w0 = (.int i0) := Option.some.inj ei0
  obtain ⟨i1, ei1⟩ := is_v g3
  obtain rfl : w1 = (.int i1) := Option.some.inj ei1
  obtain ⟨w, W⟩ := own_world hw hfit hn
  obtain ⟨n, o, h1, h2, h3, _, L, rfl, ⟨rfl, N⟩, hq⟩ := rm_law l s _ hw tables_1 i0 i1 w s.heap s.heap.size (Old.start s) W  p e ha hc hk s m _ below hf ((Spec.applies_iff_loose hf).mp happ).1 ⟨rfl, State.Warmed39.refl s, rfl⟩ trivial
  refine ⟨n, _, h1, h2, h3, hpost _ _ _ _ _ _ ⟨Cond.after_iff.mpr rfl, Cond.after_iff.mpr (eq_i res_at (Term.int_eval (1)) rfl), trivial⟩ ⟨hq.1, hq.2.1, (hq.2.2.sift fun y hy => Or.inr (N y hy)).mono (by decide) (by decide)⟩⟩
theorem main_1_1 : Claimed_1_1 := comes_1 fun _ _ _ _ _ _ h hF => ⟨h.1, hF⟩
theorem main_1_2 : Claimed_1_2 := comes_1 fun _ _ _ _ _ _ h hF => ⟨h.2.1, hF⟩
end Jvm.Pilot.@@N@@
namespace Jvm.Pilot.@@N@@
open Jvm Jvm.ClassFile Sem Op Lib Jvm.Free Jvm.Stand Jvm.Pilot.@@N@@.Jvm.D
/-! MADE BY PROGRAM (witnessworld.py) out of the Statement's table words and the real class files: 14 classes; the members and pool entries that the words name. The judged class is class 1, her method 1. -/
namespace start1
open Jvm.ClassFile
def u (s : String) : CpInfo := .utf8 (stringToUtf16 s)
/-- a pool by its gaps: so many unusable entries, then the entry; so many at the end -/
def gap : Nat → List CpInfo → List CpInfo
  | 0, r => r
  | n + 1, r => .unusable :: gap n r
def poolList (es : List (Nat × CpInfo)) (last : Nat) : List CpInfo := es.foldr (fun e r => gap e.1 (e.2 :: r)) (gap last [])
def pool (es : List (Nat × CpInfo)) (last : Nat) : Array CpInfo := ⟨poolList es last⟩
def fileOf (pool : Array CpInfo) (this : Nat) (attrs : Array Attribute := #[]) (ms : Array MethodInfo := #[]) (fl : Nat := 33) (sup : Nat := 0) (ifs : Array Nat := #[]) (fds : Array FieldInfo := #[]) : ClassFile where
  minorVersion := 0
  majorVersion := 65
  constantPool := pool
  accessFlags := fl
  thisClass := this
  superClass := sup
  interfaces := ifs
  fields := fds
  methods := ms
  attributes := attrs
def plain (name : String) (sup : Option ClassId) : Class where
  name := name
  kind := .ordinary
  loader := none
  accessFlags := 33
  super := sup
  interfaces := #[]
  cf := none
  fields := #[]
  methods := #[]
  instanceTypes := #[]
  staticTypes := #[]
  resolved := #[]
  callSites := []
  init := .initialized
  statics := none
  mirror := none

def pool0 : Array CpInfo := pool [(5, u "<init>"), (0, u "()V"), (1, .class_ 10), (1, u "java/lang/Object")] 113

def k0c0 : Code := { maxStack := 0, maxLocals := 1, code := object_method_1_code, exceptionTable := #[], attributes := #[] }
def k0m0 : Method := { name := "<init>", desc := "()V", sig := { parameters := [], returnType := none }, accessFlags := 1, code := some k0c0 }
/-- java/lang/Object -/
def k0 : Class := { plain "java/lang/Object" none with
  accessFlags := 33
  interfaces := #[]
  cf := some (fileOf pool0 8 #[] #[{ accessFlags := 1, nameIndex := 5, descriptorIndex := 6, attributes := #[] }] 33 0 #[] #[])
  fields := #[]
  methods := #[k0m0]
  instanceTypes := #[]
  staticTypes := #[]
  resolved := Array.replicate 124 none
  statics := none }

def pool1 : Array CpInfo := pool [(2, .class_ 4), (1, u "java/lang/Object"), (0, u "<init>"), (0, u "()V"), (0, .class_ 8), (0, u "com/example/sixfold/sixfold/rules/Direction"), (0, .methodref 7 10), (0, .nameAndType 5 11), (0, u "([III)V"), (0, .methodref 7 13), (0, .nameAndType 14 15), (0, u "isSlidAlong"), (0, u "()Z"), (0, .fieldref 17 18), (0, .class_ 19), (0, .nameAndType 20 21), (0, u "com/example/sixfold/sixfold/rules/Kind"), (0, u "KING"), (0, u "Lcom/example/sixfold/sixfold/rules/Kind;"), (0, .methodref 7 23), (0, .nameAndType 24 25), (0, u "moves"), (0, u "(Lcom/example/sixfold/sixfold/rules/Kind;Z)Z"), (0, .fieldref 17 27), (0, .nameAndType 28 21), (0, u "QUEEN"), (0, .fieldref 17 30), (0, .nameAndType 31 21), (0, u "ROOK"), (0, .fieldref 17 33), (0, .nameAndType 34 21), (0, u "BISHOP"), (0, .fieldref 17 36), (0, .nameAndType 37 21), (0, u "KNIGHT"), (0, .fieldref 17 39), (0, .nameAndType 40 21), (0, u "PAWN"), (0, .class_ 42), (0, u "com/example/sixfold/sixfold/rules/DirectionIsSlidAlongPinLaw"), (2, u "law"), (0, u "(II)Z")] 3

def k1m0 : Method := { name := "<init>", desc := "()V", sig := { parameters := [], returnType := none }, accessFlags := 2, code := none }
def k1c1 : Code := { maxStack := 6, maxLocals := 7, code := code, exceptionTable := #[], attributes := #[] }
def k1m1 : Method := { name := "law", desc := "(II)Z", sig := { parameters := [.int, .int], returnType := some .boolean }, accessFlags := 9, code := some k1c1 }
/-- com/example/sixfold/sixfold/rules/DirectionIsSlidAlongPinLaw -/
def k1 : Class := { plain "com/example/sixfold/sixfold/rules/DirectionIsSlidAlongPinLaw" (some 0) with
  accessFlags := 49
  interfaces := #[]
  cf := some (fileOf pool1 41 #[] #[{ accessFlags := 2, nameIndex := 5, descriptorIndex := 6, attributes := #[] }, { accessFlags := 9, nameIndex := 45, descriptorIndex := 46, attributes := #[] }] 49 2 #[] #[])
  fields := #[]
  methods := #[k1m0, k1m1]
  instanceTypes := #[]
  staticTypes := #[]
  resolved := Array.replicate 50 none
  statics := none }

def pool2 : Array CpInfo := pool [(1, .methodref 2 3), (0, .class_ 4), (0, .nameAndType 5 6), (0, u "java/lang/Object"), (0, u "<init>"), (0, u "()V"), (0, .class_ 8), (0, u "java/lang/Record")] 13

def k2c0 : Code := { maxStack := 1, maxLocals := 1, code := jdk_30_method_1_code, exceptionTable := #[], attributes := #[] }
def k2m0 : Method := { name := "<init>", desc := "()V", sig := { parameters := [], returnType := none }, accessFlags := 4, code := some k2c0 }
/-- java/lang/Record -/
def k2 : Class := { plain "java/lang/Record" (some 0) with
  accessFlags := 1057
  interfaces := #[]
  cf := some (fileOf pool2 7 #[] #[{ accessFlags := 4, nameIndex := 5, descriptorIndex := 6, attributes := #[] }] 1057 2 #[] #[])
  fields := #[]
  methods := #[k2m0]
  instanceTypes := #[]
  staticTypes := #[]
  resolved := Array.replicate 22 none
  statics := none }

def pool3 : Array CpInfo := pool [(1, .methodref 2 3), (0, .class_ 4), (0, .nameAndType 5 6), (0, u "java/lang/Record"), (0, u "<init>"), (0, u "()V"), (0, .fieldref 8 9), (0, .class_ 10), (0, .nameAndType 11 12), (0, u "com/example/sixfold/sixfold/rules/Direction"), (0, u "step"), (0, u "[I"), (0, .fieldref 8 14), (0, .nameAndType 15 16), (0, u "kinds"), (0, u "I"), (0, .fieldref 8 18), (0, .nameAndType 19 16), (0, u "sliders"), (0, .methodref 21 22), (0, .class_ 23), (0, .nameAndType 24 25), (0, u "com/example/sixfold/sixfold/rules/Kind"), (0, u "ordinal"), (0, u "()I"), (56, u "()Z"), (2, u "([III)V"), (24, u "ALL"), (0, u "Ljava/util/List;"), (5, u "isSlidAlong"), (1, u "moves"), (0, u "(Lcom/example/sixfold/sixfold/rules/Kind;Z)Z")] 53

def k3c0 : Code := { maxStack := 2, maxLocals := 4, code := prog_8_method_1_code, exceptionTable := #[], attributes := #[] }
def k3m0 : Method := { name := "<init>", desc := "([III)V", sig := { parameters := [(.array .int), .int, .int], returnType := none }, accessFlags := 0, code := some k3c0 }
def k3c1 : Code := { maxStack := 1, maxLocals := 1, code := prog_8_method_2_code, exceptionTable := #[], attributes := #[] }
def k3m1 : Method := { name := "isSlidAlong", desc := "()Z", sig := { parameters := [], returnType := some .boolean }, accessFlags := 0, code := some k3c1 }
def k3c2 : Code := { maxStack := 3, maxLocals := 3, code := prog_8_method_3_code, exceptionTable := #[], attributes := #[] }
def k3m2 : Method := { name := "moves", desc := "(Lcom/example/sixfold/sixfold/rules/Kind;Z)Z", sig := { parameters := [(.object "com/example/sixfold/sixfold/rules/Kind"), .boolean], returnType := some .boolean }, accessFlags := 0, code := some k3c2 }
/-- com/example/sixfold/sixfold/rules/Direction -/
def k3 : Class := { plain "com/example/sixfold/sixfold/rules/Direction" (some 2) with
  accessFlags := 48
  interfaces := #[]
  cf := some (fileOf pool3 8 #[] #[{ accessFlags := 0, nameIndex := 5, descriptorIndex := 85, attributes := #[] }, { accessFlags := 0, nameIndex := 117, descriptorIndex := 82, attributes := #[] }, { accessFlags := 0, nameIndex := 119, descriptorIndex := 120, attributes := #[] }] 48 2 #[] #[{ accessFlags := 18, nameIndex := 11, descriptorIndex := 12, attributes := #[] }, { accessFlags := 18, nameIndex := 15, descriptorIndex := 16, attributes := #[] }, { accessFlags := 18, nameIndex := 19, descriptorIndex := 16, attributes := #[] }, { accessFlags := 24, nameIndex := 110, descriptorIndex := 111, attributes := #[] }])
  fields := #[{ name := "step", type := (.array .int), accessFlags := 18, slot := 0, constantValue := 0 }, { name := "kinds", type := .int, accessFlags := 18, slot := 1, constantValue := 0 }, { name := "sliders", type := .int, accessFlags := 18, slot := 2, constantValue := 0 }, { name := "ALL", type := (.object "java/util/List"), accessFlags := 24, slot := 0, constantValue := 0 }]
  methods := #[k3m0, k3m1, k3m2]
  instanceTypes := #[(.array .int), .int, .int]
  staticTypes := #[(.object "java/util/List")]
  resolved := Array.replicate 174 none
  statics := none }

def pool4 : Array CpInfo := pool [(1, .class_ 2), (0, u "java/lang/constant/Constable"), (0, .class_ 4), (0, u "java/lang/Object")] 6

/-- java/lang/constant/Constable -/
def k4 : Class := { plain "java/lang/constant/Constable" (some 0) with
  accessFlags := 1537
  interfaces := #[]
  cf := some (fileOf pool4 1 #[] #[] 1537 3 #[] #[])
  fields := #[]
  methods := #[]
  instanceTypes := #[]
  staticTypes := #[]
  resolved := Array.replicate 11 none
  statics := none }

def pool5 : Array CpInfo := pool [(1, .class_ 2), (0, u "java/lang/Comparable"), (0, .class_ 4), (0, u "java/lang/Object")] 7

/-- java/lang/Comparable -/
def k5 : Class := { plain "java/lang/Comparable" (some 0) with
  accessFlags := 1537
  interfaces := #[]
  cf := some (fileOf pool5 1 #[] #[] 1537 3 #[] #[])
  fields := #[]
  methods := #[]
  instanceTypes := #[]
  staticTypes := #[]
  resolved := Array.replicate 12 none
  statics := none }

def pool6 : Array CpInfo := pool [(1, .class_ 2), (0, u "java/io/Serializable"), (0, .class_ 4), (0, u "java/lang/Object")] 2

/-- java/io/Serializable -/
def k6 : Class := { plain "java/io/Serializable" (some 0) with
  accessFlags := 1537
  interfaces := #[]
  cf := some (fileOf pool6 1 #[] #[] 1537 3 #[] #[])
  fields := #[]
  methods := #[]
  instanceTypes := #[]
  staticTypes := #[]
  resolved := Array.replicate 7 none
  statics := none }

def pool7 : Array CpInfo := pool [(2, .class_ 4), (1, u "java/lang/Enum"), (0, u "name"), (0, u "Ljava/lang/String;"), (0, .fieldref 2 8), (0, .nameAndType 9 10), (0, u "ordinal"), (0, u "I"), (1, .class_ 14), (1, u "java/lang/Object"), (4, u "hash"), (86, .class_ 108), (1, u "java/lang/Enum$EnumDesc"), (2, .class_ 112), (0, u "java/lang/constant/Constable"), (0, .class_ 114), (0, u "java/lang/Comparable"), (0, .class_ 116), (0, u "java/io/Serializable"), (9, u "()I")] 77

def k7c0 : Code := { maxStack := 1, maxLocals := 1, code := jdk_37_method_2_code, exceptionTable := #[], attributes := #[] }
def k7m0 : Method := { name := "ordinal", desc := "()I", sig := { parameters := [], returnType := some .int }, accessFlags := 17, code := some k7c0 }
/-- java/lang/Enum -/
def k7 : Class := { plain "java/lang/Enum" (some 0) with
  accessFlags := 1057
  interfaces := #[4, 5, 6]
  cf := some (fileOf pool7 2 #[.nestMembers #[106]] #[{ accessFlags := 17, nameIndex := 9, descriptorIndex := 126, attributes := #[] }] 1057 12 #[111, 113, 115] #[{ accessFlags := 18, nameIndex := 5, descriptorIndex := 6, attributes := #[] }, { accessFlags := 18, nameIndex := 9, descriptorIndex := 10, attributes := #[] }, { accessFlags := 2, nameIndex := 19, descriptorIndex := 10, attributes := #[] }])
  fields := #[{ name := "name", type := (.object "java/lang/String"), accessFlags := 18, slot := 0, constantValue := 0 }, { name := "ordinal", type := .int, accessFlags := 18, slot := 1, constantValue := 0 }, { name := "hash", type := .int, accessFlags := 2, slot := 2, constantValue := 0 }]
  methods := #[k7m0]
  instanceTypes := #[(.object "java/lang/String"), .int, .int]
  staticTypes := #[]
  resolved := Array.replicate 204 none
  statics := none }

def pool8 : Array CpInfo := pool [(1, .class_ 2), (0, u "com/example/sixfold/sixfold/rules/Kind"), (2, u "KING"), (0, u "Lcom/example/sixfold/sixfold/rules/Kind;"), (2, u "QUEEN"), (2, u "ROOK"), (2, u "BISHOP"), (2, u "KNIGHT"), (2, u "PAWN"), (2, u "$VALUES"), (0, u "[Lcom/example/sixfold/sixfold/rules/Kind;"), (6, .class_ 34), (1, u "java/lang/Enum"), (8, u "letter"), (0, u "C"), (2, u "steps"), (0, u "[[I"), (2, u "slides"), (0, u "Z"), (36, u "PROMOTIONS"), (0, u "Ljava/util/List;")] 16

/-- com/example/sixfold/sixfold/rules/Kind -/
def k8 : Class := { plain "com/example/sixfold/sixfold/rules/Kind" (some 7) with
  accessFlags := 16433
  interfaces := #[]
  cf := some (fileOf pool8 1 #[] #[] 16433 32 #[] #[{ accessFlags := 16409, nameIndex := 5, descriptorIndex := 6, attributes := #[] }, { accessFlags := 16409, nameIndex := 9, descriptorIndex := 6, attributes := #[] }, { accessFlags := 16409, nameIndex := 12, descriptorIndex := 6, attributes := #[] }, { accessFlags := 16409, nameIndex := 15, descriptorIndex := 6, attributes := #[] }, { accessFlags := 16409, nameIndex := 18, descriptorIndex := 6, attributes := #[] }, { accessFlags := 16409, nameIndex := 21, descriptorIndex := 6, attributes := #[] }, { accessFlags := 24, nameIndex := 89, descriptorIndex := 90, attributes := #[] }, { accessFlags := 18, nameIndex := 43, descriptorIndex := 44, attributes := #[] }, { accessFlags := 18, nameIndex := 47, descriptorIndex := 48, attributes := #[] }, { accessFlags := 18, nameIndex := 51, descriptorIndex := 52, attributes := #[] }, { accessFlags := 4122, nameIndex := 24, descriptorIndex := 25, attributes := #[] }])
  fields := #[{ name := "KING", type := (.object "com/example/sixfold/sixfold/rules/Kind"), accessFlags := 16409, slot := 0, constantValue := 0 }, { name := "QUEEN", type := (.object "com/example/sixfold/sixfold/rules/Kind"), accessFlags := 16409, slot := 1, constantValue := 0 }, { name := "ROOK", type := (.object "com/example/sixfold/sixfold/rules/Kind"), accessFlags := 16409, slot := 2, constantValue := 0 }, { name := "BISHOP", type := (.object "com/example/sixfold/sixfold/rules/Kind"), accessFlags := 16409, slot := 3, constantValue := 0 }, { name := "KNIGHT", type := (.object "com/example/sixfold/sixfold/rules/Kind"), accessFlags := 16409, slot := 4, constantValue := 0 }, { name := "PAWN", type := (.object "com/example/sixfold/sixfold/rules/Kind"), accessFlags := 16409, slot := 5, constantValue := 0 }, { name := "PROMOTIONS", type := (.object "java/util/List"), accessFlags := 24, slot := 6, constantValue := 0 }, { name := "letter", type := .char, accessFlags := 18, slot := 3, constantValue := 0 }, { name := "steps", type := (.array (.array .int)), accessFlags := 18, slot := 4, constantValue := 0 }, { name := "slides", type := .boolean, accessFlags := 18, slot := 5, constantValue := 0 }, { name := "$VALUES", type := (.array (.object "com/example/sixfold/sixfold/rules/Kind")), accessFlags := 4122, slot := 7, constantValue := 0 }]
  methods := #[]
  instanceTypes := #[(.object "java/lang/String"), .int, .int, .char, (.array (.array .int)), .boolean]
  staticTypes := #[(.object "com/example/sixfold/sixfold/rules/Kind"), (.object "com/example/sixfold/sixfold/rules/Kind"), (.object "com/example/sixfold/sixfold/rules/Kind"), (.object "com/example/sixfold/sixfold/rules/Kind"), (.object "com/example/sixfold/sixfold/rules/Kind"), (.object "com/example/sixfold/sixfold/rules/Kind"), (.object "java/util/List"), (.array (.object "com/example/sixfold/sixfold/rules/Kind"))]
  resolved := Array.replicate 107 none
  statics := some 0 }

def pool9 : Array CpInfo := pool [(1, u "java/lang/Cloneable"), (0, .class_ 1), (0, u "java/lang/Object"), (0, .class_ 3)] 3

/-- java/lang/Cloneable -/
def k9 : Class := { plain "java/lang/Cloneable" (some 0) with
  accessFlags := 1537
  interfaces := #[]
  cf := some (fileOf pool9 2 #[] #[] 1537 4 #[] #[])
  fields := #[]
  methods := #[]
  instanceTypes := #[]
  staticTypes := #[]
  resolved := Array.replicate 8 none
  statics := none }

/-- the primitive byte -/
def k10 : Class := { plain "byte" none with kind := .primitive 'B', accessFlags := 0x411 }
/-- [B -/
def k11 : Class := { plain "[B" (some 0) with kind := .array 10 .byte, interfaces := #[9, 6], accessFlags := 1041 }

/-- the primitive int -/
def k12 : Class := { plain "int" none with kind := .primitive 'I', accessFlags := 0x411 }
/-- [I -/
def k13 : Class := { plain "[I" (some 0) with kind := .array 12 .int, interfaces := #[9, 6], accessFlags := 1041 }

def heap : Heap := #[{ cls := 8, slots := #[.ref 1, .ref 2, .ref 3, .ref 4, .ref 5, .ref 6, .null, .null], vm := .statics 8 },
  { cls := 8, slots := #[.null, .int 0, .int 0, .int 0, .null, .int 0], vm := .none },
  { cls := 8, slots := #[.null, .int 1, .int 0, .int 0, .null, .int 0], vm := .none },
  { cls := 8, slots := #[.null, .int 2, .int 0, .int 0, .null, .int 0], vm := .none },
  { cls := 8, slots := #[.null, .int 3, .int 0, .int 0, .null, .int 0], vm := .none },
  { cls := 8, slots := #[.null, .int 4, .int 0, .int 0, .null, .int 0], vm := .none },
  { cls := 8, slots := #[.null, .int 5, .int 0, .int 0, .null, .int 0], vm := .none }]
def classes : Array Class := #[k0, k1, k2, k3, k4, k5, k6, k7, k8, k9, k10, k11, k12, k13]
def interned : List (Array UInt16 × Addr) := []
def slotsUsed : Nat := 44
def theMethod : MethodId := ⟨1, 1⟩
def args0 : Array Value := #[.int 5, .int 3]
def aboutOver (below : List Frame) : State where
  vm := { classes := classes, interned := interned.toArray }
  heap := heap
  slotsUsed := slotsUsed
  threads := #[{ frames := .invoking theMethod args0 :: below }]
def below0 : List Frame := [.native { method := ⟨0, 0⟩, args := #[] }]
def about1 : State := aboutOver below0
def p0 : Program := .bare "" "" ""
def e0 : Env := launch0.env 0 0 0
theorem w_frames : about1.frames = Frame.invoking theMethod args0 :: below0 := rfl
set_option maxRecDepth 65536 in
theorem w_args : argsFit about1.vm theMethod args0 = true := by decide +kernel
set_option maxRecDepth 65536 in
theorem w_heap : heapFits about1 = true := by decide +kernel
set_option maxRecDepth 65536 in
theorem w_runnable : about1.curStatus? = some .runnable := by decide +kernel
set_option maxRecDepth 65536 in
theorem w_alone : about1.alone = true := by decide +kernel
set_option maxRecDepth 65536 in
theorem w_named : about1.methodNamed? x = some theMethod := by decide +kernel
set_option maxRecDepth 65536 in
theorem w_hears : about1.hears theMethod below0 = true := by decide +kernel
set_option maxRecDepth 65536 in
theorem w_ripe : about1.ripe theMethod args0 below0 = true := by decide +kernel
theorem w_running : about1.status = .running := rfl
set_option maxRecDepth 65536 in
theorem w_room : about1.hasRoom e0.platform room_1 = true :=
  launch0.hasRoom_least _ room_1 (by decide +kernel) (by decide +kernel) (by decide +kernel) (by decide +kernel) (by decide +kernel) (by decide +kernel)
theorem allAtoms_all (ts : List Jvm.Cond) (a : Array Jvm.Value) (st : Jvm.State) : (allAtoms ts).before a st = ts.all (fun c => c.before a st) := by
  induction ts with
  | nil => rfl
  | cons c t ih =>
    show (Jvm.Cond.and c (allAtoms t)).before a st = _
    rw [Jvm.Cond.before_and, ih, List.all_cons]
def words1 : List Jvm.Cond := Jvm.Cond.code x code maxLocals ret :: tables_1
/-- a 'code' word, met by the world's own term for the bytes: nothing is compared byte by byte -/
theorem code_word {y : MethodName} {bytes : ByteArray} {mx : Nat} {rt : Option FieldType} {a : Array Value} {s : State} {m : MethodId} {meth : Method} {c : Code} (h1 : s.methodNamed? y = some m) (h2 : s.vm.method? m = some meth) (h3 : meth.code = some c) (h4 : c.code = bytes)
    (h5 : (c.maxLocals == mx && c.exceptionTable.isEmpty && decide (c.maxStack ≤ mostOperands) && decide (meth.sig.returnType = rt) && !meth.locks && decide (parseMethodDescriptor y.desc = some meth.sig)) = true) : (Jvm.Cond.code y bytes mx rt).before a s = true := by
  simp only [Bool.and_eq_true, beq_iff_eq, Bool.not_eq_true', decide_eq_true_eq] at h5
  obtain ⟨⟨⟨⟨⟨g1, g2⟩, g3⟩, g4⟩, g5⟩, g6⟩ := h5
  simp [Cond.before, Cond.holds, Cond.value, h1, h2, h3, h4, g1, g2, g3, g4, g5, g6]
def isCode : Jvm.Cond → Bool
  | .code _ _ _ _ => true
  | _ => false
theorem all_split {L : List Jvm.Cond} {P : Jvm.Cond → Bool} (h1 : L.all (fun c => isCode c || P c) = true) (h2 : ∀ c ∈ L.filter isCode, P c = true) : L.all P = true := by
  refine List.all_eq_true.mpr fun c hc => ?_
  have h := List.all_eq_true.mp h1 c hc
  rcases Bool.eq_false_or_eq_true (isCode c) with hi | hi
  · exact h2 c (List.mem_filter.mpr ⟨hc, hi⟩)
  · simpa [hi] using h
set_option maxRecDepth 65536 in
theorem w_c0 : (Jvm.Cond.code x code maxLocals ret).before args0 about1 = true := code_word (m := ⟨1, 1⟩) (meth := k1m1) (c := k1c1) (by decide +kernel) rfl rfl rfl (by decide +kernel)
set_option maxRecDepth 65536 in
theorem w_c1 : (Jvm.Cond.code ({ cls := "com/example/sixfold/sixfold/rules/Direction", name := "<init>", desc := "([III)V" } : Jvm.MethodName) prog_8_method_1_code (4 : Nat) (Option.none : Option Jvm.ClassFile.FieldType)).before args0 about1 = true := code_word (m := ⟨3, 0⟩) (meth := k3m0) (c := k3c0) (by decide +kernel) rfl rfl rfl (by decide +kernel)
set_option maxRecDepth 65536 in
theorem w_c2 : (Jvm.Cond.code ({ cls := "java/lang/Record", name := "<init>", desc := "()V" } : Jvm.MethodName) jdk_30_method_1_code (1 : Nat) (Option.none : Option Jvm.ClassFile.FieldType)).before args0 about1 = true := code_word (m := ⟨2, 0⟩) (meth := k2m0) (c := k2c0) (by decide +kernel) rfl rfl rfl (by decide +kernel)
set_option maxRecDepth 65536 in
theorem w_c3 : (Jvm.Cond.code ({ cls := "java/lang/Object", name := "<init>", desc := "()V" } : Jvm.MethodName) object_method_1_code (1 : Nat) (Option.none : Option Jvm.ClassFile.FieldType)).before args0 about1 = true := code_word (m := ⟨0, 0⟩) (meth := k0m0) (c := k0c0) (by decide +kernel) rfl rfl rfl (by decide +kernel)
set_option maxRecDepth 65536 in
theorem w_c4 : (Jvm.Cond.code ({ cls := "com/example/sixfold/sixfold/rules/Direction", name := "isSlidAlong", desc := "()Z" } : Jvm.MethodName) prog_8_method_2_code (1 : Nat) (Option.some Jvm.ClassFile.FieldType.boolean)).before args0 about1 = true := code_word (m := ⟨3, 1⟩) (meth := k3m1) (c := k3c1) (by decide +kernel) rfl rfl rfl (by decide +kernel)
set_option maxRecDepth 65536 in
theorem w_c5 : (Jvm.Cond.code ({ cls := "com/example/sixfold/sixfold/rules/Direction", name := "moves", desc := "(Lcom/example/sixfold/sixfold/rules/Kind;Z)Z" } : Jvm.MethodName) prog_8_method_3_code (3 : Nat) (Option.some Jvm.ClassFile.FieldType.boolean)).before args0 about1 = true := code_word (m := ⟨3, 2⟩) (meth := k3m2) (c := k3c2) (by decide +kernel) rfl rfl rfl (by decide +kernel)
set_option maxRecDepth 65536 in
theorem w_c6 : (Jvm.Cond.code ({ cls := "java/lang/Enum", name := "ordinal", desc := "()I" } : Jvm.MethodName) jdk_37_method_2_code (1 : Nat) (Option.some Jvm.ClassFile.FieldType.int)).before args0 about1 = true := code_word (m := ⟨7, 0⟩) (meth := k7m0) (c := k7c0) (by decide +kernel) rfl rfl rfl (by decide +kernel)
def codes1 : List Jvm.Cond := [Jvm.Cond.code x code maxLocals ret, Jvm.Cond.code ({ cls := "com/example/sixfold/sixfold/rules/Direction", name := "<init>", desc := "([III)V" } : Jvm.MethodName) prog_8_method_1_code (4 : Nat) (Option.none : Option Jvm.ClassFile.FieldType), Jvm.Cond.code ({ cls := "java/lang/Record", name := "<init>", desc := "()V" } : Jvm.MethodName) jdk_30_method_1_code (1 : Nat) (Option.none : Option Jvm.ClassFile.FieldType), Jvm.Cond.code ({ cls := "java/lang/Object", name := "<init>", desc := "()V" } : Jvm.MethodName) object_method_1_code (1 : Nat) (Option.none : Option Jvm.ClassFile.FieldType), Jvm.Cond.code ({ cls := "com/example/sixfold/sixfold/rules/Direction", name := "isSlidAlong", desc := "()Z" } : Jvm.MethodName) prog_8_method_2_code (1 : Nat) (Option.some Jvm.ClassFile.FieldType.boolean), Jvm.Cond.code ({ cls := "com/example/sixfold/sixfold/rules/Direction", name := "moves", desc := "(Lcom/example/sixfold/sixfold/rules/Kind;Z)Z" } : Jvm.MethodName) prog_8_method_3_code (3 : Nat) (Option.some Jvm.ClassFile.FieldType.boolean), Jvm.Cond.code ({ cls := "java/lang/Enum", name := "ordinal", desc := "()I" } : Jvm.MethodName) jdk_37_method_2_code (1 : Nat) (Option.some Jvm.ClassFile.FieldType.int)]
set_option maxRecDepth 65536 in
theorem codes_eq : words1.filter isCode = codes1 := rfl
theorem w_codes : ∀ c ∈ words1.filter isCode, c.before args0 about1 = true := by
  rw [codes_eq]
  intro c hc
  simp only [codes1, List.mem_cons, List.not_mem_nil, or_false] at hc
  rcases hc with rfl | rfl | rfl | rfl | rfl | rfl | rfl
  · exact w_c0
  · exact w_c1
  · exact w_c2
  · exact w_c3
  · exact w_c4
  · exact w_c5
  · exact w_c6
set_option maxRecDepth 65536 in
theorem w_t1 : (words1.take 24).all (fun c => isCode c || c.before args0 about1) = true := by decide +kernel
set_option maxRecDepth 65536 in
theorem w_t2 : ((words1.drop 24).take 24).all (fun c => isCode c || c.before args0 about1) = true := by decide +kernel
set_option maxRecDepth 65536 in
theorem w_t3 : ((words1.drop 24).drop 24).all (fun c => isCode c || c.before args0 about1) = true := by decide +kernel
theorem w_tables : (allAtoms (Jvm.Cond.code x code maxLocals ret :: tables_1)).before args0 about1 = true := by
  rw [allAtoms_all]
  show words1.all (fun c => c.before args0 about1) = true
  refine all_split ?_ w_codes
  rw [← List.take_append_drop 24 words1, List.all_append, w_t1, ← List.take_append_drop 24 (words1.drop 24), List.all_append, w_t2, w_t3]
  rfl
set_option maxRecDepth 65536 in
theorem w_case : (Jvm.Cond.and given_1 narrow_1).before args0 about1 = true := by decide +kernel
theorem w_applies : (headSpec (Jvm.Cond.code x code maxLocals ret :: tables_1) room_1).applies x e0.platform about1 = true :=
  (Spec.applies_iff w_frames).mpr ⟨w_running, w_runnable, w_alone, w_named, w_hears, w_ripe, w_room, w_tables⟩
theorem atStart : AtStart classFile x code maxLocals ret World_1 tables_1 room_1 Calls_1 rest_1 Pre_1 launch0 p0 e0 about1 theMethod args0 below0 :=
  ⟨lists_1, trivial, launch0.admits_env _ _ _, launch0.least_env, fairChoices_fair.cas, fairChoices_fair.clock, w_frames, w_args, w_heap, w_applies, trivial, trivial, w_case⟩
end start1
theorem witness_1 : WitnessClaimed_1 := ⟨start1.p0, start1.e0, start1.about1, start1.theMethod, start1.args0, start1.below0, start1.atStart⟩
end Jvm.Pilot.@@N@@
