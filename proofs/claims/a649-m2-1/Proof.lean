import JvmDerived
import JvmDerived.Pilot.@@N@@Statement
import JvmDerived.Pilot.@@N@@Code
set_option linter.unusedVariables false
set_option linter.unusedSimpArgs false
namespace Jvm.Pilot.@@N@@
open Jvm Jvm.ClassFile Sem Op Lib Jvm.Free Jvm.Stand Jvm.LawKit Jvm.RoadKit Bundle Jvm.Pilot.@@N@@.Jvm.D
/-! what is left of a run: it comes to its end, and there Q holds -/
def oG (p : Program) (e : Env) (below : List Frame) (s : State) (Q : Option Value → Heap → List Loc → Prop) (rc rs : Nat) (S : State) : Prop :=
  ∃ s₂ o, Steps p.tables e below S s₂ ∧ s₂.status = .running ∧ Ended s₂ below o ∧ ∃ v L, o = .returned v ∧ Q v s₂.heap L ∧ FrameEnd s o s₂ L rc rs
theorem oS {p : Program} {e : Env} {below : List Frame} {s : State} {Q : Option Value → Heap → List Loc → Prop} {rc rs : Nat} {S S' : State} (k : ∀ t, Steps p.tables e below S' t → Steps p.tables e below S t) (g : oG p e below s Q rc rs S') : oG p e below s Q rc rs S := by
  obtain ⟨s₂, o, h1, h2⟩ := g
  exact ⟨s₂, o, k _ h1, h2⟩
theorem own_ret {p : Program} {l : Launch} {e : Env} {R : Room} {s : State} {m : MethodId} {args : Array Value} {below : List Frame} {meth : Method} {c : Code} {T : State} {locs : List Loc} {cells slots : Nat} {Q : Option Value → Heap → List Loc → Prop} {rc rs : Nat} {S : State} {v : Option Value} (X : Stand p l e R s m args below meth c T locs cells slots) (hv : meth.sig.returnType = none → v = none) (hlocks : meth.locks = false)
    (st : ∀ fs, (∀ (f : JFrame) (acts : List Action), f.method = m → f.locked = none → f.entered = [] → (doReturn e (T.setTop f) acts v).1 = T.setFrames fs) → Steps p.tables e below S (T.setFrames fs)) (q : Q v T.heap locs) (hc : cells ≤ rc) (hs : slots ≤ rs) : oG p e below s Q rc rs S := by
  obtain ⟨fs, hr, hrun, hended, hW, hsame⟩ := X.leave hv hlocks
  exact ⟨_, _, st fs hr, hrun, hended, _, _, rfl, q, ⟨_, rfl⟩, hW, hsame.mono hc hs⟩
theorem oW {a0 : Array Value} {Z : State} (hw : ∀ d ∈ tables_1, d.before a0 Z = true) (i : Nat) {d : Jvm.Cond} (h : tables_1[i]? = some d) : d.before a0 Z = true := hw _ (List.mem_of_getElem? h)
theorem own_eqv {args : Array Value} {s : State} {a b : Term} {v : Value} (h : (Jvm.Cond.eq a b).value args s none s [] = some true) (hb : b.eval args s none [] s = some v) : a.eval args s none [] s = some v := by
  obtain ⟨x, y, ha, hb', -, -⟩ := cmp_v (Or.inl h)
  cases hb.symm.trans hb'
  rw [ha]
  cases x <;> cases v <;> simp [Cond.value, ha, hb] at h ⊢ <;> exact h
theorem own_len {args : Array Value} {s : State} {t : Term} {a : Addr} {cl : Cell} {ty : FieldType} {z : Int32} (h : (Term.length t).eval args s none [] s = some (.int z)) (ht : t.eval args s none [] s = some (.ref a)) (A : Arr s s.heap a cl ty) : cl.slots.size < 2 ^ 31 ∧ cl.slots.size.toInt32 = z := by
  have hA := A.fin (Vm.Alike.refl _)
  obtain ⟨a', cell, h1, h2, h3⟩ := Term.length_spec h
  cases ht.symm.trans h1
  cases hA.symm.trans h2
  refine ⟨?_, (Value.int.inj h3).symm⟩
  simp only [Term.eval, ht, hA, Option.bind_eq_bind, Option.bind_some] at h
  split at h
  · assumption
  · cases h
theorem own_sz {n : Nat} {z : Int32} (h1 : n < 2 ^ 31) (h2 : n.toInt32 = z) : n = z.toNatClampNeg := by
  rw [← h2]; simp only [Int32.toNatClampNeg, len_toInt h1]; rfl
theorem own_box {args : Array Value} {s : State} {t : Term} {a : Addr} {c : Cell} {K : String} {G : Jvm.Cond} (et : ∀ idx, t.eval args s none idx s = some (.ref a)) (A : Arr s s.heap a c (.object K)) (h : (Jvm.Cond.all t (.and (.exactly (.elem t (.index 0)) K) G)).value args s none s [] = some true) :
    ∀ j : Int32, ¬ (j < 0 ∨ c.slots.size ≤ j.toNatClampNeg) → ∃ b : Addr, c.slots[j.toNatClampNeg]? = some (.ref b) ∧ Exa s s.heap b K := fun j hj => by
  have nn : ¬ j < 0 := fun x => hj (Or.inl x)
  obtain ⟨u1, -⟩ := and_e (Cond.all_elim (et []) (A.fin (Vm.Alike.refl _)) h j.toNatClampNeg (Nat.lt_of_not_le fun x => hj (Or.inr x)))
  obtain ⟨b, eb⟩ := exa_v u1
  exact ⟨b, (elem_f (et _) (idx_at nn) (A.fin (Vm.Alike.refl _)) nn).symm.trans eb, exa_at eb u1⟩
theorem own_neI {Z : State} {h : Heap} {a b : Addr} {C n d : String} {x y : Int32} (F : Fld Z h a C n d (.int x)) (G : Fld Z h b C n d (.int y)) (hn : x ≠ y) : ¬ a = b := fun e => by
  subst e
  obtain ⟨c1, cf1, k1, i1, f1, a1, a2, -, -, -, -, a7⟩ := F
  obtain ⟨c2, cf2, k2, i2, f2, b1, b2, -, -, -, -, b7⟩ := G
  cases a1.symm.trans b1
  cases a2.symm.trans b2
  cases a7.symm.trans b7
  exact hn rfl
theorem own_neJ {Z : State} {h : Heap} {a b : Addr} {C n d : String} {x y : Int64} (F : Fld Z h a C n d (.long x)) (G : Fld Z h b C n d (.long y)) (hn : x ≠ y) : ¬ a = b := fun e => by
  subst e
  obtain ⟨c1, cf1, k1, i1, f1, a1, a2, -, -, -, -, a7⟩ := F
  obtain ⟨c2, cf2, k2, i2, f2, b1, b2, -, -, -, -, b7⟩ := G
  cases a1.symm.trans b1
  cases a2.symm.trans b2
  cases a7.symm.trans b7
  exact hn rfl
theorem own_par (p : Int32) : (p &&& (1 : Int32)) = (1 : Int32) ↔ ¬ (p % (2 : Int32)) = (0 : Int32) := by
  have h1 : (p &&& (1 : Int32)).toInt = p.toInt % 2 := c_mask p 1 1 (by decide) (by decide)
  have h2 := c_irem p 2 2 rfl
  have e0 : (0 : Int32).toInt = 0 := rfl
  have e1 : (1 : Int32).toInt = 1 := rfl
  rw [← Int32.toInt_inj, ← Int32.toInt_inj, h1, e0, e1]
  rcases Int.lt_or_le p.toInt 0 with h | h
  · have := h2.2 h; omega
  · have := h2.1 h; omega
theorem own_par' (p : Int32) (h : ¬ (p &&& (1 : Int32)) = (1 : Int32)) : (p % (2 : Int32)) = (0 : Int32) := Classical.byContradiction fun q => h ((own_par p).mpr q)
def own_World (Z : State) (w : Nat → Addr) : Prop := Sta Z Z.heap "com/example/gluebox/gluebox/PageSequenceMaster$OddOrEven" "ODD" "Lcom/example/gluebox/gluebox/PageSequenceMaster$OddOrEven;" (.ref (w 0)) ∧ Exa Z Z.heap (w 0) "com/example/gluebox/gluebox/PageSequenceMaster$OddOrEven" ∧ Sta Z Z.heap "com/example/gluebox/gluebox/PageSequenceMaster$OddOrEven" "ANY" "Lcom/example/gluebox/gluebox/PageSequenceMaster$OddOrEven;" (.ref (w 1)) ∧ Exa Z Z.heap (w 1) "com/example/gluebox/gluebox/PageSequenceMaster$OddOrEven" ∧ Sta Z Z.heap "com/example/gluebox/gluebox/PageSequenceMaster$OddOrEven" "EVEN" "Lcom/example/gluebox/gluebox/PageSequenceMaster$OddOrEven;" (.ref (w 2)) ∧ Exa Z Z.heap (w 2) "com/example/gluebox/gluebox/PageSequenceMaster$OddOrEven" ∧ Fld Z Z.heap (w 0) "java/lang/Enum" "ordinal" "I" (.int 0) ∧ Fld Z Z.heap (w 1) "java/lang/Enum" "ordinal" "I" (.int 2) ∧ Fld Z Z.heap (w 2) "java/lang/Enum" "ordinal" "I" (.int 1)
theorem own_world {args : Array Value} {s : State} (hw : ∀ d ∈ tables_1, d.before args s = true) (hfit : Fit s) (hn : narrow_1.value args s none s [] = some true) : ∃ w : Nat → Addr, own_World s w := by
  obtain ⟨h0, q1⟩ := and_e hn
  obtain ⟨h1, q3⟩ := and_e q1
  obtain ⟨h2, q5⟩ := and_e q3
  obtain ⟨h3, q7⟩ := and_e q5
  obtain ⟨h4, h5⟩ := and_e q7
  obtain ⟨c0, e0⟩ := exa_v h0
  obtain ⟨c1, e1⟩ := exa_v h1
  obtain ⟨c2, e2⟩ := exa_v h4
  exact ⟨fun n => ([c0, c1, c2] : List Nat).getD n 0, Sta.start e0 (Or.inr ⟨(oW hw 1 rfl), (oW hw 2 rfl)⟩), Exa.start e0 h0, Sta.start e1 (Or.inr ⟨(oW hw 1 rfl), (oW hw 9 rfl)⟩), Exa.start e1 h1, Sta.start e2 (Or.inr ⟨(oW hw 1 rfl), (oW hw 12 rfl)⟩), Exa.start e2 h4, Fld.start ((fld_at e0).symm.trans (own_eqv h2 rfl)), Fld.start ((fld_at e1).symm.trans (own_eqv h3 rfl)), Fld.start ((fld_at e2).symm.trans (own_eqv h5 rfl))⟩
theorem wS0 {Z : State} {w : Nat → Addr} (W : own_World Z w) : Sta Z Z.heap "com/example/gluebox/gluebox/PageSequenceMaster$OddOrEven" "ODD" "Lcom/example/gluebox/gluebox/PageSequenceMaster$OddOrEven;" (.ref (w 0)) := W.1
theorem wE0 {Z : State} {w : Nat → Addr} (W : own_World Z w) : Exa Z Z.heap (w 0) "com/example/gluebox/gluebox/PageSequenceMaster$OddOrEven" := W.2.1
theorem wS1 {Z : State} {w : Nat → Addr} (W : own_World Z w) : Sta Z Z.heap "com/example/gluebox/gluebox/PageSequenceMaster$OddOrEven" "ANY" "Lcom/example/gluebox/gluebox/PageSequenceMaster$OddOrEven;" (.ref (w 1)) := W.2.2.1
theorem wE1 {Z : State} {w : Nat → Addr} (W : own_World Z w) : Exa Z Z.heap (w 1) "com/example/gluebox/gluebox/PageSequenceMaster$OddOrEven" := W.2.2.2.1
theorem wS2 {Z : State} {w : Nat → Addr} (W : own_World Z w) : Sta Z Z.heap "com/example/gluebox/gluebox/PageSequenceMaster$OddOrEven" "EVEN" "Lcom/example/gluebox/gluebox/PageSequenceMaster$OddOrEven;" (.ref (w 2)) := W.2.2.2.2.1
theorem wE2 {Z : State} {w : Nat → Addr} (W : own_World Z w) : Exa Z Z.heap (w 2) "com/example/gluebox/gluebox/PageSequenceMaster$OddOrEven" := W.2.2.2.2.2.1
theorem wF0_ordinal {Z : State} {w : Nat → Addr} (W : own_World Z w) : Fld Z Z.heap (w 0) "java/lang/Enum" "ordinal" "I" (.int 0) := W.2.2.2.2.2.2.1
theorem wF1_ordinal {Z : State} {w : Nat → Addr} (W : own_World Z w) : Fld Z Z.heap (w 1) "java/lang/Enum" "ordinal" "I" (.int 2) := W.2.2.2.2.2.2.2.1
theorem wF2_ordinal {Z : State} {w : Nat → Addr} (W : own_World Z w) : Fld Z Z.heap (w 2) "java/lang/Enum" "ordinal" "I" (.int 1) := W.2.2.2.2.2.2.2.2
theorem d1_0 : decode prog_29_method_4_code 0 = .ok (.aload_n 0, 1) := by decide +kernel
theorem d1_1 : decode prog_29_method_4_code 1 = .ok (.getstatic 10, 3) := by decide +kernel
theorem d1_4 : decode prog_29_method_4_code 4 = .ok (.if_acmp .eq 29, 3) := by decide +kernel
theorem d1_7 : decode prog_29_method_4_code 7 = .ok (.iload_n 1, 1) := by decide +kernel
theorem d1_8 : decode prog_29_method_4_code 8 = .ok (.iconst 2, 1) := by decide +kernel
theorem d1_9 : decode prog_29_method_4_code 9 = .ok (.irem, 1) := by decide +kernel
theorem d1_10 : decode prog_29_method_4_code 10 = .ok (.ifCond .eq 7, 3) := by decide +kernel
theorem d1_17 : decode prog_29_method_4_code 17 = .ok (.iconst 0, 1) := by decide +kernel
theorem d1_18 : decode prog_29_method_4_code 18 = .ok (.aload_n 0, 1) := by decide +kernel
theorem d1_19 : decode prog_29_method_4_code 19 = .ok (.getstatic 3, 3) := by decide +kernel
theorem d1_22 : decode prog_29_method_4_code 22 = .ok (.if_acmp .ne 7, 3) := by decide +kernel
theorem d1_25 : decode prog_29_method_4_code 25 = .ok (.iconst 1, 1) := by decide +kernel
theorem d1_26 : decode prog_29_method_4_code 26 = .ok (.goto 4, 3) := by decide +kernel
theorem d1_30 : decode prog_29_method_4_code 30 = .ok (.if_icmp .ne 7, 3) := by decide +kernel
theorem d1_37 : decode prog_29_method_4_code 37 = .ok (.iconst 0, 1) := by decide +kernel
theorem d1_38 : decode prog_29_method_4_code 38 = .ok (.ireturn, 1) := by decide +kernel
abbrev mY0 : MethodName := (⟨"com/example/gluebox/gluebox/PageSequenceMaster$OddOrEven", "holds", "(I)Z"⟩ : MethodName)
theorem ef_1_ri (m : MethodId) (x0 : Addr) (x1 : Int32) : entryFrame m #[(.ref x0), (.int x1)] 2 = mkF m 0 #[.val (.ref x0), .val (.int x1)] [] := by first | (simp [entryFrame, mkF, argsToLocals, Value.category]; done) | rfl
theorem pn_0 : plainName "com/example/gluebox/gluebox/PageSequenceMaster$OddOrEven" = true := by first | (simp [plainName, overriddenIn]; done) | decide +kernel
def Q_holds_ODD_1 (Z : State) (p1 : Int32) (w : Nat → Addr) (h0 : Heap) (n0 : Nat) (v : Option Value) (h : Heap) (L : List Loc) : Prop := v = some (.int 0) ∧ Fr n0 L ∧ h = h0
set_option maxRecDepth 65536 in
set_option maxHeartbeats 40000000 in
theorem rm_holds_ODD_1 (l : Launch) (Z : State) (a0 : Array Value) (hw : ∀ d ∈ tables_1, d.before a0 Z = true) (ws : List Jvm.Cond) (p1 : Int32) (w : Nat → Addr) (h0 : Heap) (n0 : Nat) (O0 : Old Z n0 h0) (W : own_World Z w) (hp : (p1 % (2 : Int32)) = (0 : Int32)) :
    MetFree l mY0 (head1 (Jvm.Cond.code mY0 prog_29_method_4_code 2 (some .boolean) :: ws) ({ frames := 0, cells := 0, slots := 0, locals := 0 } : Room)) (fun a U => a = #[(.ref (w 0)), (.int p1)] ∧ Z.Warmed39 U.vm ∧ U.heap = h0) (fun _ _ _ _ _ => True) (fun _ U o U' => ∃ v L, o = .returned v ∧ Q_holds_ODD_1 Z p1 w h0 n0 v U'.heap L ∧ FrameEnd U o U' L ({ frames := 0, cells := 0, slots := 0, locals := 0 } : Room).cells ({ frames := 0, cells := 0, slots := 0, locals := 0 } : Room).slots) := by
  refine MetFree.of_bodySF (plainFor_of_name pn_0) hisR ?_
  intro p e s m args below meth c s₁ Bd hml0 hP hK
  obtain ⟨rfl, hZ, hh⟩ := hP
  have hx := Bd.exec
  have hby := Bd.bytes
  have hml : c.maxLocals = 2 := hml0
  have hown : s.vm.findClass "com/example/gluebox/gluebox/PageSequenceMaster$OddOrEven" = some m.cls := findClass_of_methodNamed Bd.named
  have hnm := (name_of_methodNamed Bd.named Bd.method).1
  have X0 : Stand p l e ({ frames := 0, cells := 0, slots := 0, locals := 0 } : Room) s m #[(.ref (w 0)), (.int p1)] below meth c s₁ [] 0 0 := Stand.of_body Bd
  have e0 : s₁.heap = h0 := by rw [← hh, Bd.state]; rfl
  have N0 := Fr.nil n0
  show oG p e below s (Q_holds_ODD_1 Z p1 w h0 n0) ({ frames := 0, cells := 0, slots := 0, locals := 0 } : Room).cells ({ frames := 0, cells := 0, slots := 0, locals := 0 } : Room).slots _
  refine oS (fun t k => castTop (ef_1_ri m (w 0) p1) k) ?_
  show oG _ _ _ _ _ _ _ (s₁.setTop (mkF m 0 #[.val (.ref (w 0)), .val (.int p1)] []))
  refine oS (fun t k => XS.aloadN X0.here hx rfl (hb hby d1_0) rfl rfl k) ?_
  obtain ⟨T1, X1, e1, st1⟩ := getS2 X0 hx hZ hown (host := "") (Or.inl (oW hw 8 rfl)) Via.refl e0 ((wS1 W).ext O0.2) (g := (mkF m 1 #[.val (.ref (w 0)), .val (.int p1)] [(.ref (w 0))])) rfl (hb hby d1_1)
  refine oS (fun t k => st1 t k) ?_
  refine oS (fun t k => Jvm.RoadKit.acmp (g := (mkF m 4 #[.val (.ref (w 0)), .val (.int p1)] [(.ref (w 1)), (.ref (w 0))])) X1 hx rfl rfl rfl (pc0 := 4) (pc' := 7) (same := false) rfl (hb hby d1_4) rfl (decide_eq_false fun q => (own_neI (wF0_ordinal W) (wF1_ordinal W) (by decide)) (Value.ref.inj q)) (by decide) (by decide) k) ?_
  refine oS (fun t k => XS.iloadN X1.here hx rfl (hb hby d1_7) rfl k) ?_
  refine oS (fun t k => XS.iconst X1.here hx rfl (hb hby d1_8) k) ?_
  refine oS (fun t k => iremM X1 hx rfl (hb hby d1_9) rfl (by decide) k) ?_
  refine oS (fun t k => XS.ifYes X1.here hx rfl (pc0 := 10) (pc' := 17) rfl (hb hby d1_10) rfl ((if0 _ _).trans (teq hp).1) (by decide) (by decide) k) ?_
  refine oS (fun t k => XS.iconst X1.here hx rfl (hb hby d1_17) k) ?_
  refine oS (fun t k => XS.aloadN X1.here hx rfl (hb hby d1_18) rfl rfl k) ?_
  obtain ⟨T2, X2, e2, st2⟩ := getS2 X1 hx hZ hown (host := "") (Or.inl (oW hw 10 rfl)) Via.refl e1 ((wS0 W).ext O0.2) (g := (mkF m 19 #[.val (.ref (w 0)), .val (.int p1)] [(.ref (w 0)), (.int 0)])) rfl (hb hby d1_19)
  refine oS (fun t k => st2 t k) ?_
  show oG _ _ _ _ _ _ _ (T2.setTop (mkF m 22 #[.val (.ref (w 0)), .val (.int p1)] [(.ref (w 0)), (.ref (w 0)), (.int 0)]))
  refine oS (fun t k => Jvm.RoadKit.acmp (g := (mkF m 22 #[.val (.ref (w 0)), .val (.int p1)] [(.ref (w 0)), (.ref (w 0)), (.int 0)])) X2 hx rfl rfl rfl (pc0 := 22) (pc' := 25) (same := true) rfl (hb hby d1_22) rfl (decide_eq_true rfl) (by decide) (by decide) k) ?_
  refine oS (fun t k => XS.iconst X2.here hx rfl (hb hby d1_25) k) ?_
  refine oS (fun t k => XS.goto X2.here hx rfl (pc0 := 26) (pc' := 30) rfl (hb hby d1_26) (by decide) (by decide) k) ?_
  refine oS (fun t k => XS.icmpYes X2.here hx rfl (pc0 := 30) (pc' := 37) rfl (hb hby d1_30) rfl (feq (by decide)).2 (by decide) (by decide) k) ?_
  refine oS (fun t k => XS.iconst X2.here hx rfl (hb hby d1_37) k) ?_
  exact own_ret (v := some (.int 0)) X2 (fun h => by rw [Bd.returns] at h; cases h) Bd.notSynchronized (fun fs hr => retN X2 hx (t := .boolean) Bd.returns (by simp) (hb hby d1_38) hr) (by rw [e2]; exact ⟨rfl, N0, rfl⟩) (by decide) (by decide)
theorem d1_13 : decode prog_29_method_4_code 13 = .ok (.iconst 1, 1) := by decide +kernel
theorem d1_14 : decode prog_29_method_4_code 14 = .ok (.goto 4, 3) := by decide +kernel
theorem d1_33 : decode prog_29_method_4_code 33 = .ok (.iconst 1, 1) := by decide +kernel
theorem d1_34 : decode prog_29_method_4_code 34 = .ok (.goto 4, 3) := by decide +kernel
def Q_holds_ODD_0 (Z : State) (p1 : Int32) (w : Nat → Addr) (h0 : Heap) (n0 : Nat) (v : Option Value) (h : Heap) (L : List Loc) : Prop := v = some (.int 1) ∧ Fr n0 L ∧ h = h0
set_option maxRecDepth 65536 in
set_option maxHeartbeats 40000000 in
theorem rm_holds_ODD_0 (l : Launch) (Z : State) (a0 : Array Value) (hw : ∀ d ∈ tables_1, d.before a0 Z = true) (ws : List Jvm.Cond) (p1 : Int32) (w : Nat → Addr) (h0 : Heap) (n0 : Nat) (O0 : Old Z n0 h0) (W : own_World Z w) (hp : ¬ ((p1 % (2 : Int32)) = (0 : Int32))) :
    MetFree l mY0 (head1 (Jvm.Cond.code mY0 prog_29_method_4_code 2 (some .boolean) :: ws) ({ frames := 0, cells := 0, slots := 0, locals := 0 } : Room)) (fun a U => a = #[(.ref (w 0)), (.int p1)] ∧ Z.Warmed39 U.vm ∧ U.heap = h0) (fun _ _ _ _ _ => True) (fun _ U o U' => ∃ v L, o = .returned v ∧ Q_holds_ODD_0 Z p1 w h0 n0 v U'.heap L ∧ FrameEnd U o U' L ({ frames := 0, cells := 0, slots := 0, locals := 0 } : Room).cells ({ frames := 0, cells := 0, slots := 0, locals := 0 } : Room).slots) := by
  refine MetFree.of_bodySF (plainFor_of_name pn_0) hisR ?_
  intro p e s m args below meth c s₁ Bd hml0 hP hK
  obtain ⟨rfl, hZ, hh⟩ := hP
  have hx := Bd.exec
  have hby := Bd.bytes
  have hml : c.maxLocals = 2 := hml0
  have hown : s.vm.findClass "com/example/gluebox/gluebox/PageSequenceMaster$OddOrEven" = some m.cls := findClass_of_methodNamed Bd.named
  have hnm := (name_of_methodNamed Bd.named Bd.method).1
  have X0 : Stand p l e ({ frames := 0, cells := 0, slots := 0, locals := 0 } : Room) s m #[(.ref (w 0)), (.int p1)] below meth c s₁ [] 0 0 := Stand.of_body Bd
  have e0 : s₁.heap = h0 := by rw [← hh, Bd.state]; rfl
  have N0 := Fr.nil n0
  show oG p e below s (Q_holds_ODD_0 Z p1 w h0 n0) ({ frames := 0, cells := 0, slots := 0, locals := 0 } : Room).cells ({ frames := 0, cells := 0, slots := 0, locals := 0 } : Room).slots _
  refine oS (fun t k => castTop (ef_1_ri m (w 0) p1) k) ?_
  show oG _ _ _ _ _ _ _ (s₁.setTop (mkF m 0 #[.val (.ref (w 0)), .val (.int p1)] []))
  refine oS (fun t k => XS.aloadN X0.here hx rfl (hb hby d1_0) rfl rfl k) ?_
  obtain ⟨T1, X1, e1, st1⟩ := getS2 X0 hx hZ hown (host := "") (Or.inl (oW hw 8 rfl)) Via.refl e0 ((wS1 W).ext O0.2) (g := (mkF m 1 #[.val (.ref (w 0)), .val (.int p1)] [(.ref (w 0))])) rfl (hb hby d1_1)
  refine oS (fun t k => st1 t k) ?_
  refine oS (fun t k => Jvm.RoadKit.acmp (g := (mkF m 4 #[.val (.ref (w 0)), .val (.int p1)] [(.ref (w 1)), (.ref (w 0))])) X1 hx rfl rfl rfl (pc0 := 4) (pc' := 7) (same := false) rfl (hb hby d1_4) rfl (decide_eq_false fun q => (own_neI (wF0_ordinal W) (wF1_ordinal W) (by decide)) (Value.ref.inj q)) (by decide) (by decide) k) ?_
  refine oS (fun t k => XS.iloadN X1.here hx rfl (hb hby d1_7) rfl k) ?_
  refine oS (fun t k => XS.iconst X1.here hx rfl (hb hby d1_8) k) ?_
  refine oS (fun t k => iremM X1 hx rfl (hb hby d1_9) rfl (by decide) k) ?_
  refine oS (fun t k => XS.ifNo X1.here hx rfl (hb hby d1_10) rfl ((if0 _ _).trans (feq hp).1) k) ?_
  refine oS (fun t k => XS.iconst X1.here hx rfl (hb hby d1_13) k) ?_
  refine oS (fun t k => XS.goto X1.here hx rfl (pc0 := 14) (pc' := 18) rfl (hb hby d1_14) (by decide) (by decide) k) ?_
  refine oS (fun t k => XS.aloadN X1.here hx rfl (hb hby d1_18) rfl rfl k) ?_
  show oG _ _ _ _ _ _ _ (T1.setTop (mkF m 19 #[.val (.ref (w 0)), .val (.int p1)] [(.ref (w 0)), (.int 1)]))
  obtain ⟨T2, X2, e2, st2⟩ := getS2 X1 hx hZ hown (host := "") (Or.inl (oW hw 10 rfl)) Via.refl e1 ((wS0 W).ext O0.2) (g := (mkF m 19 #[.val (.ref (w 0)), .val (.int p1)] [(.ref (w 0)), (.int 1)])) rfl (hb hby d1_19)
  refine oS (fun t k => st2 t k) ?_
  refine oS (fun t k => Jvm.RoadKit.acmp (g := (mkF m 22 #[.val (.ref (w 0)), .val (.int p1)] [(.ref (w 0)), (.ref (w 0)), (.int 1)])) X2 hx rfl rfl rfl (pc0 := 22) (pc' := 25) (same := true) rfl (hb hby d1_22) rfl (decide_eq_true rfl) (by decide) (by decide) k) ?_
  refine oS (fun t k => XS.iconst X2.here hx rfl (hb hby d1_25) k) ?_
  refine oS (fun t k => XS.goto X2.here hx rfl (pc0 := 26) (pc' := 30) rfl (hb hby d1_26) (by decide) (by decide) k) ?_
  refine oS (fun t k => XS.icmpNo X2.here hx rfl (hb hby d1_30) rfl (teq (by decide)).2 k) ?_
  refine oS (fun t k => XS.iconst X2.here hx rfl (hb hby d1_33) k) ?_
  refine oS (fun t k => XS.goto X2.here hx rfl (pc0 := 34) (pc' := 38) rfl (hb hby d1_34) (by decide) (by decide) k) ?_
  exact own_ret (v := some (.int 1)) X2 (fun h => by rw [Bd.returns] at h; cases h) Bd.notSynchronized (fun fs hr => retN X2 hx (t := .boolean) Bd.returns (by simp) (hb hby d1_38) hr) (by rw [e2]; exact ⟨rfl, N0, rfl⟩) (by decide) (by decide)
theorem d1_29 : decode prog_29_method_4_code 29 = .ok (.iconst 0, 1) := by decide +kernel
def Q_holds_EVEN_1 (Z : State) (p1 : Int32) (w : Nat → Addr) (h0 : Heap) (n0 : Nat) (v : Option Value) (h : Heap) (L : List Loc) : Prop := v = some (.int 1) ∧ Fr n0 L ∧ h = h0
set_option maxRecDepth 65536 in
set_option maxHeartbeats 40000000 in
theorem rm_holds_EVEN_1 (l : Launch) (Z : State) (a0 : Array Value) (hw : ∀ d ∈ tables_1, d.before a0 Z = true) (ws : List Jvm.Cond) (p1 : Int32) (w : Nat → Addr) (h0 : Heap) (n0 : Nat) (O0 : Old Z n0 h0) (W : own_World Z w) (hp : (p1 % (2 : Int32)) = (0 : Int32)) :
    MetFree l mY0 (head1 (Jvm.Cond.code mY0 prog_29_method_4_code 2 (some .boolean) :: ws) ({ frames := 0, cells := 0, slots := 0, locals := 0 } : Room)) (fun a U => a = #[(.ref (w 2)), (.int p1)] ∧ Z.Warmed39 U.vm ∧ U.heap = h0) (fun _ _ _ _ _ => True) (fun _ U o U' => ∃ v L, o = .returned v ∧ Q_holds_EVEN_1 Z p1 w h0 n0 v U'.heap L ∧ FrameEnd U o U' L ({ frames := 0, cells := 0, slots := 0, locals := 0 } : Room).cells ({ frames := 0, cells := 0, slots := 0, locals := 0 } : Room).slots) := by
  refine MetFree.of_bodySF (plainFor_of_name pn_0) hisR ?_
  intro p e s m args below meth c s₁ Bd hml0 hP hK
  obtain ⟨rfl, hZ, hh⟩ := hP
  have hx := Bd.exec
  have hby := Bd.bytes
  have hml : c.maxLocals = 2 := hml0
  have hown : s.vm.findClass "com/example/gluebox/gluebox/PageSequenceMaster$OddOrEven" = some m.cls := findClass_of_methodNamed Bd.named
  have hnm := (name_of_methodNamed Bd.named Bd.method).1
  have X0 : Stand p l e ({ frames := 0, cells := 0, slots := 0, locals := 0 } : Room) s m #[(.ref (w 2)), (.int p1)] below meth c s₁ [] 0 0 := Stand.of_body Bd
  have e0 : s₁.heap = h0 := by rw [← hh, Bd.state]; rfl
  have N0 := Fr.nil n0
  show oG p e below s (Q_holds_EVEN_1 Z p1 w h0 n0) ({ frames := 0, cells := 0, slots := 0, locals := 0 } : Room).cells ({ frames := 0, cells := 0, slots := 0, locals := 0 } : Room).slots _
  refine oS (fun t k => castTop (ef_1_ri m (w 2) p1) k) ?_
  show oG _ _ _ _ _ _ _ (s₁.setTop (mkF m 0 #[.val (.ref (w 2)), .val (.int p1)] []))
  refine oS (fun t k => XS.aloadN X0.here hx rfl (hb hby d1_0) rfl rfl k) ?_
  obtain ⟨T1, X1, e1, st1⟩ := getS2 X0 hx hZ hown (host := "") (Or.inl (oW hw 8 rfl)) Via.refl e0 ((wS1 W).ext O0.2) (g := (mkF m 1 #[.val (.ref (w 2)), .val (.int p1)] [(.ref (w 2))])) rfl (hb hby d1_1)
  refine oS (fun t k => st1 t k) ?_
  refine oS (fun t k => Jvm.RoadKit.acmp (g := (mkF m 4 #[.val (.ref (w 2)), .val (.int p1)] [(.ref (w 1)), (.ref (w 2))])) X1 hx rfl rfl rfl (pc0 := 4) (pc' := 7) (same := false) rfl (hb hby d1_4) rfl (decide_eq_false fun q => (own_neI (wF2_ordinal W) (wF1_ordinal W) (by decide)) (Value.ref.inj q)) (by decide) (by decide) k) ?_
  refine oS (fun t k => XS.iloadN X1.here hx rfl (hb hby d1_7) rfl k) ?_
  refine oS (fun t k => XS.iconst X1.here hx rfl (hb hby d1_8) k) ?_
  refine oS (fun t k => iremM X1 hx rfl (hb hby d1_9) rfl (by decide) k) ?_
  refine oS (fun t k => XS.ifYes X1.here hx rfl (pc0 := 10) (pc' := 17) rfl (hb hby d1_10) rfl ((if0 _ _).trans (teq hp).1) (by decide) (by decide) k) ?_
  refine oS (fun t k => XS.iconst X1.here hx rfl (hb hby d1_17) k) ?_
  refine oS (fun t k => XS.aloadN X1.here hx rfl (hb hby d1_18) rfl rfl k) ?_
  obtain ⟨T2, X2, e2, st2⟩ := getS2 X1 hx hZ hown (host := "") (Or.inl (oW hw 10 rfl)) Via.refl e1 ((wS0 W).ext O0.2) (g := (mkF m 19 #[.val (.ref (w 2)), .val (.int p1)] [(.ref (w 2)), (.int 0)])) rfl (hb hby d1_19)
  refine oS (fun t k => st2 t k) ?_
  show oG _ _ _ _ _ _ _ (T2.setTop (mkF m 22 #[.val (.ref (w 2)), .val (.int p1)] [(.ref (w 0)), (.ref (w 2)), (.int 0)]))
  refine oS (fun t k => Jvm.RoadKit.acmp (g := (mkF m 22 #[.val (.ref (w 2)), .val (.int p1)] [(.ref (w 0)), (.ref (w 2)), (.int 0)])) X2 hx rfl rfl rfl (pc0 := 22) (pc' := 29) (same := false) rfl (hb hby d1_22) rfl (decide_eq_false fun q => (own_neI (wF2_ordinal W) (wF0_ordinal W) (by decide)) (Value.ref.inj q)) (by decide) (by decide) k) ?_
  refine oS (fun t k => XS.iconst X2.here hx rfl (hb hby d1_29) k) ?_
  refine oS (fun t k => XS.icmpNo X2.here hx rfl (hb hby d1_30) rfl (teq (by decide)).2 k) ?_
  refine oS (fun t k => XS.iconst X2.here hx rfl (hb hby d1_33) k) ?_
  refine oS (fun t k => XS.goto X2.here hx rfl (pc0 := 34) (pc' := 38) rfl (hb hby d1_34) (by decide) (by decide) k) ?_
  exact own_ret (v := some (.int 1)) X2 (fun h => by rw [Bd.returns] at h; cases h) Bd.notSynchronized (fun fs hr => retN X2 hx (t := .boolean) Bd.returns (by simp) (hb hby d1_38) hr) (by rw [e2]; exact ⟨rfl, N0, rfl⟩) (by decide) (by decide)
def Q_holds_EVEN_0 (Z : State) (p1 : Int32) (w : Nat → Addr) (h0 : Heap) (n0 : Nat) (v : Option Value) (h : Heap) (L : List Loc) : Prop := v = some (.int 0) ∧ Fr n0 L ∧ h = h0
set_option maxRecDepth 65536 in
set_option maxHeartbeats 40000000 in
theorem rm_holds_EVEN_0 (l : Launch) (Z : State) (a0 : Array Value) (hw : ∀ d ∈ tables_1, d.before a0 Z = true) (ws : List Jvm.Cond) (p1 : Int32) (w : Nat → Addr) (h0 : Heap) (n0 : Nat) (O0 : Old Z n0 h0) (W : own_World Z w) (hp : ¬ ((p1 % (2 : Int32)) = (0 : Int32))) :
    MetFree l mY0 (head1 (Jvm.Cond.code mY0 prog_29_method_4_code 2 (some .boolean) :: ws) ({ frames := 0, cells := 0, slots := 0, locals := 0 } : Room)) (fun a U => a = #[(.ref (w 2)), (.int p1)] ∧ Z.Warmed39 U.vm ∧ U.heap = h0) (fun _ _ _ _ _ => True) (fun _ U o U' => ∃ v L, o = .returned v ∧ Q_holds_EVEN_0 Z p1 w h0 n0 v U'.heap L ∧ FrameEnd U o U' L ({ frames := 0, cells := 0, slots := 0, locals := 0 } : Room).cells ({ frames := 0, cells := 0, slots := 0, locals := 0 } : Room).slots) := by
  refine MetFree.of_bodySF (plainFor_of_name pn_0) hisR ?_
  intro p e s m args below meth c s₁ Bd hml0 hP hK
  obtain ⟨rfl, hZ, hh⟩ := hP
  have hx := Bd.exec
  have hby := Bd.bytes
  have hml : c.maxLocals = 2 := hml0
  have hown : s.vm.findClass "com/example/gluebox/gluebox/PageSequenceMaster$OddOrEven" = some m.cls := findClass_of_methodNamed Bd.named
  have hnm := (name_of_methodNamed Bd.named Bd.method).1
  have X0 : Stand p l e ({ frames := 0, cells := 0, slots := 0, locals := 0 } : Room) s m #[(.ref (w 2)), (.int p1)] below meth c s₁ [] 0 0 := Stand.of_body Bd
  have e0 : s₁.heap = h0 := by rw [← hh, Bd.state]; rfl
  have N0 := Fr.nil n0
  show oG p e below s (Q_holds_EVEN_0 Z p1 w h0 n0) ({ frames := 0, cells := 0, slots := 0, locals := 0 } : Room).cells ({ frames := 0, cells := 0, slots := 0, locals := 0 } : Room).slots _
  refine oS (fun t k => castTop (ef_1_ri m (w 2) p1) k) ?_
  show oG _ _ _ _ _ _ _ (s₁.setTop (mkF m 0 #[.val (.ref (w 2)), .val (.int p1)] []))
  refine oS (fun t k => XS.aloadN X0.here hx rfl (hb hby d1_0) rfl rfl k) ?_
  obtain ⟨T1, X1, e1, st1⟩ := getS2 X0 hx hZ hown (host := "") (Or.inl (oW hw 8 rfl)) Via.refl e0 ((wS1 W).ext O0.2) (g := (mkF m 1 #[.val (.ref (w 2)), .val (.int p1)] [(.ref (w 2))])) rfl (hb hby d1_1)
  refine oS (fun t k => st1 t k) ?_
  refine oS (fun t k => Jvm.RoadKit.acmp (g := (mkF m 4 #[.val (.ref (w 2)), .val (.int p1)] [(.ref (w 1)), (.ref (w 2))])) X1 hx rfl rfl rfl (pc0 := 4) (pc' := 7) (same := false) rfl (hb hby d1_4) rfl (decide_eq_false fun q => (own_neI (wF2_ordinal W) (wF1_ordinal W) (by decide)) (Value.ref.inj q)) (by decide) (by decide) k) ?_
  refine oS (fun t k => XS.iloadN X1.here hx rfl (hb hby d1_7) rfl k) ?_
  refine oS (fun t k => XS.iconst X1.here hx rfl (hb hby d1_8) k) ?_
  refine oS (fun t k => iremM X1 hx rfl (hb hby d1_9) rfl (by decide) k) ?_
  refine oS (fun t k => XS.ifNo X1.here hx rfl (hb hby d1_10) rfl ((if0 _ _).trans (feq hp).1) k) ?_
  refine oS (fun t k => XS.iconst X1.here hx rfl (hb hby d1_13) k) ?_
  refine oS (fun t k => XS.goto X1.here hx rfl (pc0 := 14) (pc' := 18) rfl (hb hby d1_14) (by decide) (by decide) k) ?_
  refine oS (fun t k => XS.aloadN X1.here hx rfl (hb hby d1_18) rfl rfl k) ?_
  show oG _ _ _ _ _ _ _ (T1.setTop (mkF m 19 #[.val (.ref (w 2)), .val (.int p1)] [(.ref (w 2)), (.int 1)]))
  obtain ⟨T2, X2, e2, st2⟩ := getS2 X1 hx hZ hown (host := "") (Or.inl (oW hw 10 rfl)) Via.refl e1 ((wS0 W).ext O0.2) (g := (mkF m 19 #[.val (.ref (w 2)), .val (.int p1)] [(.ref (w 2)), (.int 1)])) rfl (hb hby d1_19)
  refine oS (fun t k => st2 t k) ?_
  refine oS (fun t k => Jvm.RoadKit.acmp (g := (mkF m 22 #[.val (.ref (w 2)), .val (.int p1)] [(.ref (w 0)), (.ref (w 2)), (.int 1)])) X2 hx rfl rfl rfl (pc0 := 22) (pc' := 29) (same := false) rfl (hb hby d1_22) rfl (decide_eq_false fun q => (own_neI (wF2_ordinal W) (wF0_ordinal W) (by decide)) (Value.ref.inj q)) (by decide) (by decide) k) ?_
  refine oS (fun t k => XS.iconst X2.here hx rfl (hb hby d1_29) k) ?_
  refine oS (fun t k => XS.icmpYes X2.here hx rfl (pc0 := 30) (pc' := 37) rfl (hb hby d1_30) rfl (feq (by decide)).2 (by decide) (by decide) k) ?_
  refine oS (fun t k => XS.iconst X2.here hx rfl (hb hby d1_37) k) ?_
  exact own_ret (v := some (.int 0)) X2 (fun h => by rw [Bd.returns] at h; cases h) Bd.notSynchronized (fun fs hr => retN X2 hx (t := .boolean) Bd.returns (by simp) (hb hby d1_38) hr) (by rw [e2]; exact ⟨rfl, N0, rfl⟩) (by decide) (by decide)
def Q_holds_any (Z : State) (p1 : Int32) (w : Nat → Addr) (h0 : Heap) (n0 : Nat) (v : Option Value) (h : Heap) (L : List Loc) : Prop := v = some (.int 1) ∧ Fr n0 L ∧ h = h0
set_option maxRecDepth 65536 in
set_option maxHeartbeats 40000000 in
theorem rm_holds_any (l : Launch) (Z : State) (a0 : Array Value) (hw : ∀ d ∈ tables_1, d.before a0 Z = true) (ws : List Jvm.Cond) (p1 : Int32) (w : Nat → Addr) (h0 : Heap) (n0 : Nat) (O0 : Old Z n0 h0) (W : own_World Z w) :
    MetFree l mY0 (head1 (Jvm.Cond.code mY0 prog_29_method_4_code 2 (some .boolean) :: ws) ({ frames := 0, cells := 0, slots := 0, locals := 0 } : Room)) (fun a U => a = #[(.ref (w 1)), (.int p1)] ∧ Z.Warmed39 U.vm ∧ U.heap = h0) (fun _ _ _ _ _ => True) (fun _ U o U' => ∃ v L, o = .returned v ∧ Q_holds_any Z p1 w h0 n0 v U'.heap L ∧ FrameEnd U o U' L ({ frames := 0, cells := 0, slots := 0, locals := 0 } : Room).cells ({ frames := 0, cells := 0, slots := 0, locals := 0 } : Room).slots) := by
  refine MetFree.of_bodySF (plainFor_of_name pn_0) hisR ?_
  intro p e s m args below meth c s₁ Bd hml0 hP hK
  obtain ⟨rfl, hZ, hh⟩ := hP
  have hx := Bd.exec
  have hby := Bd.bytes
  have hml : c.maxLocals = 2 := hml0
  have hown : s.vm.findClass "com/example/gluebox/gluebox/PageSequenceMaster$OddOrEven" = some m.cls := findClass_of_methodNamed Bd.named
  have hnm := (name_of_methodNamed Bd.named Bd.method).1
  have X0 : Stand p l e ({ frames := 0, cells := 0, slots := 0, locals := 0 } : Room) s m #[(.ref (w 1)), (.int p1)] below meth c s₁ [] 0 0 := Stand.of_body Bd
  have e0 : s₁.heap = h0 := by rw [← hh, Bd.state]; rfl
  have N0 := Fr.nil n0
  show oG p e below s (Q_holds_any Z p1 w h0 n0) ({ frames := 0, cells := 0, slots := 0, locals := 0 } : Room).cells ({ frames := 0, cells := 0, slots := 0, locals := 0 } : Room).slots _
  refine oS (fun t k => castTop (ef_1_ri m (w 1) p1) k) ?_
  show oG _ _ _ _ _ _ _ (s₁.setTop (mkF m 0 #[.val (.ref (w 1)), .val (.int p1)] []))
  refine oS (fun t k => XS.aloadN X0.here hx rfl (hb hby d1_0) rfl rfl k) ?_
  obtain ⟨T1, X1, e1, st1⟩ := getS2 X0 hx hZ hown (host := "") (Or.inl (oW hw 8 rfl)) Via.refl e0 ((wS1 W).ext O0.2) (g := (mkF m 1 #[.val (.ref (w 1)), .val (.int p1)] [(.ref (w 1))])) rfl (hb hby d1_1)
  refine oS (fun t k => st1 t k) ?_
  refine oS (fun t k => Jvm.RoadKit.acmp (g := (mkF m 4 #[.val (.ref (w 1)), .val (.int p1)] [(.ref (w 1)), (.ref (w 1))])) X1 hx rfl rfl rfl (pc0 := 4) (pc' := 33) (same := true) rfl (hb hby d1_4) rfl (decide_eq_true rfl) (by decide) (by decide) k) ?_
  refine oS (fun t k => XS.iconst X1.here hx rfl (hb hby d1_33) k) ?_
  refine oS (fun t k => XS.goto X1.here hx rfl (pc0 := 34) (pc' := 38) rfl (hb hby d1_34) (by decide) (by decide) k) ?_
  exact own_ret (v := some (.int 1)) X1 (fun h => by rw [Bd.returns] at h; cases h) Bd.notSynchronized (fun fs hr => retN X1 hx (t := .boolean) Bd.returns (by simp) (hb hby d1_38) hr) (by rw [e1]; exact ⟨rfl, N0, rfl⟩) (by decide) (by decide)
theorem pd_0 : parseMethodDescriptor "(I)Z" = some ⟨[.int], some .boolean⟩ := by decide +kernel
theorem ef_0_i (m : MethodId) (x0 : Int32) : entryFrame m #[(.int x0)] maxLocals = mkF m 0 #[.val (.int x0), .unset, .unset, .unset, .unset] [] := by first | (simp [entryFrame, mkF, argsToLocals, Value.category, maxLocals]; done) | rfl
theorem pn_1 : plainName "com/example/gluebox/gluebox/OddOrEvenHoldsPinLaw" = true := by first | (simp [plainName, overriddenIn]; done) | decide +kernel
def Q_law (Z : State) (p1 : Int32) (w : Nat → Addr) (h0 : Heap) (n0 : Nat) (v : Option Value) (h : Heap) (L : List Loc) : Prop := v = some (.int 1) ∧ Fr n0 L
set_option maxRecDepth 65536 in
set_option maxHeartbeats 40000000 in
theorem rm_law (l : Launch) (Z : State) (a0 : Array Value) (hw : ∀ d ∈ tables_1, d.before a0 Z = true) (ws : List Jvm.Cond) (p1 : Int32) (w : Nat → Addr) (h0 : Heap) (n0 : Nat) (O0 : Old Z n0 h0) (W : own_World Z w) :
    MetFree l x (head1 (Jvm.Cond.code x code maxLocals ret :: ws) room_1) (fun a U => a = #[(.int p1)] ∧ Z.Warmed39 U.vm ∧ U.heap = h0) (fun _ _ _ _ _ => True) (fun _ U o U' => ∃ v L, o = .returned v ∧ Q_law Z p1 w h0 n0 v U'.heap L ∧ FrameEnd U o U' L room_1.cells room_1.slots) := by
  refine MetFree.of_bodySF (plainFor_of_name pn_1) hisR ?_
  intro p e s m args below meth c s₁ Bd hml0 hP hK
  obtain ⟨rfl, hZ, hh⟩ := hP
  have hx := Bd.exec
  have hby := Bd.bytes
  have hml : c.maxLocals = 5 := hml0
  have hown : s.vm.findClass "com/example/gluebox/gluebox/OddOrEvenHoldsPinLaw" = some m.cls := findClass_of_methodNamed Bd.named
  have hnm := (name_of_methodNamed Bd.named Bd.method).1
  have X0 : Stand p l e room_1 s m #[(.int p1)] below meth c s₁ [] 0 0 := Stand.of_body Bd
  have e0 : s₁.heap = h0 := by rw [← hh, Bd.state]; rfl
  have N0 := Fr.nil n0
  show oG p e below s (Q_law Z p1 w h0 n0) room_1.cells room_1.slots _
  refine oS (fun t k => castTop (ef_0_i m p1) k) ?_
  show oG _ _ _ _ _ _ _ (s₁.setTop (mkF m 0 #[.val (.int p1), .unset, .unset, .unset, .unset] []))
  refine oS (fun t k => XS.iloadN X0.here hx rfl (hb hby at_0) rfl k) ?_
  refine oS (fun t k => XS.iconst X0.here hx rfl (hb hby at_1) k) ?_
  refine oS (fun t k => XS.iand X0.here hx rfl (hb hby at_2) rfl k) ?_
  refine oS (fun t k => XS.iconst X0.here hx rfl (hb hby at_3) k) ?_
  by_cases hc4 : (p1 &&& (1 : Int32)) = (1 : Int32)
  · refine oS (fun t k => XS.icmpNo X0.here hx rfl (hb hby at_4) rfl (teq hc4).2 k) ?_
    refine oS (fun t k => XS.iconst X0.here hx rfl (hb hby at_7) k) ?_
    refine oS (fun t k => XS.goto X0.here hx rfl (pc0 := 8) (pc' := 12) rfl (hb hby at_8) (by decide) (by decide) k) ?_
    refine oS (fun t k => XS.istoreN X0.here hx rfl (hb hby at_12) rfl (l' := #[.val (.int p1), .val (.int 1), .unset, .unset, .unset]) rfl k) ?_
    obtain ⟨T1, X1, e1, st1⟩ := getS2 X0 hx hZ hown (host := "") (Or.inl (oW hw 0 rfl)) Via.refl e0 ((wS0 W).ext O0.2) (g := (mkF m 13 #[.val (.int p1), .val (.int 1), .unset, .unset, .unset] [])) rfl (hb hby at_13)
    refine oS (fun t k => st1 t k) ?_
    refine oS (fun t k => XS.iloadN X1.here hx rfl (hb hby at_16) rfl k) ?_
    show oG _ _ _ _ _ _ _ (T1.setTop (mkF m 17 #[.val (.int p1), .val (.int 1), .unset, .unset, .unset] [(.int p1), (.ref (w 0))]))
    obtain ⟨cq2, kq2, q2a, q2b, q2c⟩ := isOf hZ e1 ((wE0 W).ext O0.2)
    obtain ⟨_, _, ⟨T2, L2, k2, n2⟩, -, X2, ⟨Lc2, hQ2, l2, y2, z2⟩, st2⟩ := X1.virtualBack hx (y := mY0) (z := mY0) hown (mvT hZ (oW hw 3 rfl)) (mvT hZ (oW hw 4 rfl)) (notFace_of_selects (args := #[]) (mvT hZ (oW hw 6 rfl))) (mvT hZ (oW hw 6 rfl)) (mvT hZ (oW hw 5 rfl)) (by decide) (backOf (W := 0) (rm_holds_ODD_0 l Z a0 hw [] p1 w h0 n0 O0 W ((own_par p1).mp hc4)) hZ (oW hw 7 rfl) (oW hw 1 rfl) (by decide) (by decide)) q2a q2c (g := (mkF m 17 #[.val (.int p1), .val (.int 1), .unset, .unset, .unset] [(.int p1), (.ref (w 0))])) rfl (by rw [hml]; rfl) (Steps.refl _) (argsL := [(.int p1)]) (rest := []) (lenOf pd_0 rfl) rfl (by show 2 * 0 + _ ≤ _; exact Nat.le_of_eq rfl) (hb hby at_17) (fun _ _ => ⟨rfl, e1, (by decide : 0 + 0 ≤ _), (by decide : 0 + 0 ≤ _)⟩)
    dsimp only [Pt.U, Pt.locs, Pt.cells, Pt.slots] at X2 l2 y2 z2 st2 hQ2
    subst l2 y2 z2
    obtain ⟨rfl, Nq2, e2⟩ := hQ2
    have N2 := Fr.app N0 Nq2
    refine oS (fun t k => st2.trans k) ?_
    show oG _ _ _ _ _ _ _ (T2.setTop (mkF m 20 #[.val (.int p1), .val (.int 1), .unset, .unset, .unset] [(.int 1)]))
    refine oS (fun t k => XS.iloadN X2.here hx rfl (hb hby at_20) rfl k) ?_
    refine oS (fun t k => XS.icmpNo X2.here hx rfl (hb hby at_21) rfl (teq (by decide)).2 k) ?_
    refine oS (fun t k => XS.iconst X2.here hx rfl (hb hby at_24) k) ?_
    refine oS (fun t k => XS.goto X2.here hx rfl (pc0 := 25) (pc' := 29) rfl (hb hby at_25) (by decide) (by decide) k) ?_
    refine oS (fun t k => XS.istoreN X2.here hx rfl (hb hby at_29) rfl (l' := #[.val (.int p1), .val (.int 1), .val (.int 1), .unset, .unset]) rfl k) ?_
    obtain ⟨T3, X3, e3, st3⟩ := getS2 X2 hx hZ hown (host := "") (Or.inl (oW hw 11 rfl)) Via.refl e2 ((wS2 W).ext O0.2) (g := (mkF m 30 #[.val (.int p1), .val (.int 1), .val (.int 1), .unset, .unset] [])) rfl (hb hby at_30)
    refine oS (fun t k => st3 t k) ?_
    refine oS (fun t k => XS.iloadN X3.here hx rfl (hb hby at_33) rfl k) ?_
    obtain ⟨cq4, kq4, q4a, q4b, q4c⟩ := isOf hZ e3 ((wE2 W).ext O0.2)
    obtain ⟨_, _, ⟨T4, L4, k4, n4⟩, -, X4, ⟨Lc4, hQ4, l4, y4, z4⟩, st4⟩ := X3.virtualBack hx (y := mY0) (z := mY0) hown (mvT hZ (oW hw 3 rfl)) (mvT hZ (oW hw 4 rfl)) (notFace_of_selects (args := #[]) (mvT hZ (oW hw 6 rfl))) (mvT hZ (oW hw 6 rfl)) (mvT hZ (oW hw 5 rfl)) (by decide) (backOf (W := 0) (rm_holds_EVEN_0 l Z a0 hw [] p1 w h0 n0 O0 W ((own_par p1).mp hc4)) hZ (oW hw 7 rfl) (oW hw 1 rfl) (by decide) (by decide)) q4a q4c (g := (mkF m 34 #[.val (.int p1), .val (.int 1), .val (.int 1), .unset, .unset] [(.int p1), (.ref (w 2))])) rfl (by rw [hml]; rfl) (Steps.refl _) (argsL := [(.int p1)]) (rest := []) (lenOf pd_0 rfl) rfl (by show 2 * 0 + _ ≤ _; exact Nat.le_of_eq rfl) (hb hby at_34) (fun _ _ => ⟨rfl, e3, (by decide : 0 + 0 ≤ _), (by decide : 0 + 0 ≤ _)⟩)
    dsimp only [Pt.U, Pt.locs, Pt.cells, Pt.slots] at X4 l4 y4 z4 st4 hQ4
    subst l4 y4 z4
    obtain ⟨rfl, Nq4, e4⟩ := hQ4
    have N4 := Fr.app N2 Nq4
    refine oS (fun t k => st4.trans k) ?_
    show oG _ _ _ _ _ _ _ (T4.setTop (mkF m 37 #[.val (.int p1), .val (.int 1), .val (.int 1), .unset, .unset] [(.int 0)]))
    refine oS (fun t k => XS.iloadN X4.here hx rfl (hb hby at_37) rfl k) ?_
    refine oS (fun t k => XS.ifYes X4.here hx rfl (pc0 := 38) (pc' := 45) rfl (hb hby at_38) rfl ((if0 _ _).trans (feq (by decide)).2) (by decide) (by decide) k) ?_
    refine oS (fun t k => XS.iconst X4.here hx rfl (hb hby at_45) k) ?_
    refine oS (fun t k => XS.icmpNo X4.here hx rfl (hb hby at_46) rfl (teq (by decide)).2 k) ?_
    refine oS (fun t k => XS.iconst X4.here hx rfl (hb hby at_49) k) ?_
    refine oS (fun t k => XS.goto X4.here hx rfl (pc0 := 50) (pc' := 54) rfl (hb hby at_50) (by decide) (by decide) k) ?_
    refine oS (fun t k => XS.istoreN X4.here hx rfl (hb hby at_54) rfl (l' := #[.val (.int p1), .val (.int 1), .val (.int 1), .val (.int 1), .unset]) rfl k) ?_
    obtain ⟨T5, X5, e5, st5⟩ := getS2 X4 hx hZ hown (host := "") (Or.inl (oW hw 13 rfl)) Via.refl e4 ((wS1 W).ext O0.2) (g := (mkF m 55 #[.val (.int p1), .val (.int 1), .val (.int 1), .val (.int 1), .unset] [])) rfl (hb hby at_55)
    refine oS (fun t k => st5 t k) ?_
    refine oS (fun t k => XS.iloadN X5.here hx rfl (hb hby at_58) rfl k) ?_
    obtain ⟨cq6, kq6, q6a, q6b, q6c⟩ := isOf hZ e5 ((wE1 W).ext O0.2)
    obtain ⟨_, _, ⟨T6, L6, k6, n6⟩, -, X6, ⟨Lc6, hQ6, l6, y6, z6⟩, st6⟩ := X5.virtualBack hx (y := mY0) (z := mY0) hown (mvT hZ (oW hw 3 rfl)) (mvT hZ (oW hw 4 rfl)) (notFace_of_selects (args := #[]) (mvT hZ (oW hw 6 rfl))) (mvT hZ (oW hw 6 rfl)) (mvT hZ (oW hw 5 rfl)) (by decide) (backOf (W := 0) (rm_holds_any l Z a0 hw [] p1 w h0 n0 O0 W ) hZ (oW hw 7 rfl) (oW hw 1 rfl) (by decide) (by decide)) q6a q6c (g := (mkF m 59 #[.val (.int p1), .val (.int 1), .val (.int 1), .val (.int 1), .unset] [(.int p1), (.ref (w 1))])) rfl (by rw [hml]; rfl) (Steps.refl _) (argsL := [(.int p1)]) (rest := []) (lenOf pd_0 rfl) rfl (by show 2 * 0 + _ ≤ _; exact Nat.le_of_eq rfl) (hb hby at_59) (fun _ _ => ⟨rfl, e5, (by decide : 0 + 0 ≤ _), (by decide : 0 + 0 ≤ _)⟩)
    dsimp only [Pt.U, Pt.locs, Pt.cells, Pt.slots] at X6 l6 y6 z6 st6 hQ6
    subst l6 y6 z6
    obtain ⟨rfl, Nq6, e6⟩ := hQ6
    have N6 := Fr.app N4 Nq6
    refine oS (fun t k => st6.trans k) ?_
    show oG _ _ _ _ _ _ _ (T6.setTop (mkF m 62 #[.val (.int p1), .val (.int 1), .val (.int 1), .val (.int 1), .unset] [(.int 1)]))
    refine oS (fun t k => XS.istore X6.here hx rfl (hb hby at_62) rfl (l' := #[.val (.int p1), .val (.int 1), .val (.int 1), .val (.int 1), .val (.int 1)]) rfl k) ?_
    refine oS (fun t k => XS.iloadN X6.here hx rfl (hb hby at_64) rfl k) ?_
    refine oS (fun t k => XS.ifNo X6.here hx rfl (hb hby at_65) rfl ((if0 _ _).trans (feq (by decide)).1) k) ?_
    refine oS (fun t k => XS.iloadN X6.here hx rfl (hb hby at_68) rfl k) ?_
    refine oS (fun t k => XS.ifNo X6.here hx rfl (hb hby at_69) rfl ((if0 _ _).trans (feq (by decide)).1) k) ?_
    refine oS (fun t k => XS.iload X6.here hx rfl (hb hby at_72) rfl k) ?_
    refine oS (fun t k => XS.ifNo X6.here hx rfl (hb hby at_74) rfl ((if0 _ _).trans (feq (by decide)).1) k) ?_
    refine oS (fun t k => XS.iconst X6.here hx rfl (hb hby at_77) k) ?_
    refine oS (fun t k => XS.goto X6.here hx rfl (pc0 := 78) (pc' := 82) rfl (hb hby at_78) (by decide) (by decide) k) ?_
    exact own_ret (v := some (.int 1)) X6 (fun h => by rw [Bd.returns] at h; cases h) Bd.notSynchronized (fun fs hr => retN X6 hx (t := .boolean) Bd.returns (by simp) (hb hby at_82) hr) (by rw [e6]; exact ⟨rfl, N6⟩) (by decide) (by decide)
  · refine oS (fun t k => XS.icmpYes X0.here hx rfl (pc0 := 4) (pc' := 11) rfl (hb hby at_4) rfl (feq hc4).2 (by decide) (by decide) k) ?_
    refine oS (fun t k => XS.iconst X0.here hx rfl (hb hby at_11) k) ?_
    refine oS (fun t k => XS.istoreN X0.here hx rfl (hb hby at_12) rfl (l' := #[.val (.int p1), .val (.int 0), .unset, .unset, .unset]) rfl k) ?_
    obtain ⟨T7, X7, e7, st7⟩ := getS2 X0 hx hZ hown (host := "") (Or.inl (oW hw 0 rfl)) Via.refl e0 ((wS0 W).ext O0.2) (g := (mkF m 13 #[.val (.int p1), .val (.int 0), .unset, .unset, .unset] [])) rfl (hb hby at_13)
    refine oS (fun t k => st7 t k) ?_
    refine oS (fun t k => XS.iloadN X7.here hx rfl (hb hby at_16) rfl k) ?_
    obtain ⟨cq8, kq8, q8a, q8b, q8c⟩ := isOf hZ e7 ((wE0 W).ext O0.2)
    obtain ⟨_, _, ⟨T8, L8, k8, n8⟩, -, X8, ⟨Lc8, hQ8, l8, y8, z8⟩, st8⟩ := X7.virtualBack hx (y := mY0) (z := mY0) hown (mvT hZ (oW hw 3 rfl)) (mvT hZ (oW hw 4 rfl)) (notFace_of_selects (args := #[]) (mvT hZ (oW hw 6 rfl))) (mvT hZ (oW hw 6 rfl)) (mvT hZ (oW hw 5 rfl)) (by decide) (backOf (W := 0) (rm_holds_ODD_1 l Z a0 hw [] p1 w h0 n0 O0 W (own_par' p1 hc4)) hZ (oW hw 7 rfl) (oW hw 1 rfl) (by decide) (by decide)) q8a q8c (g := (mkF m 17 #[.val (.int p1), .val (.int 0), .unset, .unset, .unset] [(.int p1), (.ref (w 0))])) rfl (by rw [hml]; rfl) (Steps.refl _) (argsL := [(.int p1)]) (rest := []) (lenOf pd_0 rfl) rfl (by show 2 * 0 + _ ≤ _; exact Nat.le_of_eq rfl) (hb hby at_17) (fun _ _ => ⟨rfl, e7, (by decide : 0 + 0 ≤ _), (by decide : 0 + 0 ≤ _)⟩)
    dsimp only [Pt.U, Pt.locs, Pt.cells, Pt.slots] at X8 l8 y8 z8 st8 hQ8
    subst l8 y8 z8
    obtain ⟨rfl, Nq8, e8⟩ := hQ8
    have N8 := Fr.app N0 Nq8
    refine oS (fun t k => st8.trans k) ?_
    show oG _ _ _ _ _ _ _ (T8.setTop (mkF m 20 #[.val (.int p1), .val (.int 0), .unset, .unset, .unset] [(.int 0)]))
    refine oS (fun t k => XS.iloadN X8.here hx rfl (hb hby at_20) rfl k) ?_
    refine oS (fun t k => XS.icmpNo X8.here hx rfl (hb hby at_21) rfl (teq (by decide)).2 k) ?_
    refine oS (fun t k => XS.iconst X8.here hx rfl (hb hby at_24) k) ?_
    refine oS (fun t k => XS.goto X8.here hx rfl (pc0 := 25) (pc' := 29) rfl (hb hby at_25) (by decide) (by decide) k) ?_
    refine oS (fun t k => XS.istoreN X8.here hx rfl (hb hby at_29) rfl (l' := #[.val (.int p1), .val (.int 0), .val (.int 1), .unset, .unset]) rfl k) ?_
    obtain ⟨T9, X9, e9, st9⟩ := getS2 X8 hx hZ hown (host := "") (Or.inl (oW hw 11 rfl)) Via.refl e8 ((wS2 W).ext O0.2) (g := (mkF m 30 #[.val (.int p1), .val (.int 0), .val (.int 1), .unset, .unset] [])) rfl (hb hby at_30)
    refine oS (fun t k => st9 t k) ?_
    refine oS (fun t k => XS.iloadN X9.here hx rfl (hb hby at_33) rfl k) ?_
    obtain ⟨cq10, kq10, q10a, q10b, q10c⟩ := isOf hZ e9 ((wE2 W).ext O0.2)
    obtain ⟨_, _, ⟨T10, L10, k10, n10⟩, -, X10, ⟨Lc10, hQ10, l10, y10, z10⟩, st10⟩ := X9.virtualBack hx (y := mY0) (z := mY0) hown (mvT hZ (oW hw 3 rfl)) (mvT hZ (oW hw 4 rfl)) (notFace_of_selects (args := #[]) (mvT hZ (oW hw 6 rfl))) (mvT hZ (oW hw 6 rfl)) (mvT hZ (oW hw 5 rfl)) (by decide) (backOf (W := 0) (rm_holds_EVEN_1 l Z a0 hw [] p1 w h0 n0 O0 W (own_par' p1 hc4)) hZ (oW hw 7 rfl) (oW hw 1 rfl) (by decide) (by decide)) q10a q10c (g := (mkF m 34 #[.val (.int p1), .val (.int 0), .val (.int 1), .unset, .unset] [(.int p1), (.ref (w 2))])) rfl (by rw [hml]; rfl) (Steps.refl _) (argsL := [(.int p1)]) (rest := []) (lenOf pd_0 rfl) rfl (by show 2 * 0 + _ ≤ _; exact Nat.le_of_eq rfl) (hb hby at_34) (fun _ _ => ⟨rfl, e9, (by decide : 0 + 0 ≤ _), (by decide : 0 + 0 ≤ _)⟩)
    dsimp only [Pt.U, Pt.locs, Pt.cells, Pt.slots] at X10 l10 y10 z10 st10 hQ10
    subst l10 y10 z10
    obtain ⟨rfl, Nq10, e10⟩ := hQ10
    have N10 := Fr.app N8 Nq10
    refine oS (fun t k => st10.trans k) ?_
    show oG _ _ _ _ _ _ _ (T10.setTop (mkF m 37 #[.val (.int p1), .val (.int 0), .val (.int 1), .unset, .unset] [(.int 1)]))
    refine oS (fun t k => XS.iloadN X10.here hx rfl (hb hby at_37) rfl k) ?_
    refine oS (fun t k => XS.ifNo X10.here hx rfl (hb hby at_38) rfl ((if0 _ _).trans (teq (by decide)).2) k) ?_
    refine oS (fun t k => XS.iconst X10.here hx rfl (hb hby at_41) k) ?_
    refine oS (fun t k => XS.goto X10.here hx rfl (pc0 := 42) (pc' := 46) rfl (hb hby at_42) (by decide) (by decide) k) ?_
    refine oS (fun t k => XS.icmpNo X10.here hx rfl (hb hby at_46) rfl (teq (by decide)).2 k) ?_
    refine oS (fun t k => XS.iconst X10.here hx rfl (hb hby at_49) k) ?_
    refine oS (fun t k => XS.goto X10.here hx rfl (pc0 := 50) (pc' := 54) rfl (hb hby at_50) (by decide) (by decide) k) ?_
    refine oS (fun t k => XS.istoreN X10.here hx rfl (hb hby at_54) rfl (l' := #[.val (.int p1), .val (.int 0), .val (.int 1), .val (.int 1), .unset]) rfl k) ?_
    obtain ⟨T11, X11, e11, st11⟩ := getS2 X10 hx hZ hown (host := "") (Or.inl (oW hw 13 rfl)) Via.refl e10 ((wS1 W).ext O0.2) (g := (mkF m 55 #[.val (.int p1), .val (.int 0), .val (.int 1), .val (.int 1), .unset] [])) rfl (hb hby at_55)
    refine oS (fun t k => st11 t k) ?_
    refine oS (fun t k => XS.iloadN X11.here hx rfl (hb hby at_58) rfl k) ?_
    show oG _ _ _ _ _ _ _ (T11.setTop (mkF m 59 #[.val (.int p1), .val (.int 0), .val (.int 1), .val (.int 1), .unset] [(.int p1), (.ref (w 1))]))
    obtain ⟨cq12, kq12, q12a, q12b, q12c⟩ := isOf hZ e11 ((wE1 W).ext O0.2)
    obtain ⟨_, _, ⟨T12, L12, k12, n12⟩, -, X12, ⟨Lc12, hQ12, l12, y12, z12⟩, st12⟩ := X11.virtualBack hx (y := mY0) (z := mY0) hown (mvT hZ (oW hw 3 rfl)) (mvT hZ (oW hw 4 rfl)) (notFace_of_selects (args := #[]) (mvT hZ (oW hw 6 rfl))) (mvT hZ (oW hw 6 rfl)) (mvT hZ (oW hw 5 rfl)) (by decide) (backOf (W := 0) (rm_holds_any l Z a0 hw [] p1 w h0 n0 O0 W ) hZ (oW hw 7 rfl) (oW hw 1 rfl) (by decide) (by decide)) q12a q12c (g := (mkF m 59 #[.val (.int p1), .val (.int 0), .val (.int 1), .val (.int 1), .unset] [(.int p1), (.ref (w 1))])) rfl (by rw [hml]; rfl) (Steps.refl _) (argsL := [(.int p1)]) (rest := []) (lenOf pd_0 rfl) rfl (by show 2 * 0 + _ ≤ _; exact Nat.le_of_eq rfl) (hb hby at_59) (fun _ _ => ⟨rfl, e11, (by decide : 0 + 0 ≤ _), (by decide : 0 + 0 ≤ _)⟩)
    dsimp only [Pt.U, Pt.locs, Pt.cells, Pt.slots] at X12 l12 y12 z12 st12 hQ12
    subst l12 y12 z12
    obtain ⟨rfl, Nq12, e12⟩ := hQ12
    have N12 := Fr.app N10 Nq12
    refine oS (fun t k => st12.trans k) ?_
    show oG _ _ _ _ _ _ _ (T12.setTop (mkF m 62 #[.val (.int p1), .val (.int 0), .val (.int 1), .val (.int 1), .unset] [(.int 1)]))
    refine oS (fun t k => XS.istore X12.here hx rfl (hb hby at_62) rfl (l' := #[.val (.int p1), .val (.int 0), .val (.int 1), .val (.int 1), .val (.int 1)]) rfl k) ?_
    refine oS (fun t k => XS.iloadN X12.here hx rfl (hb hby at_64) rfl k) ?_
    refine oS (fun t k => XS.ifNo X12.here hx rfl (hb hby at_65) rfl ((if0 _ _).trans (feq (by decide)).1) k) ?_
    refine oS (fun t k => XS.iloadN X12.here hx rfl (hb hby at_68) rfl k) ?_
    refine oS (fun t k => XS.ifNo X12.here hx rfl (hb hby at_69) rfl ((if0 _ _).trans (feq (by decide)).1) k) ?_
    refine oS (fun t k => XS.iload X12.here hx rfl (hb hby at_72) rfl k) ?_
    refine oS (fun t k => XS.ifNo X12.here hx rfl (hb hby at_74) rfl ((if0 _ _).trans (feq (by decide)).1) k) ?_
    refine oS (fun t k => XS.iconst X12.here hx rfl (hb hby at_77) k) ?_
    refine oS (fun t k => XS.goto X12.here hx rfl (pc0 := 78) (pc' := 82) rfl (hb hby at_78) (by decide) (by decide) k) ?_
    exact own_ret (v := some (.int 1)) X12 (fun h => by rw [Bd.returns] at h; cases h) Bd.notSynchronized (fun fs hr => retN X12 hx (t := .boolean) Bd.returns (by simp) (hb hby at_82) hr) (by rw [e12]; exact ⟨rfl, N12⟩) (by decide) (by decide)
set_option maxRecDepth 65536 in
set_option maxHeartbeats 40000000 in
theorem comes_1 {Post : Tables → Env → Array Value → State → Outcome → State → Prop} (hpost : ∀ tb e args s v u, (limb_1_1.after args s (.returned v) u = true ∧ limb_1_2.after args s (.returned v) u = true ∧ True) → FrameEnd s (.returned v) u (Jvm.fieldLocs frame_1_writes args s ++ Jvm.arrayLocs frame_1_arrays args s ++ Jvm.staticLocs frame_1_statics s) 0 0 → Post tb e args s (.returned v) u) :
    ArmFor flags0 classFile x code maxLocals ret World_1 tables_1 room_1 Calls_1 rest_1 Pre_1 Post := by
  intro l hfl _ _ p e ha hc hk s m args below hf hA hF happ hP
  obtain ⟨hcalls, hrest, hpre⟩ := hP
  obtain ⟨-, -, -, hnamed, -, -, -, hat⟩ := (Spec.applies_iff hf).mp happ
  obtain ⟨hg, hn⟩ := and_e (Cond.before_iff.mp (show (Jvm.Cond.and given_1 narrow_1).before args s = true from hpre))
  obtain ⟨g0, g1⟩ := and_e hg
  obtain ⟨w0, rfl⟩ : ∃ w0 : Value, args = #[w0] := by
    have hs : args.size = 1 := by simpa [Cond.value, given_1] using g0
    obtain ⟨L⟩ := args
    match L, hs with
    | [w0], _ => exact ⟨w0, rfl⟩
  have hw := fun d (hd : d ∈ tables_1) => atoms_spec (ws := Jvm.Cond.code x code maxLocals ret :: tables_1) hat d (List.mem_cons_of_mem _ hd)
  have hfit : Fit s := fun {y c} hc i hi => by
    obtain ⟨ha, rfl⟩ := Array.getElem?_eq_some_iff.mp hc
    have q := List.all_eq_true.mp ((Array.all_eq_true_iff_forall_mem.mp hF) _ (Array.getElem_mem ha)) i (List.mem_range.mpr hi)
    simpa [Array.getElem?_eq_getElem hi] using q
  obtain ⟨i0, ei0⟩ := is_v g1
  obtain rfl : w0 = (.int i0) := Option.some.inj ei0
  obtain ⟨w, W⟩ := own_world hw hfit hn
  obtain ⟨n, o, h1, h2, h3, _, L, rfl, ⟨rfl, N⟩, hq⟩ := rm_law l s _ hw tables_1 i0 w s.heap s.heap.size (Old.start s) W  p e ha hc hk s m _ below hf ((Spec.applies_iff_loose hf).mp happ).1 ⟨rfl, State.Warmed39.refl s, rfl⟩ trivial
  refine ⟨n, _, h1, h2, h3, hpost _ _ _ _ _ _ ⟨Cond.after_iff.mpr rfl, Cond.after_iff.mpr (eq_i res_at (Term.int_eval (1)) rfl), trivial⟩ ⟨hq.1, hq.2.1, (hq.2.2.sift fun y hy => Or.inr (N y hy)).mono (by decide) (by decide)⟩⟩
theorem main_1_1 : Claimed_1_1 := comes_1 fun _ _ _ _ _ _ h hF => ⟨h.1, hF⟩
theorem main_1_2 : Claimed_1_2 := comes_1 fun _ _ _ _ _ _ h hF => ⟨h.2.1, hF⟩
end Jvm.Pilot.@@N@@
namespace Jvm.Pilot.@@N@@
open Jvm Jvm.ClassFile Sem Op Lib Jvm.Free Jvm.Stand Jvm.Pilot.@@N@@.Jvm.D
/-! MADE BY PROGRAM (witnessworld.py) out of the Statement's table words and the real class files: 12 classes; the members and pool entries that the words name. The judged class is class 1, her method 1. -/
namespace start1
open Jvm.ClassFile
def u (s : String) : CpInfo := .utf8 (stringToUtf16 s)
/-- a pool by its gaps: so many unusable entries, then the entry; so many at the end -/
def gap : Nat → List CpInfo → List CpInfo
  | 0, r => r
  | n + 1, r => .unusable :: gap n r
def poolList (es : List (Nat × CpInfo)) (last : Nat) : List CpInfo := es.foldr (fun e r => gap e.1 (e.2 :: r)) (gap last [])
def pool (es : List (Nat × CpInfo)) (last : Nat) : Array CpInfo := ⟨poolList es last⟩
def fileOf (pool : Array CpInfo) (this : Nat) (attrs : Array Attribute := #[]) (ms : Array MethodInfo := #[]) (fl : Nat := 33) (sup : Nat := 0) (ifs : Array Nat := #[]) (fds : Array FieldInfo := #[]) : ClassFile where
  minorVersion := 0
  majorVersion := 65
  constantPool := pool
  accessFlags := fl
  thisClass := this
  superClass := sup
  interfaces := ifs
  fields := fds
  methods := ms
  attributes := attrs
def plain (name : String) (sup : Option ClassId) : Class where
  name := name
  kind := .ordinary
  loader := none
  accessFlags := 33
  super := sup
  interfaces := #[]
  cf := none
  fields := #[]
  methods := #[]
  instanceTypes := #[]
  staticTypes := #[]
  resolved := #[]
  callSites := []
  init := .initialized
  statics := none
  mirror := none

def pool0 : Array CpInfo := pool [(5, u "<init>"), (0, u "()V"), (1, .class_ 10), (1, u "java/lang/Object")] 113

def k0m0 : Method := { name := "<init>", desc := "()V", sig := { parameters := [], returnType := none }, accessFlags := 1, code := none }
/-- java/lang/Object -/
def k0 : Class := { plain "java/lang/Object" none with
  accessFlags := 33
  interfaces := #[]
  cf := some (fileOf pool0 8 #[] #[{ accessFlags := 1, nameIndex := 5, descriptorIndex := 6, attributes := #[] }] 33 0 #[] #[])
  fields := #[]
  methods := #[k0m0]
  instanceTypes := #[]
  staticTypes := #[]
  resolved := Array.replicate 124 none
  statics := none }

def pool1 : Array CpInfo := pool [(2, .class_ 4), (1, u "java/lang/Object"), (0, u "<init>"), (0, u "()V"), (0, .fieldref 8 9), (0, .class_ 10), (0, .nameAndType 11 12), (0, u "com/example/gluebox/gluebox/PageSequenceMaster$OddOrEven"), (0, u "ODD"), (0, u "Lcom/example/gluebox/gluebox/PageSequenceMaster$OddOrEven;"), (0, .methodref 8 14), (0, .nameAndType 15 16), (0, u "holds"), (0, u "(I)Z"), (0, .fieldref 8 18), (0, .nameAndType 19 12), (0, u "EVEN"), (0, .fieldref 8 21), (0, .nameAndType 22 12), (0, u "ANY"), (0, .class_ 24), (0, u "com/example/gluebox/gluebox/OddOrEvenHoldsPinLaw"), (2, u "law")] 7

def k1m0 : Method := { name := "<init>", desc := "()V", sig := { parameters := [], returnType := none }, accessFlags := 2, code := none }
def k1c1 : Code := { maxStack := 2, maxLocals := 5, code := code, exceptionTable := #[], attributes := #[] }
def k1m1 : Method := { name := "law", desc := "(I)Z", sig := { parameters := [.int], returnType := some .boolean }, accessFlags := 9, code := some k1c1 }
/-- com/example/gluebox/gluebox/OddOrEvenHoldsPinLaw -/
def k1 : Class := { plain "com/example/gluebox/gluebox/OddOrEvenHoldsPinLaw" (some 0) with
  accessFlags := 49
  interfaces := #[]
  cf := some (fileOf pool1 23 #[] #[{ accessFlags := 2, nameIndex := 5, descriptorIndex := 6, attributes := #[] }, { accessFlags := 9, nameIndex := 27, descriptorIndex := 16, attributes := #[] }] 49 2 #[] #[])
  fields := #[]
  methods := #[k1m0, k1m1]
  instanceTypes := #[]
  staticTypes := #[]
  resolved := Array.replicate 35 none
  statics := none }

def pool2 : Array CpInfo := pool [(1, .class_ 2), (0, u "java/lang/constant/Constable"), (0, .class_ 4), (0, u "java/lang/Object")] 6

/-- java/lang/constant/Constable -/
def k2 : Class := { plain "java/lang/constant/Constable" (some 0) with
  accessFlags := 1537
  interfaces := #[]
  cf := some (fileOf pool2 1 #[] #[] 1537 3 #[] #[])
  fields := #[]
  methods := #[]
  instanceTypes := #[]
  staticTypes := #[]
  resolved := Array.replicate 11 none
  statics := none }

def pool3 : Array CpInfo := pool [(1, .class_ 2), (0, u "java/lang/Comparable"), (0, .class_ 4), (0, u "java/lang/Object")] 7

/-- java/lang/Comparable -/
def k3 : Class := { plain "java/lang/Comparable" (some 0) with
  accessFlags := 1537
  interfaces := #[]
  cf := some (fileOf pool3 1 #[] #[] 1537 3 #[] #[])
  fields := #[]
  methods := #[]
  instanceTypes := #[]
  staticTypes := #[]
  resolved := Array.replicate 12 none
  statics := none }

def pool4 : Array CpInfo := pool [(1, .class_ 2), (0, u "java/io/Serializable"), (0, .class_ 4), (0, u "java/lang/Object")] 2

/-- java/io/Serializable -/
def k4 : Class := { plain "java/io/Serializable" (some 0) with
  accessFlags := 1537
  interfaces := #[]
  cf := some (fileOf pool4 1 #[] #[] 1537 3 #[] #[])
  fields := #[]
  methods := #[]
  instanceTypes := #[]
  staticTypes := #[]
  resolved := Array.replicate 7 none
  statics := none }

def pool5 : Array CpInfo := pool [(2, .class_ 4), (1, u "java/lang/Enum"), (0, u "name"), (0, u "Ljava/lang/String;"), (2, u "ordinal"), (0, u "I"), (1, .class_ 14), (1, u "java/lang/Object"), (4, u "hash"), (86, .class_ 108), (1, u "java/lang/Enum$EnumDesc"), (2, .class_ 112), (0, u "java/lang/constant/Constable"), (0, .class_ 114), (0, u "java/lang/Comparable"), (0, .class_ 116), (0, u "java/io/Serializable")] 87

/-- java/lang/Enum -/
def k5 : Class := { plain "java/lang/Enum" (some 0) with
  accessFlags := 1057
  interfaces := #[2, 3, 4]
  cf := some (fileOf pool5 2 #[.nestMembers #[106]] #[] 1057 12 #[111, 113, 115] #[{ accessFlags := 18, nameIndex := 5, descriptorIndex := 6, attributes := #[] }, { accessFlags := 18, nameIndex := 9, descriptorIndex := 10, attributes := #[] }, { accessFlags := 2, nameIndex := 19, descriptorIndex := 10, attributes := #[] }])
  fields := #[{ name := "name", type := (.object "java/lang/String"), accessFlags := 18, slot := 0, constantValue := 0 }, { name := "ordinal", type := .int, accessFlags := 18, slot := 1, constantValue := 0 }, { name := "hash", type := .int, accessFlags := 2, slot := 2, constantValue := 0 }]
  methods := #[]
  instanceTypes := #[(.object "java/lang/String"), .int, .int]
  staticTypes := #[]
  resolved := Array.replicate 204 none
  statics := none }

def pool6 : Array CpInfo := pool [(1, .class_ 2), (0, u "com/example/gluebox/gluebox/PageSequenceMaster$OddOrEven"), (0, .fieldref 1 4), (0, .nameAndType 5 6), (0, u "ODD"), (0, u "Lcom/example/gluebox/gluebox/PageSequenceMaster$OddOrEven;"), (2, u "EVEN"), (0, .fieldref 1 11), (0, .nameAndType 12 6), (0, u "ANY"), (2, u "$VALUES"), (0, u "[Lcom/example/gluebox/gluebox/PageSequenceMaster$OddOrEven;"), (6, .class_ 25), (1, u "java/lang/Enum"), (21, u "holds"), (0, u "(I)Z"), (6, .class_ 56), (0, u "com/example/gluebox/gluebox/PageSequenceMaster")] 2

def k6c0 : Code := { maxStack := 3, maxLocals := 2, code := prog_29_method_4_code, exceptionTable := #[], attributes := #[] }
def k6m0 : Method := { name := "holds", desc := "(I)Z", sig := { parameters := [.int], returnType := some .boolean }, accessFlags := 0, code := some k6c0 }
/-- com/example/gluebox/gluebox/PageSequenceMaster$OddOrEven -/
def k6 : Class := { plain "com/example/gluebox/gluebox/PageSequenceMaster$OddOrEven" (some 5) with
  accessFlags := 16432
  interfaces := #[]
  cf := some (fileOf pool6 1 #[.nestHost 55] #[{ accessFlags := 0, nameIndex := 47, descriptorIndex := 48, attributes := #[] }] 16432 23 #[] #[{ accessFlags := 16409, nameIndex := 5, descriptorIndex := 6, attributes := #[] }, { accessFlags := 16409, nameIndex := 9, descriptorIndex := 6, attributes := #[] }, { accessFlags := 16409, nameIndex := 12, descriptorIndex := 6, attributes := #[] }, { accessFlags := 4122, nameIndex := 15, descriptorIndex := 16, attributes := #[] }])
  fields := #[{ name := "ODD", type := (.object "com/example/gluebox/gluebox/PageSequenceMaster$OddOrEven"), accessFlags := 16409, slot := 0, constantValue := 0 }, { name := "EVEN", type := (.object "com/example/gluebox/gluebox/PageSequenceMaster$OddOrEven"), accessFlags := 16409, slot := 1, constantValue := 0 }, { name := "ANY", type := (.object "com/example/gluebox/gluebox/PageSequenceMaster$OddOrEven"), accessFlags := 16409, slot := 2, constantValue := 0 }, { name := "$VALUES", type := (.array (.object "com/example/gluebox/gluebox/PageSequenceMaster$OddOrEven")), accessFlags := 4122, slot := 3, constantValue := 0 }]
  methods := #[k6m0]
  instanceTypes := #[(.object "java/lang/String"), .int, .int]
  staticTypes := #[(.object "com/example/gluebox/gluebox/PageSequenceMaster$OddOrEven"), (.object "com/example/gluebox/gluebox/PageSequenceMaster$OddOrEven"), (.object "com/example/gluebox/gluebox/PageSequenceMaster$OddOrEven"), (.array (.object "com/example/gluebox/gluebox/PageSequenceMaster$OddOrEven"))]
  resolved := Array.replicate 59 none
  statics := some 0 }

def pool7 : Array CpInfo := pool [(1, u "java/lang/Cloneable"), (0, .class_ 1), (0, u "java/lang/Object"), (0, .class_ 3)] 3

/-- java/lang/Cloneable -/
def k7 : Class := { plain "java/lang/Cloneable" (some 0) with
  accessFlags := 1537
  interfaces := #[]
  cf := some (fileOf pool7 2 #[] #[] 1537 4 #[] #[])
  fields := #[]
  methods := #[]
  instanceTypes := #[]
  staticTypes := #[]
  resolved := Array.replicate 8 none
  statics := none }

/-- the primitive byte -/
def k8 : Class := { plain "byte" none with kind := .primitive 'B', accessFlags := 0x411 }
/-- [B -/
def k9 : Class := { plain "[B" (some 0) with kind := .array 8 .byte, interfaces := #[7, 4], accessFlags := 1041 }

/-- the primitive int -/
def k10 : Class := { plain "int" none with kind := .primitive 'I', accessFlags := 0x411 }
/-- [I -/
def k11 : Class := { plain "[I" (some 0) with kind := .array 10 .int, interfaces := #[7, 4], accessFlags := 1041 }

def heap : Heap := #[{ cls := 6, slots := #[.ref 1, .ref 3, .ref 2, .null], vm := .statics 6 },
  { cls := 6, slots := #[.null, .int 0, .int 0], vm := .none },
  { cls := 6, slots := #[.null, .int 2, .int 0], vm := .none },
  { cls := 6, slots := #[.null, .int 1, .int 0], vm := .none }]
def classes : Array Class := #[k0, k1, k2, k3, k4, k5, k6, k7, k8, k9, k10, k11]
def interned : List (Array UInt16 × Addr) := []
def slotsUsed : Nat := 13
def theMethod : MethodId := ⟨1, 1⟩
def args0 : Array Value := #[.int 5]
def aboutOver (below : List Frame) : State where
  vm := { classes := classes, interned := interned.toArray }
  heap := heap
  slotsUsed := slotsUsed
  threads := #[{ frames := .invoking theMethod args0 :: below }]
def below0 : List Frame := [.native { method := ⟨0, 0⟩, args := #[] }]
def about1 : State := aboutOver below0
def p0 : Program := .bare "" "" ""
def e0 : Env := launch0.env 0 0 0
theorem w_frames : about1.frames = Frame.invoking theMethod args0 :: below0 := rfl
set_option maxRecDepth 65536 in
theorem w_args : argsFit about1.vm theMethod args0 = true := by decide +kernel
set_option maxRecDepth 65536 in
theorem w_heap : heapFits about1 = true := by decide +kernel
set_option maxRecDepth 65536 in
theorem w_runnable : about1.curStatus? = some .runnable := by decide +kernel
set_option maxRecDepth 65536 in
theorem w_alone : about1.alone = true := by decide +kernel
set_option maxRecDepth 65536 in
theorem w_named : about1.methodNamed? x = some theMethod := by decide +kernel
set_option maxRecDepth 65536 in
theorem w_hears : about1.hears theMethod below0 = true := by decide +kernel
set_option maxRecDepth 65536 in
theorem w_ripe : about1.ripe theMethod args0 below0 = true := by decide +kernel
theorem w_running : about1.status = .running := rfl
set_option maxRecDepth 65536 in
theorem w_room : about1.hasRoom e0.platform room_1 = true :=
  launch0.hasRoom_least _ room_1 (by decide +kernel) (by decide +kernel) (by decide +kernel) (by decide +kernel) (by decide +kernel) (by decide +kernel)
theorem allAtoms_all (ts : List Jvm.Cond) (a : Array Jvm.Value) (st : Jvm.State) : (allAtoms ts).before a st = ts.all (fun c => c.before a st) := by
  induction ts with
  | nil => rfl
  | cons c t ih =>
    show (Jvm.Cond.and c (allAtoms t)).before a st = _
    rw [Jvm.Cond.before_and, ih, List.all_cons]
def words1 : List Jvm.Cond := Jvm.Cond.code x code maxLocals ret :: tables_1
/-- a 'code' word, met by the world's own term for the bytes: nothing is compared byte by byte -/
theorem code_word {y : MethodName} {bytes : ByteArray} {mx : Nat} {rt : Option FieldType} {a : Array Value} {s : State} {m : MethodId} {meth : Method} {c : Code} (h1 : s.methodNamed? y = some m) (h2 : s.vm.method? m = some meth) (h3 : meth.code = some c) (h4 : c.code = bytes)
    (h5 : (c.maxLocals == mx && c.exceptionTable.isEmpty && decide (c.maxStack ≤ mostOperands) && decide (meth.sig.returnType = rt) && !meth.locks && decide (parseMethodDescriptor y.desc = some meth.sig)) = true) : (Jvm.Cond.code y bytes mx rt).before a s = true := by
  simp only [Bool.and_eq_true, beq_iff_eq, Bool.not_eq_true', decide_eq_true_eq] at h5
  obtain ⟨⟨⟨⟨⟨g1, g2⟩, g3⟩, g4⟩, g5⟩, g6⟩ := h5
  simp [Cond.before, Cond.holds, Cond.value, h1, h2, h3, h4, g1, g2, g3, g4, g5, g6]
def isCode : Jvm.Cond → Bool
  | .code _ _ _ _ => true
  | _ => false
theorem all_split {L : List Jvm.Cond} {P : Jvm.Cond → Bool} (h1 : L.all (fun c => isCode c || P c) = true) (h2 : ∀ c ∈ L.filter isCode, P c = true) : L.all P = true := by
  refine List.all_eq_true.mpr fun c hc => ?_
  have h := List.all_eq_true.mp h1 c hc
  rcases Bool.eq_false_or_eq_true (isCode c) with hi | hi
  · exact h2 c (List.mem_filter.mpr ⟨hc, hi⟩)
  · simpa [hi] using h
set_option maxRecDepth 65536 in
theorem w_c0 : (Jvm.Cond.code x code maxLocals ret).before args0 about1 = true := code_word (m := ⟨1, 1⟩) (meth := k1m1) (c := k1c1) (by decide +kernel) rfl rfl rfl (by decide +kernel)
set_option maxRecDepth 65536 in
theorem w_c1 : (Jvm.Cond.code ({ cls := "com/example/gluebox/gluebox/PageSequenceMaster$OddOrEven", name := "holds", desc := "(I)Z" } : Jvm.MethodName) prog_29_method_4_code (2 : Nat) (Option.some Jvm.ClassFile.FieldType.boolean)).before args0 about1 = true := code_word (m := ⟨6, 0⟩) (meth := k6m0) (c := k6c0) (by decide +kernel) rfl rfl rfl (by decide +kernel)
def codes1 : List Jvm.Cond := [Jvm.Cond.code x code maxLocals ret, Jvm.Cond.code ({ cls := "com/example/gluebox/gluebox/PageSequenceMaster$OddOrEven", name := "holds", desc := "(I)Z" } : Jvm.MethodName) prog_29_method_4_code (2 : Nat) (Option.some Jvm.ClassFile.FieldType.boolean)]
set_option maxRecDepth 65536 in
theorem codes_eq : words1.filter isCode = codes1 := rfl
theorem w_codes : ∀ c ∈ words1.filter isCode, c.before args0 about1 = true := by
  rw [codes_eq]
  intro c hc
  simp only [codes1, List.mem_cons, List.not_mem_nil, or_false] at hc
  rcases hc with rfl | rfl
  · exact w_c0
  · exact w_c1
set_option maxRecDepth 65536 in
theorem w_t1 : words1.all (fun c => isCode c || c.before args0 about1) = true := by decide +kernel
theorem w_tables : (allAtoms (Jvm.Cond.code x code maxLocals ret :: tables_1)).before args0 about1 = true := by
  rw [allAtoms_all]
  show words1.all (fun c => c.before args0 about1) = true
  refine all_split ?_ w_codes
  rw [w_t1]
set_option maxRecDepth 65536 in
theorem w_case : (Jvm.Cond.and given_1 narrow_1).before args0 about1 = true := by decide +kernel
theorem w_applies : (headSpec (Jvm.Cond.code x code maxLocals ret :: tables_1) room_1).applies x e0.platform about1 = true :=
  (Spec.applies_iff w_frames).mpr ⟨w_running, w_runnable, w_alone, w_named, w_hears, w_ripe, w_room, w_tables⟩
theorem atStart : AtStart classFile x code maxLocals ret World_1 tables_1 room_1 Calls_1 rest_1 Pre_1 launch0 p0 e0 about1 theMethod args0 below0 :=
  ⟨lists_1, trivial, launch0.admits_env _ _ _, launch0.least_env, fairChoices_fair.cas, fairChoices_fair.clock, w_frames, w_args, w_heap, w_applies, trivial, trivial, w_case⟩
end start1
theorem witness_1 : WitnessClaimed_1 := ⟨start1.p0, start1.e0, start1.about1, start1.theMethod, start1.args0, start1.below0, start1.atStart⟩
end Jvm.Pilot.@@N@@
