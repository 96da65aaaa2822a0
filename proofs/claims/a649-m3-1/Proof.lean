import JvmDerived
import JvmDerived.Pilot.@@N@@Statement
import JvmDerived.Pilot.@@N@@Code
set_option linter.unusedVariables false
set_option linter.unusedSimpArgs false
namespace Jvm.Pilot.@@N@@
open Jvm Jvm.ClassFile Sem Op Lib Jvm.Free Jvm.Stand Jvm.LawKit Jvm.RoadKit Bundle Jvm.Pilot.@@N@@.Jvm.D
/-! what is left of a run: it comes to its end, and there Q holds -/
def oG (p : Program) (e : Env) (below : List Frame) (s : State) (Q : Option Value → Heap → List Loc → Prop) (rc rs : Nat) (S : State) : Prop :=
  ∃ s₂ o, Steps p.tables e below S s₂ ∧ s₂.status = .running ∧ Ended s₂ below o ∧ ∃ v L, o = .returned v ∧ Q v s₂.heap L ∧ FrameEnd s o s₂ L rc rs
theorem oS {p : Program} {e : Env} {below : List Frame} {s : State} {Q : Option Value → Heap → List Loc → Prop} {rc rs : Nat} {S S' : State} (k : ∀ t, Steps p.tables e below S' t → Steps p.tables e below S t) (g : oG p e below s Q rc rs S') : oG p e below s Q rc rs S := by
  obtain ⟨s₂, o, h1, h2⟩ := g
  exact ⟨s₂, o, k _ h1, h2⟩
theorem own_ret {p : Program} {l : Launch} {e : Env} {R : Room} {s : State} {m : MethodId} {args : Array Value} {below : List Frame} {meth : Method} {c : Code} {T : State} {locs : List Loc} {cells slots : Nat} {Q : Option Value → Heap → List Loc → Prop} {rc rs : Nat} {S : State} {v : Option Value} (X : Stand p l e R s m args below meth c T locs cells slots) (hv : meth.sig.returnType = none → v = none) (hlocks : meth.locks = false)
    (st : ∀ fs, (∀ (f : JFrame) (acts : List Action), f.method = m → f.locked = none → f.entered = [] → (doReturn e (T.setTop f) acts v).1 = T.setFrames fs) → Steps p.tables e below S (T.setFrames fs)) (q : Q v T.heap locs) (hc : cells ≤ rc) (hs : slots ≤ rs) : oG p e below s Q rc rs S := by
  obtain ⟨fs, hr, hrun, hended, hW, hsame⟩ := X.leave hv hlocks
  exact ⟨_, _, st fs hr, hrun, hended, _, _, rfl, q, ⟨_, rfl⟩, hW, hsame.mono hc hs⟩
theorem oW {a0 : Array Value} {Z : State} (hw : ∀ d ∈ tables_1, d.before a0 Z = true) (i : Nat) {d : Jvm.Cond} (h : tables_1[i]? = some d) : d.before a0 Z = true := hw _ (List.mem_of_getElem? h)
theorem own_eqv {args : Array Value} {s : State} {a b : Term} {v : Value} (h : (Jvm.Cond.eq a b).value args s none s [] = some true) (hb : b.eval args s none [] s = some v) : a.eval args s none [] s = some v := by
  obtain ⟨x, y, ha, hb', -, -⟩ := cmp_v (Or.inl h)
  cases hb.symm.trans hb'
  rw [ha]
  cases x <;> cases v <;> simp [Cond.value, ha, hb] at h ⊢ <;> exact h
theorem own_len {args : Array Value} {s : State} {t : Term} {a : Addr} {cl : Cell} {ty : FieldType} {z : Int32} (h : (Term.length t).eval args s none [] s = some (.int z)) (ht : t.eval args s none [] s = some (.ref a)) (A : Arr s s.heap a cl ty) : cl.slots.size < 2 ^ 31 ∧ cl.slots.size.toInt32 = z := by
  have hA := A.fin (Vm.Alike.refl _)
  obtain ⟨a', cell, h1, h2, h3⟩ := Term.length_spec h
  cases ht.symm.trans h1
  cases hA.symm.trans h2
  refine ⟨?_, (Value.int.inj h3).symm⟩
  simp only [Term.eval, ht, hA, Option.bind_eq_bind, Option.bind_some] at h
  split at h
  · assumption
  · cases h
theorem own_sz {n : Nat} {z : Int32} (h1 : n < 2 ^ 31) (h2 : n.toInt32 = z) : n = z.toNatClampNeg := by
  rw [← h2]; simp only [Int32.toNatClampNeg, len_toInt h1]; rfl
theorem own_box {args : Array Value} {s : State} {t : Term} {a : Addr} {c : Cell} {K : String} {G : Jvm.Cond} (et : ∀ idx, t.eval args s none idx s = some (.ref a)) (A : Arr s s.heap a c (.object K)) (h : (Jvm.Cond.all t (.and (.exactly (.elem t (.index 0)) K) G)).value args s none s [] = some true) :
    ∀ j : Int32, ¬ (j < 0 ∨ c.slots.size ≤ j.toNatClampNeg) → ∃ b : Addr, c.slots[j.toNatClampNeg]? = some (.ref b) ∧ Exa s s.heap b K := fun j hj => by
  have nn : ¬ j < 0 := fun x => hj (Or.inl x)
  obtain ⟨u1, -⟩ := and_e (Cond.all_elim (et []) (A.fin (Vm.Alike.refl _)) h j.toNatClampNeg (Nat.lt_of_not_le fun x => hj (Or.inr x)))
  obtain ⟨b, eb⟩ := exa_v u1
  exact ⟨b, (elem_f (et _) (idx_at nn) (A.fin (Vm.Alike.refl _)) nn).symm.trans eb, exa_at eb u1⟩
theorem own_neI {Z : State} {h : Heap} {a b : Addr} {C n d : String} {x y : Int32} (F : Fld Z h a C n d (.int x)) (G : Fld Z h b C n d (.int y)) (hn : x ≠ y) : ¬ a = b := fun e => by
  subst e
  obtain ⟨c1, cf1, k1, i1, f1, a1, a2, -, -, -, -, a7⟩ := F
  obtain ⟨c2, cf2, k2, i2, f2, b1, b2, -, -, -, -, b7⟩ := G
  cases a1.symm.trans b1
  cases a2.symm.trans b2
  cases a7.symm.trans b7
  exact hn rfl
theorem own_neJ {Z : State} {h : Heap} {a b : Addr} {C n d : String} {x y : Int64} (F : Fld Z h a C n d (.long x)) (G : Fld Z h b C n d (.long y)) (hn : x ≠ y) : ¬ a = b := fun e => by
  subst e
  obtain ⟨c1, cf1, k1, i1, f1, a1, a2, -, -, -, -, a7⟩ := F
  obtain ⟨c2, cf2, k2, i2, f2, b1, b2, -, -, -, -, b7⟩ := G
  cases a1.symm.trans b1
  cases a2.symm.trans b2
  cases a7.symm.trans b7
  exact hn rfl
def own_World (Z : State) (w : Nat → Addr) : Prop := Sta Z Z.heap "com/example/gluebox/gluebox/PageSequenceMaster$BlankOrNotBlank" "BLANK" "Lcom/example/gluebox/gluebox/PageSequenceMaster$BlankOrNotBlank;" (.ref (w 0)) ∧ Exa Z Z.heap (w 0) "com/example/gluebox/gluebox/PageSequenceMaster$BlankOrNotBlank" ∧ Sta Z Z.heap "com/example/gluebox/gluebox/PageSequenceMaster$BlankOrNotBlank" "ANY" "Lcom/example/gluebox/gluebox/PageSequenceMaster$BlankOrNotBlank;" (.ref (w 1)) ∧ Exa Z Z.heap (w 1) "com/example/gluebox/gluebox/PageSequenceMaster$BlankOrNotBlank" ∧ Sta Z Z.heap "com/example/gluebox/gluebox/PageSequenceMaster$BlankOrNotBlank" "NOT_BLANK" "Lcom/example/gluebox/gluebox/PageSequenceMaster$BlankOrNotBlank;" (.ref (w 2)) ∧ Exa Z Z.heap (w 2) "com/example/gluebox/gluebox/PageSequenceMaster$BlankOrNotBlank" ∧ Fld Z Z.heap (w 0) "java/lang/Enum" "ordinal" "I" (.int 0) ∧ Fld Z Z.heap (w 1) "java/lang/Enum" "ordinal" "I" (.int 2) ∧ Fld Z Z.heap (w 2) "java/lang/Enum" "ordinal" "I" (.int 1)
theorem own_world {args : Array Value} {s : State} (hw : ∀ d ∈ tables_1, d.before args s = true) (hfit : Fit s) (hn : narrow_1.value args s none s [] = some true) : ∃ w : Nat → Addr, own_World s w := by
  obtain ⟨h0, q1⟩ := and_e hn
  obtain ⟨h1, q3⟩ := and_e q1
  obtain ⟨h2, q5⟩ := and_e q3
  obtain ⟨h3, q7⟩ := and_e q5
  obtain ⟨h4, h5⟩ := and_e q7
  obtain ⟨c0, e0⟩ := exa_v h0
  obtain ⟨c1, e1⟩ := exa_v h1
  obtain ⟨c2, e2⟩ := exa_v h4
  exact ⟨fun n => ([c0, c1, c2] : List Nat).getD n 0, Sta.start e0 (Or.inr ⟨(oW hw 2 rfl), (oW hw 3 rfl)⟩), Exa.start e0 h0, Sta.start e1 (Or.inr ⟨(oW hw 2 rfl), (oW hw 10 rfl)⟩), Exa.start e1 h1, Sta.start e2 (Or.inr ⟨(oW hw 2 rfl), (oW hw 14 rfl)⟩), Exa.start e2 h4, Fld.start ((fld_at e0).symm.trans (own_eqv h2 rfl)), Fld.start ((fld_at e1).symm.trans (own_eqv h3 rfl)), Fld.start ((fld_at e2).symm.trans (own_eqv h5 rfl))⟩
theorem wS0 {Z : State} {w : Nat → Addr} (W : own_World Z w) : Sta Z Z.heap "com/example/gluebox/gluebox/PageSequenceMaster$BlankOrNotBlank" "BLANK" "Lcom/example/gluebox/gluebox/PageSequenceMaster$BlankOrNotBlank;" (.ref (w 0)) := W.1
theorem wE0 {Z : State} {w : Nat → Addr} (W : own_World Z w) : Exa Z Z.heap (w 0) "com/example/gluebox/gluebox/PageSequenceMaster$BlankOrNotBlank" := W.2.1
theorem wS1 {Z : State} {w : Nat → Addr} (W : own_World Z w) : Sta Z Z.heap "com/example/gluebox/gluebox/PageSequenceMaster$BlankOrNotBlank" "ANY" "Lcom/example/gluebox/gluebox/PageSequenceMaster$BlankOrNotBlank;" (.ref (w 1)) := W.2.2.1
theorem wE1 {Z : State} {w : Nat → Addr} (W : own_World Z w) : Exa Z Z.heap (w 1) "com/example/gluebox/gluebox/PageSequenceMaster$BlankOrNotBlank" := W.2.2.2.1
theorem wS2 {Z : State} {w : Nat → Addr} (W : own_World Z w) : Sta Z Z.heap "com/example/gluebox/gluebox/PageSequenceMaster$BlankOrNotBlank" "NOT_BLANK" "Lcom/example/gluebox/gluebox/PageSequenceMaster$BlankOrNotBlank;" (.ref (w 2)) := W.2.2.2.2.1
theorem wE2 {Z : State} {w : Nat → Addr} (W : own_World Z w) : Exa Z Z.heap (w 2) "com/example/gluebox/gluebox/PageSequenceMaster$BlankOrNotBlank" := W.2.2.2.2.2.1
theorem wF0_ordinal {Z : State} {w : Nat → Addr} (W : own_World Z w) : Fld Z Z.heap (w 0) "java/lang/Enum" "ordinal" "I" (.int 0) := W.2.2.2.2.2.2.1
theorem wF1_ordinal {Z : State} {w : Nat → Addr} (W : own_World Z w) : Fld Z Z.heap (w 1) "java/lang/Enum" "ordinal" "I" (.int 2) := W.2.2.2.2.2.2.2.1
theorem wF2_ordinal {Z : State} {w : Nat → Addr} (W : own_World Z w) : Fld Z Z.heap (w 2) "java/lang/Enum" "ordinal" "I" (.int 1) := W.2.2.2.2.2.2.2.2
theorem d1_0 : decode prog_28_method_4_code 0 = .ok (.aload_n 0, 1) := by decide +kernel
theorem d1_1 : decode prog_28_method_4_code 1 = .ok (.getstatic 10, 3) := by decide +kernel
theorem d1_4 : decode prog_28_method_4_code 4 = .ok (.if_acmp .eq 19, 3) := by decide +kernel
theorem d1_7 : decode prog_28_method_4_code 7 = .ok (.iload_n 1, 1) := by decide +kernel
theorem d1_8 : decode prog_28_method_4_code 8 = .ok (.aload_n 0, 1) := by decide +kernel
theorem d1_9 : decode prog_28_method_4_code 9 = .ok (.getstatic 3, 3) := by decide +kernel
theorem d1_12 : decode prog_28_method_4_code 12 = .ok (.if_acmp .ne 7, 3) := by decide +kernel
theorem d1_15 : decode prog_28_method_4_code 15 = .ok (.iconst 1, 1) := by decide +kernel
theorem d1_16 : decode prog_28_method_4_code 16 = .ok (.goto 4, 3) := by decide +kernel
theorem d1_20 : decode prog_28_method_4_code 20 = .ok (.if_icmp .ne 7, 3) := by decide +kernel
theorem d1_27 : decode prog_28_method_4_code 27 = .ok (.iconst 0, 1) := by decide +kernel
theorem d1_28 : decode prog_28_method_4_code 28 = .ok (.ireturn, 1) := by decide +kernel
abbrev mY0 : MethodName := (⟨"com/example/gluebox/gluebox/PageSequenceMaster$BlankOrNotBlank", "holds", "(Z)Z"⟩ : MethodName)
theorem ef_1_ri_0 (m : MethodId) (x0 : Addr) : entryFrame m #[(.ref x0), (.int 0)] 2 = mkF m 0 #[.val (.ref x0), .val (.int 0)] [] := by first | (simp [entryFrame, mkF, argsToLocals, Value.category]; done) | rfl
theorem pn_0 : plainName "com/example/gluebox/gluebox/PageSequenceMaster$BlankOrNotBlank" = true := by first | (simp [plainName, overriddenIn]; done) | decide +kernel
def Q_holds_BLANK_0 (Z : State)  (w : Nat → Addr) (h0 : Heap) (n0 : Nat) (v : Option Value) (h : Heap) (L : List Loc) : Prop := v = some (.int 0) ∧ Fr n0 L ∧ h = h0
set_option maxRecDepth 65536 in
set_option maxHeartbeats 40000000 in
theorem rm_holds_BLANK_0 (l : Launch) (Z : State) (a0 : Array Value) (hw : ∀ d ∈ tables_1, d.before a0 Z = true) (ws : List Jvm.Cond)  (w : Nat → Addr) (h0 : Heap) (n0 : Nat) (O0 : Old Z n0 h0) (W : own_World Z w) :
    MetFree l mY0 (head1 (Jvm.Cond.code mY0 prog_28_method_4_code 2 (some .boolean) :: ws) ({ frames := 0, cells := 0, slots := 0, locals := 0 } : Room)) (fun a U => a = #[(.ref (w 0)), (.int 0)] ∧ Z.Warmed39 U.vm ∧ U.heap = h0) (fun _ _ _ _ _ => True) (fun _ U o U' => ∃ v L, o = .returned v ∧ Q_holds_BLANK_0 Z  w h0 n0 v U'.heap L ∧ FrameEnd U o U' L ({ frames := 0, cells := 0, slots := 0, locals := 0 } : Room).cells ({ frames := 0, cells := 0, slots := 0, locals := 0 } : Room).slots) := by
  refine MetFree.of_bodySF (plainFor_of_name pn_0) hisR ?_
  intro p e s m args below meth c s₁ Bd hml0 hP hK
  obtain ⟨rfl, hZ, hh⟩ := hP
  have hx := Bd.exec
  have hby := Bd.bytes
  have hml : c.maxLocals = 2 := hml0
  have hown : s.vm.findClass "com/example/gluebox/gluebox/PageSequenceMaster$BlankOrNotBlank" = some m.cls := findClass_of_methodNamed Bd.named
  have hnm := (name_of_methodNamed Bd.named Bd.method).1
  have X0 : Stand p l e ({ frames := 0, cells := 0, slots := 0, locals := 0 } : Room) s m #[(.ref (w 0)), (.int 0)] below meth c s₁ [] 0 0 := Stand.of_body Bd
  have e0 : s₁.heap = h0 := by rw [← hh, Bd.state]; rfl
  have N0 := Fr.nil n0
  show oG p e below s (Q_holds_BLANK_0 Z  w h0 n0) ({ frames := 0, cells := 0, slots := 0, locals := 0 } : Room).cells ({ frames := 0, cells := 0, slots := 0, locals := 0 } : Room).slots _
  refine oS (fun t k => castTop (ef_1_ri_0 m (w 0)) k) ?_
  show oG _ _ _ _ _ _ _ (s₁.setTop (mkF m 0 #[.val (.ref (w 0)), .val (.int 0)] []))
  refine oS (fun t k => XS.aloadN X0.here hx rfl (hb hby d1_0) rfl rfl k) ?_
  obtain ⟨T1, X1, e1, st1⟩ := getS2 X0 hx hZ hown (host := "") (Or.inl (oW hw 9 rfl)) Via.refl e0 ((wS1 W).ext O0.2) (g := (mkF m 1 #[.val (.ref (w 0)), .val (.int 0)] [(.ref (w 0))])) rfl (hb hby d1_1)
  refine oS (fun t k => st1 t k) ?_
  refine oS (fun t k => Jvm.RoadKit.acmp (g := (mkF m 4 #[.val (.ref (w 0)), .val (.int 0)] [(.ref (w 1)), (.ref (w 0))])) X1 hx rfl rfl rfl (pc0 := 4) (pc' := 7) (same := false) rfl (hb hby d1_4) rfl (decide_eq_false fun q => (own_neI (wF0_ordinal W) (wF1_ordinal W) (by decide)) (Value.ref.inj q)) (by decide) (by decide) k) ?_
  refine oS (fun t k => XS.iloadN X1.here hx rfl (hb hby d1_7) rfl k) ?_
  refine oS (fun t k => XS.aloadN X1.here hx rfl (hb hby d1_8) rfl rfl k) ?_
  obtain ⟨T2, X2, e2, st2⟩ := getS2 X1 hx hZ hown (host := "") (Or.inl (oW hw 11 rfl)) Via.refl e1 ((wS0 W).ext O0.2) (g := (mkF m 9 #[.val (.ref (w 0)), .val (.int 0)] [(.ref (w 0)), (.int 0)])) rfl (hb hby d1_9)
  refine oS (fun t k => st2 t k) ?_
  refine oS (fun t k => Jvm.RoadKit.acmp (g := (mkF m 12 #[.val (.ref (w 0)), .val (.int 0)] [(.ref (w 0)), (.ref (w 0)), (.int 0)])) X2 hx rfl rfl rfl (pc0 := 12) (pc' := 15) (same := true) rfl (hb hby d1_12) rfl (decide_eq_true rfl) (by decide) (by decide) k) ?_
  refine oS (fun t k => XS.iconst X2.here hx rfl (hb hby d1_15) k) ?_
  refine oS (fun t k => XS.goto X2.here hx rfl (pc0 := 16) (pc' := 20) rfl (hb hby d1_16) (by decide) (by decide) k) ?_
  refine oS (fun t k => XS.icmpYes X2.here hx rfl (pc0 := 20) (pc' := 27) rfl (hb hby d1_20) rfl (feq (by decide)).2 (by decide) (by decide) k) ?_
  show oG _ _ _ _ _ _ _ (T2.setTop (mkF m 27 #[.val (.ref (w 0)), .val (.int 0)] []))
  refine oS (fun t k => XS.iconst X2.here hx rfl (hb hby d1_27) k) ?_
  exact own_ret (v := some (.int 0)) X2 (fun h => by rw [Bd.returns] at h; cases h) Bd.notSynchronized (fun fs hr => retN X2 hx (t := .boolean) Bd.returns (by simp) (hb hby d1_28) hr) (by rw [e2]; exact ⟨rfl, N0, rfl⟩) (by decide) (by decide)
theorem d1_23 : decode prog_28_method_4_code 23 = .ok (.iconst 1, 1) := by decide +kernel
theorem d1_24 : decode prog_28_method_4_code 24 = .ok (.goto 4, 3) := by decide +kernel
theorem ef_1_ri_1 (m : MethodId) (x0 : Addr) : entryFrame m #[(.ref x0), (.int 1)] 2 = mkF m 0 #[.val (.ref x0), .val (.int 1)] [] := by first | (simp [entryFrame, mkF, argsToLocals, Value.category]; done) | rfl
def Q_holds_BLANK_1 (Z : State)  (w : Nat → Addr) (h0 : Heap) (n0 : Nat) (v : Option Value) (h : Heap) (L : List Loc) : Prop := v = some (.int 1) ∧ Fr n0 L ∧ h = h0
set_option maxRecDepth 65536 in
set_option maxHeartbeats 40000000 in
theorem rm_holds_BLANK_1 (l : Launch) (Z : State) (a0 : Array Value) (hw : ∀ d ∈ tables_1, d.before a0 Z = true) (ws : List Jvm.Cond)  (w : Nat → Addr) (h0 : Heap) (n0 : Nat) (O0 : Old Z n0 h0) (W : own_World Z w) :
    MetFree l mY0 (head1 (Jvm.Cond.code mY0 prog_28_method_4_code 2 (some .boolean) :: ws) ({ frames := 0, cells := 0, slots := 0, locals := 0 } : Room)) (fun a U => a = #[(.ref (w 0)), (.int 1)] ∧ Z.Warmed39 U.vm ∧ U.heap = h0) (fun _ _ _ _ _ => True) (fun _ U o U' => ∃ v L, o = .returned v ∧ Q_holds_BLANK_1 Z  w h0 n0 v U'.heap L ∧ FrameEnd U o U' L ({ frames := 0, cells := 0, slots := 0, locals := 0 } : Room).cells ({ frames := 0, cells := 0, slots := 0, locals := 0 } : Room).slots) := by
  refine MetFree.of_bodySF (plainFor_of_name pn_0) hisR ?_
  intro p e s m args below meth c s₁ Bd hml0 hP hK
  obtain ⟨rfl, hZ, hh⟩ := hP
  have hx := Bd.exec
  have hby := Bd.bytes
  have hml : c.maxLocals = 2 := hml0
  have hown : s.vm.findClass "com/example/gluebox/gluebox/PageSequenceMaster$BlankOrNotBlank" = some m.cls := findClass_of_methodNamed Bd.named
  have hnm := (name_of_methodNamed Bd.named Bd.method).1
  have X0 : Stand p l e ({ frames := 0, cells := 0, slots := 0, locals := 0 } : Room) s m #[(.ref (w 0)), (.int 1)] below meth c s₁ [] 0 0 := Stand.of_body Bd
  have e0 : s₁.heap = h0 := by rw [← hh, Bd.state]; rfl
  have N0 := Fr.nil n0
  show oG p e below s (Q_holds_BLANK_1 Z  w h0 n0) ({ frames := 0, cells := 0, slots := 0, locals := 0 } : Room).cells ({ frames := 0, cells := 0, slots := 0, locals := 0 } : Room).slots _
  refine oS (fun t k => castTop (ef_1_ri_1 m (w 0)) k) ?_
  show oG _ _ _ _ _ _ _ (s₁.setTop (mkF m 0 #[.val (.ref (w 0)), .val (.int 1)] []))
  refine oS (fun t k => XS.aloadN X0.here hx rfl (hb hby d1_0) rfl rfl k) ?_
  obtain ⟨T1, X1, e1, st1⟩ := getS2 X0 hx hZ hown (host := "") (Or.inl (oW hw 9 rfl)) Via.refl e0 ((wS1 W).ext O0.2) (g := (mkF m 1 #[.val (.ref (w 0)), .val (.int 1)] [(.ref (w 0))])) rfl (hb hby d1_1)
  refine oS (fun t k => st1 t k) ?_
  refine oS (fun t k => Jvm.RoadKit.acmp (g := (mkF m 4 #[.val (.ref (w 0)), .val (.int 1)] [(.ref (w 1)), (.ref (w 0))])) X1 hx rfl rfl rfl (pc0 := 4) (pc' := 7) (same := false) rfl (hb hby d1_4) rfl (decide_eq_false fun q => (own_neI (wF0_ordinal W) (wF1_ordinal W) (by decide)) (Value.ref.inj q)) (by decide) (by decide) k) ?_
  refine oS (fun t k => XS.iloadN X1.here hx rfl (hb hby d1_7) rfl k) ?_
  refine oS (fun t k => XS.aloadN X1.here hx rfl (hb hby d1_8) rfl rfl k) ?_
  obtain ⟨T2, X2, e2, st2⟩ := getS2 X1 hx hZ hown (host := "") (Or.inl (oW hw 11 rfl)) Via.refl e1 ((wS0 W).ext O0.2) (g := (mkF m 9 #[.val (.ref (w 0)), .val (.int 1)] [(.ref (w 0)), (.int 1)])) rfl (hb hby d1_9)
  refine oS (fun t k => st2 t k) ?_
  refine oS (fun t k => Jvm.RoadKit.acmp (g := (mkF m 12 #[.val (.ref (w 0)), .val (.int 1)] [(.ref (w 0)), (.ref (w 0)), (.int 1)])) X2 hx rfl rfl rfl (pc0 := 12) (pc' := 15) (same := true) rfl (hb hby d1_12) rfl (decide_eq_true rfl) (by decide) (by decide) k) ?_
  refine oS (fun t k => XS.iconst X2.here hx rfl (hb hby d1_15) k) ?_
  refine oS (fun t k => XS.goto X2.here hx rfl (pc0 := 16) (pc' := 20) rfl (hb hby d1_16) (by decide) (by decide) k) ?_
  refine oS (fun t k => XS.icmpNo X2.here hx rfl (hb hby d1_20) rfl (teq (by decide)).2 k) ?_
  show oG _ _ _ _ _ _ _ (T2.setTop (mkF m 23 #[.val (.ref (w 0)), .val (.int 1)] []))
  refine oS (fun t k => XS.iconst X2.here hx rfl (hb hby d1_23) k) ?_
  refine oS (fun t k => XS.goto X2.here hx rfl (pc0 := 24) (pc' := 28) rfl (hb hby d1_24) (by decide) (by decide) k) ?_
  exact own_ret (v := some (.int 1)) X2 (fun h => by rw [Bd.returns] at h; cases h) Bd.notSynchronized (fun fs hr => retN X2 hx (t := .boolean) Bd.returns (by simp) (hb hby d1_28) hr) (by rw [e2]; exact ⟨rfl, N0, rfl⟩) (by decide) (by decide)
theorem d1_19 : decode prog_28_method_4_code 19 = .ok (.iconst 0, 1) := by decide +kernel
def Q_holds_NOT_BLANK_0 (Z : State)  (w : Nat → Addr) (h0 : Heap) (n0 : Nat) (v : Option Value) (h : Heap) (L : List Loc) : Prop := v = some (.int 1) ∧ Fr n0 L ∧ h = h0
set_option maxRecDepth 65536 in
set_option maxHeartbeats 40000000 in
theorem rm_holds_NOT_BLANK_0 (l : Launch) (Z : State) (a0 : Array Value) (hw : ∀ d ∈ tables_1, d.before a0 Z = true) (ws : List Jvm.Cond)  (w : Nat → Addr) (h0 : Heap) (n0 : Nat) (O0 : Old Z n0 h0) (W : own_World Z w) :
    MetFree l mY0 (head1 (Jvm.Cond.code mY0 prog_28_method_4_code 2 (some .boolean) :: ws) ({ frames := 0, cells := 0, slots := 0, locals := 0 } : Room)) (fun a U => a = #[(.ref (w 2)), (.int 0)] ∧ Z.Warmed39 U.vm ∧ U.heap = h0) (fun _ _ _ _ _ => True) (fun _ U o U' => ∃ v L, o = .returned v ∧ Q_holds_NOT_BLANK_0 Z  w h0 n0 v U'.heap L ∧ FrameEnd U o U' L ({ frames := 0, cells := 0, slots := 0, locals := 0 } : Room).cells ({ frames := 0, cells := 0, slots := 0, locals := 0 } : Room).slots) := by
  refine MetFree.of_bodySF (plainFor_of_name pn_0) hisR ?_
  intro p e s m args below meth c s₁ Bd hml0 hP hK
  obtain ⟨rfl, hZ, hh⟩ := hP
  have hx := Bd.exec
  have hby := Bd.bytes
  have hml : c.maxLocals = 2 := hml0
  have hown : s.vm.findClass "com/example/gluebox/gluebox/PageSequenceMaster$BlankOrNotBlank" = some m.cls := findClass_of_methodNamed Bd.named
  have hnm := (name_of_methodNamed Bd.named Bd.method).1
  have X0 : Stand p l e ({ frames := 0, cells := 0, slots := 0, locals := 0 } : Room) s m #[(.ref (w 2)), (.int 0)] below meth c s₁ [] 0 0 := Stand.of_body Bd
  have e0 : s₁.heap = h0 := by rw [← hh, Bd.state]; rfl
  have N0 := Fr.nil n0
  show oG p e below s (Q_holds_NOT_BLANK_0 Z  w h0 n0) ({ frames := 0, cells := 0, slots := 0, locals := 0 } : Room).cells ({ frames := 0, cells := 0, slots := 0, locals := 0 } : Room).slots _
  refine oS (fun t k => castTop (ef_1_ri_0 m (w 2)) k) ?_
  show oG _ _ _ _ _ _ _ (s₁.setTop (mkF m 0 #[.val (.ref (w 2)), .val (.int 0)] []))
  refine oS (fun t k => XS.aloadN X0.here hx rfl (hb hby d1_0) rfl rfl k) ?_
  obtain ⟨T1, X1, e1, st1⟩ := getS2 X0 hx hZ hown (host := "") (Or.inl (oW hw 9 rfl)) Via.refl e0 ((wS1 W).ext O0.2) (g := (mkF m 1 #[.val (.ref (w 2)), .val (.int 0)] [(.ref (w 2))])) rfl (hb hby d1_1)
  refine oS (fun t k => st1 t k) ?_
  refine oS (fun t k => Jvm.RoadKit.acmp (g := (mkF m 4 #[.val (.ref (w 2)), .val (.int 0)] [(.ref (w 1)), (.ref (w 2))])) X1 hx rfl rfl rfl (pc0 := 4) (pc' := 7) (same := false) rfl (hb hby d1_4) rfl (decide_eq_false fun q => (own_neI (wF2_ordinal W) (wF1_ordinal W) (by decide)) (Value.ref.inj q)) (by decide) (by decide) k) ?_
  refine oS (fun t k => XS.iloadN X1.here hx rfl (hb hby d1_7) rfl k) ?_
  refine oS (fun t k => XS.aloadN X1.here hx rfl (hb hby d1_8) rfl rfl k) ?_
  obtain ⟨T2, X2, e2, st2⟩ := getS2 X1 hx hZ hown (host := "") (Or.inl (oW hw 11 rfl)) Via.refl e1 ((wS0 W).ext O0.2) (g := (mkF m 9 #[.val (.ref (w 2)), .val (.int 0)] [(.ref (w 2)), (.int 0)])) rfl (hb hby d1_9)
  refine oS (fun t k => st2 t k) ?_
  refine oS (fun t k => Jvm.RoadKit.acmp (g := (mkF m 12 #[.val (.ref (w 2)), .val (.int 0)] [(.ref (w 0)), (.ref (w 2)), (.int 0)])) X2 hx rfl rfl rfl (pc0 := 12) (pc' := 19) (same := false) rfl (hb hby d1_12) rfl (decide_eq_false fun q => (own_neI (wF2_ordinal W) (wF0_ordinal W) (by decide)) (Value.ref.inj q)) (by decide) (by decide) k) ?_
  refine oS (fun t k => XS.iconst X2.here hx rfl (hb hby d1_19) k) ?_
  refine oS (fun t k => XS.icmpNo X2.here hx rfl (hb hby d1_20) rfl (teq (by decide)).2 k) ?_
  refine oS (fun t k => XS.iconst X2.here hx rfl (hb hby d1_23) k) ?_
  show oG _ _ _ _ _ _ _ (T2.setTop (mkF m 24 #[.val (.ref (w 2)), .val (.int 0)] [(.int 1)]))
  refine oS (fun t k => XS.goto X2.here hx rfl (pc0 := 24) (pc' := 28) rfl (hb hby d1_24) (by decide) (by decide) k) ?_
  exact own_ret (v := some (.int 1)) X2 (fun h => by rw [Bd.returns] at h; cases h) Bd.notSynchronized (fun fs hr => retN X2 hx (t := .boolean) Bd.returns (by simp) (hb hby d1_28) hr) (by rw [e2]; exact ⟨rfl, N0, rfl⟩) (by decide) (by decide)
def Q_holds_NOT_BLANK_1 (Z : State)  (w : Nat → Addr) (h0 : Heap) (n0 : Nat) (v : Option Value) (h : Heap) (L : List Loc) : Prop := v = some (.int 0) ∧ Fr n0 L ∧ h = h0
set_option maxRecDepth 65536 in
set_option maxHeartbeats 40000000 in
theorem rm_holds_NOT_BLANK_1 (l : Launch) (Z : State) (a0 : Array Value) (hw : ∀ d ∈ tables_1, d.before a0 Z = true) (ws : List Jvm.Cond)  (w : Nat → Addr) (h0 : Heap) (n0 : Nat) (O0 : Old Z n0 h0) (W : own_World Z w) :
    MetFree l mY0 (head1 (Jvm.Cond.code mY0 prog_28_method_4_code 2 (some .boolean) :: ws) ({ frames := 0, cells := 0, slots := 0, locals := 0 } : Room)) (fun a U => a = #[(.ref (w 2)), (.int 1)] ∧ Z.Warmed39 U.vm ∧ U.heap = h0) (fun _ _ _ _ _ => True) (fun _ U o U' => ∃ v L, o = .returned v ∧ Q_holds_NOT_BLANK_1 Z  w h0 n0 v U'.heap L ∧ FrameEnd U o U' L ({ frames := 0, cells := 0, slots := 0, locals := 0 } : Room).cells ({ frames := 0, cells := 0, slots := 0, locals := 0 } : Room).slots) := by
  refine MetFree.of_bodySF (plainFor_of_name pn_0) hisR ?_
  intro p e s m args below meth c s₁ Bd hml0 hP hK
  obtain ⟨rfl, hZ, hh⟩ := hP
  have hx := Bd.exec
  have hby := Bd.bytes
  have hml : c.maxLocals = 2 := hml0
  have hown : s.vm.findClass "com/example/gluebox/gluebox/PageSequenceMaster$BlankOrNotBlank" = some m.cls := findClass_of_methodNamed Bd.named
  have hnm := (name_of_methodNamed Bd.named Bd.method).1
  have X0 : Stand p l e ({ frames := 0, cells := 0, slots := 0, locals := 0 } : Room) s m #[(.ref (w 2)), (.int 1)] below meth c s₁ [] 0 0 := Stand.of_body Bd
  have e0 : s₁.heap = h0 := by rw [← hh, Bd.state]; rfl
  have N0 := Fr.nil n0
  show oG p e below s (Q_holds_NOT_BLANK_1 Z  w h0 n0) ({ frames := 0, cells := 0, slots := 0, locals := 0 } : Room).cells ({ frames := 0, cells := 0, slots := 0, locals := 0 } : Room).slots _
  refine oS (fun t k => castTop (ef_1_ri_1 m (w 2)) k) ?_
  show oG _ _ _ _ _ _ _ (s₁.setTop (mkF m 0 #[.val (.ref (w 2)), .val (.int 1)] []))
  refine oS (fun t k => XS.aloadN X0.here hx rfl (hb hby d1_0) rfl rfl k) ?_
  obtain ⟨T1, X1, e1, st1⟩ := getS2 X0 hx hZ hown (host := "") (Or.inl (oW hw 9 rfl)) Via.refl e0 ((wS1 W).ext O0.2) (g := (mkF m 1 #[.val (.ref (w 2)), .val (.int 1)] [(.ref (w 2))])) rfl (hb hby d1_1)
  refine oS (fun t k => st1 t k) ?_
  refine oS (fun t k => Jvm.RoadKit.acmp (g := (mkF m 4 #[.val (.ref (w 2)), .val (.int 1)] [(.ref (w 1)), (.ref (w 2))])) X1 hx rfl rfl rfl (pc0 := 4) (pc' := 7) (same := false) rfl (hb hby d1_4) rfl (decide_eq_false fun q => (own_neI (wF2_ordinal W) (wF1_ordinal W) (by decide)) (Value.ref.inj q)) (by decide) (by decide) k) ?_
  refine oS (fun t k => XS.iloadN X1.here hx rfl (hb hby d1_7) rfl k) ?_
  refine oS (fun t k => XS.aloadN X1.here hx rfl (hb hby d1_8) rfl rfl k) ?_
  obtain ⟨T2, X2, e2, st2⟩ := getS2 X1 hx hZ hown (host := "") (Or.inl (oW hw 11 rfl)) Via.refl e1 ((wS0 W).ext O0.2) (g := (mkF m 9 #[.val (.ref (w 2)), .val (.int 1)] [(.ref (w 2)), (.int 1)])) rfl (hb hby d1_9)
  refine oS (fun t k => st2 t k) ?_
  refine oS (fun t k => Jvm.RoadKit.acmp (g := (mkF m 12 #[.val (.ref (w 2)), .val (.int 1)] [(.ref (w 0)), (.ref (w 2)), (.int 1)])) X2 hx rfl rfl rfl (pc0 := 12) (pc' := 19) (same := false) rfl (hb hby d1_12) rfl (decide_eq_false fun q => (own_neI (wF2_ordinal W) (wF0_ordinal W) (by decide)) (Value.ref.inj q)) (by decide) (by decide) k) ?_
  refine oS (fun t k => XS.iconst X2.here hx rfl (hb hby d1_19) k) ?_
  refine oS (fun t k => XS.icmpYes X2.here hx rfl (pc0 := 20) (pc' := 27) rfl (hb hby d1_20) rfl (feq (by decide)).2 (by decide) (by decide) k) ?_
  refine oS (fun t k => XS.iconst X2.here hx rfl (hb hby d1_27) k) ?_
  show oG _ _ _ _ _ _ _ (T2.setTop (mkF m 28 #[.val (.ref (w 2)), .val (.int 1)] [(.int 0)]))
  exact own_ret (v := some (.int 0)) X2 (fun h => by rw [Bd.returns] at h; cases h) Bd.notSynchronized (fun fs hr => retN X2 hx (t := .boolean) Bd.returns (by simp) (hb hby d1_28) hr) (by rw [e2]; exact ⟨rfl, N0, rfl⟩) (by decide) (by decide)
def Q_holds_ANY_0 (Z : State)  (w : Nat → Addr) (h0 : Heap) (n0 : Nat) (v : Option Value) (h : Heap) (L : List Loc) : Prop := v = some (.int 1) ∧ Fr n0 L ∧ h = h0
set_option maxRecDepth 65536 in
set_option maxHeartbeats 40000000 in
theorem rm_holds_ANY_0 (l : Launch) (Z : State) (a0 : Array Value) (hw : ∀ d ∈ tables_1, d.before a0 Z = true) (ws : List Jvm.Cond)  (w : Nat → Addr) (h0 : Heap) (n0 : Nat) (O0 : Old Z n0 h0) (W : own_World Z w) :
    MetFree l mY0 (head1 (Jvm.Cond.code mY0 prog_28_method_4_code 2 (some .boolean) :: ws) ({ frames := 0, cells := 0, slots := 0, locals := 0 } : Room)) (fun a U => a = #[(.ref (w 1)), (.int 0)] ∧ Z.Warmed39 U.vm ∧ U.heap = h0) (fun _ _ _ _ _ => True) (fun _ U o U' => ∃ v L, o = .returned v ∧ Q_holds_ANY_0 Z  w h0 n0 v U'.heap L ∧ FrameEnd U o U' L ({ frames := 0, cells := 0, slots := 0, locals := 0 } : Room).cells ({ frames := 0, cells := 0, slots := 0, locals := 0 } : Room).slots) := by
  refine MetFree.of_bodySF (plainFor_of_name pn_0) hisR ?_
  intro p e s m args below meth c s₁ Bd hml0 hP hK
  obtain ⟨rfl, hZ, hh⟩ := hP
  have hx := Bd.exec
  have hby := Bd.bytes
  have hml : c.maxLocals = 2 := hml0
  have hown : s.vm.findClass "com/example/gluebox/gluebox/PageSequenceMaster$BlankOrNotBlank" = some m.cls := findClass_of_methodNamed Bd.named
  have hnm := (name_of_methodNamed Bd.named Bd.method).1
  have X0 : Stand p l e ({ frames := 0, cells := 0, slots := 0, locals := 0 } : Room) s m #[(.ref (w 1)), (.int 0)] below meth c s₁ [] 0 0 := Stand.of_body Bd
  have e0 : s₁.heap = h0 := by rw [← hh, Bd.state]; rfl
  have N0 := Fr.nil n0
  show oG p e below s (Q_holds_ANY_0 Z  w h0 n0) ({ frames := 0, cells := 0, slots := 0, locals := 0 } : Room).cells ({ frames := 0, cells := 0, slots := 0, locals := 0 } : Room).slots _
  refine oS (fun t k => castTop (ef_1_ri_0 m (w 1)) k) ?_
  show oG _ _ _ _ _ _ _ (s₁.setTop (mkF m 0 #[.val (.ref (w 1)), .val (.int 0)] []))
  refine oS (fun t k => XS.aloadN X0.here hx rfl (hb hby d1_0) rfl rfl k) ?_
  obtain ⟨T1, X1, e1, st1⟩ := getS2 X0 hx hZ hown (host := "") (Or.inl (oW hw 9 rfl)) Via.refl e0 ((wS1 W).ext O0.2) (g := (mkF m 1 #[.val (.ref (w 1)), .val (.int 0)] [(.ref (w 1))])) rfl (hb hby d1_1)
  refine oS (fun t k => st1 t k) ?_
  refine oS (fun t k => Jvm.RoadKit.acmp (g := (mkF m 4 #[.val (.ref (w 1)), .val (.int 0)] [(.ref (w 1)), (.ref (w 1))])) X1 hx rfl rfl rfl (pc0 := 4) (pc' := 23) (same := true) rfl (hb hby d1_4) rfl (decide_eq_true rfl) (by decide) (by decide) k) ?_
  refine oS (fun t k => XS.iconst X1.here hx rfl (hb hby d1_23) k) ?_
  refine oS (fun t k => XS.goto X1.here hx rfl (pc0 := 24) (pc' := 28) rfl (hb hby d1_24) (by decide) (by decide) k) ?_
  exact own_ret (v := some (.int 1)) X1 (fun h => by rw [Bd.returns] at h; cases h) Bd.notSynchronized (fun fs hr => retN X1 hx (t := .boolean) Bd.returns (by simp) (hb hby d1_28) hr) (by rw [e1]; exact ⟨rfl, N0, rfl⟩) (by decide) (by decide)
def Q_holds_ANY_1 (Z : State)  (w : Nat → Addr) (h0 : Heap) (n0 : Nat) (v : Option Value) (h : Heap) (L : List Loc) : Prop := v = some (.int 1) ∧ Fr n0 L ∧ h = h0
set_option maxRecDepth 65536 in
set_option maxHeartbeats 40000000 in
theorem rm_holds_ANY_1 (l : Launch) (Z : State) (a0 : Array Value) (hw : ∀ d ∈ tables_1, d.before a0 Z = true) (ws : List Jvm.Cond)  (w : Nat → Addr) (h0 : Heap) (n0 : Nat) (O0 : Old Z n0 h0) (W : own_World Z w) :
    MetFree l mY0 (head1 (Jvm.Cond.code mY0 prog_28_method_4_code 2 (some .boolean) :: ws) ({ frames := 0, cells := 0, slots := 0, locals := 0 } : Room)) (fun a U => a = #[(.ref (w 1)), (.int 1)] ∧ Z.Warmed39 U.vm ∧ U.heap = h0) (fun _ _ _ _ _ => True) (fun _ U o U' => ∃ v L, o = .returned v ∧ Q_holds_ANY_1 Z  w h0 n0 v U'.heap L ∧ FrameEnd U o U' L ({ frames := 0, cells := 0, slots := 0, locals := 0 } : Room).cells ({ frames := 0, cells := 0, slots := 0, locals := 0 } : Room).slots) := by
  refine MetFree.of_bodySF (plainFor_of_name pn_0) hisR ?_
  intro p e s m args below meth c s₁ Bd hml0 hP hK
  obtain ⟨rfl, hZ, hh⟩ := hP
  have hx := Bd.exec
  have hby := Bd.bytes
  have hml : c.maxLocals = 2 := hml0
  have hown : s.vm.findClass "com/example/gluebox/gluebox/PageSequenceMaster$BlankOrNotBlank" = some m.cls := findClass_of_methodNamed Bd.named
  have hnm := (name_of_methodNamed Bd.named Bd.method).1
  have X0 : Stand p l e ({ frames := 0, cells := 0, slots := 0, locals := 0 } : Room) s m #[(.ref (w 1)), (.int 1)] below meth c s₁ [] 0 0 := Stand.of_body Bd
  have e0 : s₁.heap = h0 := by rw [← hh, Bd.state]; rfl
  have N0 := Fr.nil n0
  show oG p e below s (Q_holds_ANY_1 Z  w h0 n0) ({ frames := 0, cells := 0, slots := 0, locals := 0 } : Room).cells ({ frames := 0, cells := 0, slots := 0, locals := 0 } : Room).slots _
  refine oS (fun t k => castTop (ef_1_ri_1 m (w 1)) k) ?_
  show oG _ _ _ _ _ _ _ (s₁.setTop (mkF m 0 #[.val (.ref (w 1)), .val (.int 1)] []))
  refine oS (fun t k => XS.aloadN X0.here hx rfl (hb hby d1_0) rfl rfl k) ?_
  obtain ⟨T1, X1, e1, st1⟩ := getS2 X0 hx hZ hown (host := "") (Or.inl (oW hw 9 rfl)) Via.refl e0 ((wS1 W).ext O0.2) (g := (mkF m 1 #[.val (.ref (w 1)), .val (.int 1)] [(.ref (w 1))])) rfl (hb hby d1_1)
  refine oS (fun t k => st1 t k) ?_
  refine oS (fun t k => Jvm.RoadKit.acmp (g := (mkF m 4 #[.val (.ref (w 1)), .val (.int 1)] [(.ref (w 1)), (.ref (w 1))])) X1 hx rfl rfl rfl (pc0 := 4) (pc' := 23) (same := true) rfl (hb hby d1_4) rfl (decide_eq_true rfl) (by decide) (by decide) k) ?_
  refine oS (fun t k => XS.iconst X1.here hx rfl (hb hby d1_23) k) ?_
  refine oS (fun t k => XS.goto X1.here hx rfl (pc0 := 24) (pc' := 28) rfl (hb hby d1_24) (by decide) (by decide) k) ?_
  exact own_ret (v := some (.int 1)) X1 (fun h => by rw [Bd.returns] at h; cases h) Bd.notSynchronized (fun fs hr => retN X1 hx (t := .boolean) Bd.returns (by simp) (hb hby d1_28) hr) (by rw [e1]; exact ⟨rfl, N0, rfl⟩) (by decide) (by decide)
theorem pd_0 : parseMethodDescriptor "(Z)Z" = some ⟨[.boolean], some .boolean⟩ := by decide +kernel
theorem ef_0_ii (m : MethodId) (x0 : Int32) (x1 : Int32) : entryFrame m #[(.int x0), (.int x1)] maxLocals = mkF m 0 #[.val (.int x0), .val (.int x1), .unset, .unset, .unset, .unset] [] := by first | (simp [entryFrame, mkF, argsToLocals, Value.category, maxLocals]; done) | rfl
theorem pn_1 : plainName "com/example/gluebox/gluebox/BlankOrNotBlankHoldsPinLaw" = true := by first | (simp [plainName, overriddenIn]; done) | decide +kernel
def Q_law (Z : State) (p1 : Int32) (p2 : Int32) (w : Nat → Addr) (h0 : Heap) (n0 : Nat) (v : Option Value) (h : Heap) (L : List Loc) : Prop := v = some (.int 1) ∧ Fr n0 L
set_option maxRecDepth 65536 in
set_option maxHeartbeats 40000000 in
theorem rm_law (l : Launch) (Z : State) (a0 : Array Value) (hw : ∀ d ∈ tables_1, d.before a0 Z = true) (ws : List Jvm.Cond) (p1 : Int32) (p2 : Int32) (w : Nat → Addr) (h0 : Heap) (n0 : Nat) (O0 : Old Z n0 h0) (W : own_World Z w) :
    MetFree l x (head1 (Jvm.Cond.code x code maxLocals ret :: ws) room_1) (fun a U => a = #[(.int p1), (.int p2)] ∧ Z.Warmed39 U.vm ∧ U.heap = h0) (fun _ _ _ _ _ => True) (fun _ U o U' => ∃ v L, o = .returned v ∧ Q_law Z p1 p2 w h0 n0 v U'.heap L ∧ FrameEnd U o U' L room_1.cells room_1.slots) := by
  refine MetFree.of_bodySF (plainFor_of_name pn_1) hisR ?_
  intro p e s m args below meth c s₁ Bd hml0 hP hK
  obtain ⟨rfl, hZ, hh⟩ := hP
  have hx := Bd.exec
  have hby := Bd.bytes
  have hml : c.maxLocals = 6 := hml0
  have hown : s.vm.findClass "com/example/gluebox/gluebox/BlankOrNotBlankHoldsPinLaw" = some m.cls := findClass_of_methodNamed Bd.named
  have hnm := (name_of_methodNamed Bd.named Bd.method).1
  have X0 : Stand p l e room_1 s m #[(.int p1), (.int p2)] below meth c s₁ [] 0 0 := Stand.of_body Bd
  have e0 : s₁.heap = h0 := by rw [← hh, Bd.state]; rfl
  have N0 := Fr.nil n0
  show oG p e below s (Q_law Z p1 p2 w h0 n0) room_1.cells room_1.slots _
  refine oS (fun t k => castTop (ef_0_ii m p1 p2) k) ?_
  show oG _ _ _ _ _ _ _ (s₁.setTop (mkF m 0 #[.val (.int p1), .val (.int p2), .unset, .unset, .unset, .unset] []))
  refine oS (fun t k => XS.iloadN X0.here hx rfl (hb hby at_0) rfl k) ?_
  refine oS (fun t k => X0.ldcInt hx hown (mvT hZ (oW hw 0 rfl)) (g := (mkF m 1 #[.val (.int p1), .val (.int p2), .unset, .unset, .unset, .unset] [(.int p1)])) rfl (hb hby at_1) t k) ?_
  refine oS (fun t k => XS.iand X0.here hx rfl (hb hby at_3) rfl k) ?_
  refine oS (fun t k => XS.iconst X0.here hx rfl (hb hby at_4) k) ?_
  refine oS (fun t k => iremM X0 hx rfl (hb hby at_5) rfl (by decide) k) ?_
  refine oS (fun t k => XS.istoreN X0.here hx rfl (hb hby at_6) rfl (l' := #[.val (.int p1), .val (.int p2), .val (.int ((p1 &&& (2147483647 : Int32)) % (3 : Int32))), .unset, .unset, .unset]) rfl k) ?_
  refine oS (fun t k => XS.iloadN X0.here hx rfl (hb hby at_7) rfl k) ?_
  refine oS (fun t k => XS.iconst X0.here hx rfl (hb hby at_8) k) ?_
  refine oS (fun t k => XS.iand X0.here hx rfl (hb hby at_9) rfl k) ?_
  by_cases hc10 : (p2 &&& (1 : Int32)) = (0 : Int32)
  · refine oS (fun t k => XS.ifYes X0.here hx rfl (pc0 := 10) (pc' := 17) rfl (hb hby at_10) rfl ((if0 _ _).trans (teq hc10).1) (by decide) (by decide) k) ?_
    show oG _ _ _ _ _ _ _ (s₁.setTop (mkF m 17 #[.val (.int p1), .val (.int p2), .val (.int ((p1 &&& (2147483647 : Int32)) % (3 : Int32))), .unset, .unset, .unset] []))
    refine oS (fun t k => XS.iconst X0.here hx rfl (hb hby at_17) k) ?_
    refine oS (fun t k => XS.istoreN X0.here hx rfl (hb hby at_18) rfl (l' := #[.val (.int p1), .val (.int p2), .val (.int ((p1 &&& (2147483647 : Int32)) % (3 : Int32))), .val (.int 0), .unset, .unset]) rfl k) ?_
    refine oS (fun t k => XS.iloadN X0.here hx rfl (hb hby at_19) rfl k) ?_
    by_cases hc20 : ((p1 &&& (2147483647 : Int32)) % (3 : Int32)) = (0 : Int32)
    · refine oS (fun t k => XS.ifNo X0.here hx rfl (hb hby at_20) rfl ((if0 _ _).trans (teq hc20).2) k) ?_
      obtain ⟨T1, X1, e1, st1⟩ := getS2 X0 hx hZ hown (host := "") (Or.inl (oW hw 1 rfl)) Via.refl e0 ((wS0 W).ext O0.2) (g := (mkF m 23 #[.val (.int p1), .val (.int p2), .val (.int ((p1 &&& (2147483647 : Int32)) % (3 : Int32))), .val (.int 0), .unset, .unset] [])) rfl (hb hby at_23)
      refine oS (fun t k => st1 t k) ?_
      refine oS (fun t k => XS.astore X1.here hx rfl (hb hby at_26) rfl rfl (l' := #[.val (.int p1), .val (.int p2), .val (.int ((p1 &&& (2147483647 : Int32)) % (3 : Int32))), .val (.int 0), .val (.ref (w 0)), .unset]) rfl k) ?_
      refine oS (fun t k => XS.iloadN X1.here hx rfl (hb hby at_28) rfl k) ?_
      refine oS (fun t k => XS.istore X1.here hx rfl (hb hby at_29) rfl (l' := #[.val (.int p1), .val (.int p2), .val (.int ((p1 &&& (2147483647 : Int32)) % (3 : Int32))), .val (.int 0), .val (.ref (w 0)), .val (.int 0)]) rfl k) ?_
      refine oS (fun t k => XS.goto X1.here hx rfl (pc0 := 31) (pc' := 66) rfl (hb hby at_31) (by decide) (by decide) k) ?_
      refine oS (fun t k => XS.aload X1.here hx rfl (hb hby at_66) rfl rfl k) ?_
      show oG _ _ _ _ _ _ _ (T1.setTop (mkF m 68 #[.val (.int p1), .val (.int p2), .val (.int ((p1 &&& (2147483647 : Int32)) % (3 : Int32))), .val (.int 0), .val (.ref (w 0)), .val (.int 0)] [(.ref (w 0))]))
      refine oS (fun t k => XS.iloadN X1.here hx rfl (hb hby at_68) rfl k) ?_
      obtain ⟨cq2, kq2, q2a, q2b, q2c⟩ := isOf hZ e1 ((wE0 W).ext O0.2)
      obtain ⟨_, _, ⟨T2, L2, k2, n2⟩, -, X2, ⟨Lc2, hQ2, l2, y2, z2⟩, st2⟩ := X1.virtualBack hx (y := mY0) (z := mY0) hown (mvT hZ (oW hw 4 rfl)) (mvT hZ (oW hw 5 rfl)) (notFace_of_selects (args := #[]) (mvT hZ (oW hw 7 rfl))) (mvT hZ (oW hw 7 rfl)) (mvT hZ (oW hw 6 rfl)) (by decide) (backOf (W := 0) (rm_holds_BLANK_0 l Z a0 hw []  w h0 n0 O0 W ) hZ (oW hw 8 rfl) (oW hw 2 rfl) (by decide) (by decide)) q2a q2c (g := (mkF m 69 #[.val (.int p1), .val (.int p2), .val (.int ((p1 &&& (2147483647 : Int32)) % (3 : Int32))), .val (.int 0), .val (.ref (w 0)), .val (.int 0)] [(.int 0), (.ref (w 0))])) rfl (by rw [hml]; rfl) (Steps.refl _) (argsL := [(.int 0)]) (rest := []) (lenOf pd_0 rfl) rfl (by show 2 * 0 + _ ≤ _; exact Nat.le_of_eq rfl) (hb hby at_69) (fun _ _ => ⟨rfl, e1, (by decide : 0 + 0 ≤ _), (by decide : 0 + 0 ≤ _)⟩)
      dsimp only [Pt.U, Pt.locs, Pt.cells, Pt.slots] at X2 l2 y2 z2 st2 hQ2
      subst l2 y2 z2
      obtain ⟨rfl, Nq2, e2⟩ := hQ2
      have N2 := Fr.app N0 Nq2
      refine oS (fun t k => st2.trans k) ?_
      show oG _ _ _ _ _ _ _ (T2.setTop (mkF m 72 #[.val (.int p1), .val (.int p2), .val (.int ((p1 &&& (2147483647 : Int32)) % (3 : Int32))), .val (.int 0), .val (.ref (w 0)), .val (.int 0)] [(.int 0)]))
      refine oS (fun t k => XS.iload X2.here hx rfl (hb hby at_72) rfl k) ?_
      refine oS (fun t k => XS.icmpNo X2.here hx rfl (hb hby at_74) rfl (teq (by decide)).2 k) ?_
      refine oS (fun t k => XS.iconst X2.here hx rfl (hb hby at_77) k) ?_
      refine oS (fun t k => XS.goto X2.here hx rfl (pc0 := 78) (pc' := 82) rfl (hb hby at_78) (by decide) (by decide) k) ?_
      exact own_ret (v := some (.int 1)) X2 (fun h => by rw [Bd.returns] at h; cases h) Bd.notSynchronized (fun fs hr => retN X2 hx (t := .boolean) Bd.returns (by simp) (hb hby at_82) hr) (by rw [e2]; exact ⟨rfl, N2⟩) (by decide) (by decide)
    · refine oS (fun t k => XS.ifYes X0.here hx rfl (pc0 := 20) (pc' := 34) rfl (hb hby at_20) rfl ((if0 _ _).trans (feq hc20).2) (by decide) (by decide) k) ?_
      refine oS (fun t k => XS.iloadN X0.here hx rfl (hb hby at_34) rfl k) ?_
      refine oS (fun t k => XS.iconst X0.here hx rfl (hb hby at_35) k) ?_
      by_cases hc36 : ((p1 &&& (2147483647 : Int32)) % (3 : Int32)) = (1 : Int32)
      · refine oS (fun t k => XS.icmpNo X0.here hx rfl (hb hby at_36) rfl (teq hc36).2 k) ?_
        obtain ⟨T3, X3, e3, st3⟩ := getS2 X0 hx hZ hown (host := "") (Or.inl (oW hw 13 rfl)) Via.refl e0 ((wS2 W).ext O0.2) (g := (mkF m 39 #[.val (.int p1), .val (.int p2), .val (.int ((p1 &&& (2147483647 : Int32)) % (3 : Int32))), .val (.int 0), .unset, .unset] [])) rfl (hb hby at_39)
        refine oS (fun t k => st3 t k) ?_
        refine oS (fun t k => XS.astore X3.here hx rfl (hb hby at_42) rfl rfl (l' := #[.val (.int p1), .val (.int p2), .val (.int ((p1 &&& (2147483647 : Int32)) % (3 : Int32))), .val (.int 0), .val (.ref (w 2)), .unset]) rfl k) ?_
        refine oS (fun t k => XS.iloadN X3.here hx rfl (hb hby at_44) rfl k) ?_
        show oG _ _ _ _ _ _ _ (T3.setTop (mkF m 45 #[.val (.int p1), .val (.int p2), .val (.int ((p1 &&& (2147483647 : Int32)) % (3 : Int32))), .val (.int 0), .val (.ref (w 2)), .unset] [(.int 0)]))
        refine oS (fun t k => XS.ifNo X3.here hx rfl (hb hby at_45) rfl ((if0 _ _).trans (teq (by decide)).2) k) ?_
        refine oS (fun t k => XS.iconst X3.here hx rfl (hb hby at_48) k) ?_
        refine oS (fun t k => XS.goto X3.here hx rfl (pc0 := 49) (pc' := 53) rfl (hb hby at_49) (by decide) (by decide) k) ?_
        refine oS (fun t k => XS.istore X3.here hx rfl (hb hby at_53) rfl (l' := #[.val (.int p1), .val (.int p2), .val (.int ((p1 &&& (2147483647 : Int32)) % (3 : Int32))), .val (.int 0), .val (.ref (w 2)), .val (.int 1)]) rfl k) ?_
        refine oS (fun t k => XS.goto X3.here hx rfl (pc0 := 55) (pc' := 66) rfl (hb hby at_55) (by decide) (by decide) k) ?_
        refine oS (fun t k => XS.aload X3.here hx rfl (hb hby at_66) rfl rfl k) ?_
        refine oS (fun t k => XS.iloadN X3.here hx rfl (hb hby at_68) rfl k) ?_
        obtain ⟨cq4, kq4, q4a, q4b, q4c⟩ := isOf hZ e3 ((wE2 W).ext O0.2)
        obtain ⟨_, _, ⟨T4, L4, k4, n4⟩, -, X4, ⟨Lc4, hQ4, l4, y4, z4⟩, st4⟩ := X3.virtualBack hx (y := mY0) (z := mY0) hown (mvT hZ (oW hw 4 rfl)) (mvT hZ (oW hw 5 rfl)) (notFace_of_selects (args := #[]) (mvT hZ (oW hw 7 rfl))) (mvT hZ (oW hw 7 rfl)) (mvT hZ (oW hw 6 rfl)) (by decide) (backOf (W := 0) (rm_holds_NOT_BLANK_0 l Z a0 hw []  w h0 n0 O0 W ) hZ (oW hw 8 rfl) (oW hw 2 rfl) (by decide) (by decide)) q4a q4c (g := (mkF m 69 #[.val (.int p1), .val (.int p2), .val (.int ((p1 &&& (2147483647 : Int32)) % (3 : Int32))), .val (.int 0), .val (.ref (w 2)), .val (.int 1)] [(.int 0), (.ref (w 2))])) rfl (by rw [hml]; rfl) (Steps.refl _) (argsL := [(.int 0)]) (rest := []) (lenOf pd_0 rfl) rfl (by show 2 * 0 + _ ≤ _; exact Nat.le_of_eq rfl) (hb hby at_69) (fun _ _ => ⟨rfl, e3, (by decide : 0 + 0 ≤ _), (by decide : 0 + 0 ≤ _)⟩)
        dsimp only [Pt.U, Pt.locs, Pt.cells, Pt.slots] at X4 l4 y4 z4 st4 hQ4
        subst l4 y4 z4
        obtain ⟨rfl, Nq4, e4⟩ := hQ4
        have N4 := Fr.app N0 Nq4
        refine oS (fun t k => st4.trans k) ?_
        show oG _ _ _ _ _ _ _ (T4.setTop (mkF m 72 #[.val (.int p1), .val (.int p2), .val (.int ((p1 &&& (2147483647 : Int32)) % (3 : Int32))), .val (.int 0), .val (.ref (w 2)), .val (.int 1)] [(.int 1)]))
        refine oS (fun t k => XS.iload X4.here hx rfl (hb hby at_72) rfl k) ?_
        refine oS (fun t k => XS.icmpNo X4.here hx rfl (hb hby at_74) rfl (teq (by decide)).2 k) ?_
        refine oS (fun t k => XS.iconst X4.here hx rfl (hb hby at_77) k) ?_
        refine oS (fun t k => XS.goto X4.here hx rfl (pc0 := 78) (pc' := 82) rfl (hb hby at_78) (by decide) (by decide) k) ?_
        exact own_ret (v := some (.int 1)) X4 (fun h => by rw [Bd.returns] at h; cases h) Bd.notSynchronized (fun fs hr => retN X4 hx (t := .boolean) Bd.returns (by simp) (hb hby at_82) hr) (by rw [e4]; exact ⟨rfl, N4⟩) (by decide) (by decide)
      · refine oS (fun t k => XS.icmpYes X0.here hx rfl (pc0 := 36) (pc' := 58) rfl (hb hby at_36) rfl (feq hc36).2 (by decide) (by decide) k) ?_
        obtain ⟨T5, X5, e5, st5⟩ := getS2 X0 hx hZ hown (host := "") (Or.inl (oW hw 12 rfl)) Via.refl e0 ((wS1 W).ext O0.2) (g := (mkF m 58 #[.val (.int p1), .val (.int p2), .val (.int ((p1 &&& (2147483647 : Int32)) % (3 : Int32))), .val (.int 0), .unset, .unset] [])) rfl (hb hby at_58)
        refine oS (fun t k => st5 t k) ?_
        refine oS (fun t k => XS.astore X5.here hx rfl (hb hby at_61) rfl rfl (l' := #[.val (.int p1), .val (.int p2), .val (.int ((p1 &&& (2147483647 : Int32)) % (3 : Int32))), .val (.int 0), .val (.ref (w 1)), .unset]) rfl k) ?_
        refine oS (fun t k => XS.iconst X5.here hx rfl (hb hby at_63) k) ?_
        show oG _ _ _ _ _ _ _ (T5.setTop (mkF m 64 #[.val (.int p1), .val (.int p2), .val (.int ((p1 &&& (2147483647 : Int32)) % (3 : Int32))), .val (.int 0), .val (.ref (w 1)), .unset] [(.int 1)]))
        refine oS (fun t k => XS.istore X5.here hx rfl (hb hby at_64) rfl (l' := #[.val (.int p1), .val (.int p2), .val (.int ((p1 &&& (2147483647 : Int32)) % (3 : Int32))), .val (.int 0), .val (.ref (w 1)), .val (.int 1)]) rfl k) ?_
        refine oS (fun t k => XS.aload X5.here hx rfl (hb hby at_66) rfl rfl k) ?_
        refine oS (fun t k => XS.iloadN X5.here hx rfl (hb hby at_68) rfl k) ?_
        obtain ⟨cq6, kq6, q6a, q6b, q6c⟩ := isOf hZ e5 ((wE1 W).ext O0.2)
        obtain ⟨_, _, ⟨T6, L6, k6, n6⟩, -, X6, ⟨Lc6, hQ6, l6, y6, z6⟩, st6⟩ := X5.virtualBack hx (y := mY0) (z := mY0) hown (mvT hZ (oW hw 4 rfl)) (mvT hZ (oW hw 5 rfl)) (notFace_of_selects (args := #[]) (mvT hZ (oW hw 7 rfl))) (mvT hZ (oW hw 7 rfl)) (mvT hZ (oW hw 6 rfl)) (by decide) (backOf (W := 0) (rm_holds_ANY_0 l Z a0 hw []  w h0 n0 O0 W ) hZ (oW hw 8 rfl) (oW hw 2 rfl) (by decide) (by decide)) q6a q6c (g := (mkF m 69 #[.val (.int p1), .val (.int p2), .val (.int ((p1 &&& (2147483647 : Int32)) % (3 : Int32))), .val (.int 0), .val (.ref (w 1)), .val (.int 1)] [(.int 0), (.ref (w 1))])) rfl (by rw [hml]; rfl) (Steps.refl _) (argsL := [(.int 0)]) (rest := []) (lenOf pd_0 rfl) rfl (by show 2 * 0 + _ ≤ _; exact Nat.le_of_eq rfl) (hb hby at_69) (fun _ _ => ⟨rfl, e5, (by decide : 0 + 0 ≤ _), (by decide : 0 + 0 ≤ _)⟩)
        dsimp only [Pt.U, Pt.locs, Pt.cells, Pt.slots] at X6 l6 y6 z6 st6 hQ6
        subst l6 y6 z6
        obtain ⟨rfl, Nq6, e6⟩ := hQ6
        have N6 := Fr.app N0 Nq6
        refine oS (fun t k => st6.trans k) ?_
        show oG _ _ _ _ _ _ _ (T6.setTop (mkF m 72 #[.val (.int p1), .val (.int p2), .val (.int ((p1 &&& (2147483647 : Int32)) % (3 : Int32))), .val (.int 0), .val (.ref (w 1)), .val (.int 1)] [(.int 1)]))
        refine oS (fun t k => XS.iload X6.here hx rfl (hb hby at_72) rfl k) ?_
        refine oS (fun t k => XS.icmpNo X6.here hx rfl (hb hby at_74) rfl (teq (by decide)).2 k) ?_
        refine oS (fun t k => XS.iconst X6.here hx rfl (hb hby at_77) k) ?_
        refine oS (fun t k => XS.goto X6.here hx rfl (pc0 := 78) (pc' := 82) rfl (hb hby at_78) (by decide) (by decide) k) ?_
        exact own_ret (v := some (.int 1)) X6 (fun h => by rw [Bd.returns] at h; cases h) Bd.notSynchronized (fun fs hr => retN X6 hx (t := .boolean) Bd.returns (by simp) (hb hby at_82) hr) (by rw [e6]; exact ⟨rfl, N6⟩) (by decide) (by decide)
  · refine oS (fun t k => XS.ifNo X0.here hx rfl (hb hby at_10) rfl ((if0 _ _).trans (feq hc10).1) k) ?_
    show oG _ _ _ _ _ _ _ (s₁.setTop (mkF m 13 #[.val (.int p1), .val (.int p2), .val (.int ((p1 &&& (2147483647 : Int32)) % (3 : Int32))), .unset, .unset, .unset] []))
    refine oS (fun t k => XS.iconst X0.here hx rfl (hb hby at_13) k) ?_
    refine oS (fun t k => XS.goto X0.here hx rfl (pc0 := 14) (pc' := 18) rfl (hb hby at_14) (by decide) (by decide) k) ?_
    refine oS (fun t k => XS.istoreN X0.here hx rfl (hb hby at_18) rfl (l' := #[.val (.int p1), .val (.int p2), .val (.int ((p1 &&& (2147483647 : Int32)) % (3 : Int32))), .val (.int 1), .unset, .unset]) rfl k) ?_
    refine oS (fun t k => XS.iloadN X0.here hx rfl (hb hby at_19) rfl k) ?_
    by_cases hc20 : ((p1 &&& (2147483647 : Int32)) % (3 : Int32)) = (0 : Int32)
    · refine oS (fun t k => XS.ifNo X0.here hx rfl (hb hby at_20) rfl ((if0 _ _).trans (teq hc20).2) k) ?_
      obtain ⟨T7, X7, e7, st7⟩ := getS2 X0 hx hZ hown (host := "") (Or.inl (oW hw 1 rfl)) Via.refl e0 ((wS0 W).ext O0.2) (g := (mkF m 23 #[.val (.int p1), .val (.int p2), .val (.int ((p1 &&& (2147483647 : Int32)) % (3 : Int32))), .val (.int 1), .unset, .unset] [])) rfl (hb hby at_23)
      refine oS (fun t k => st7 t k) ?_
      refine oS (fun t k => XS.astore X7.here hx rfl (hb hby at_26) rfl rfl (l' := #[.val (.int p1), .val (.int p2), .val (.int ((p1 &&& (2147483647 : Int32)) % (3 : Int32))), .val (.int 1), .val (.ref (w 0)), .unset]) rfl k) ?_
      refine oS (fun t k => XS.iloadN X7.here hx rfl (hb hby at_28) rfl k) ?_
      refine oS (fun t k => XS.istore X7.here hx rfl (hb hby at_29) rfl (l' := #[.val (.int p1), .val (.int p2), .val (.int ((p1 &&& (2147483647 : Int32)) % (3 : Int32))), .val (.int 1), .val (.ref (w 0)), .val (.int 1)]) rfl k) ?_
      refine oS (fun t k => XS.goto X7.here hx rfl (pc0 := 31) (pc' := 66) rfl (hb hby at_31) (by decide) (by decide) k) ?_
      show oG _ _ _ _ _ _ _ (T7.setTop (mkF m 66 #[.val (.int p1), .val (.int p2), .val (.int ((p1 &&& (2147483647 : Int32)) % (3 : Int32))), .val (.int 1), .val (.ref (w 0)), .val (.int 1)] []))
      refine oS (fun t k => XS.aload X7.here hx rfl (hb hby at_66) rfl rfl k) ?_
      refine oS (fun t k => XS.iloadN X7.here hx rfl (hb hby at_68) rfl k) ?_
      obtain ⟨cq8, kq8, q8a, q8b, q8c⟩ := isOf hZ e7 ((wE0 W).ext O0.2)
      obtain ⟨_, _, ⟨T8, L8, k8, n8⟩, -, X8, ⟨Lc8, hQ8, l8, y8, z8⟩, st8⟩ := X7.virtualBack hx (y := mY0) (z := mY0) hown (mvT hZ (oW hw 4 rfl)) (mvT hZ (oW hw 5 rfl)) (notFace_of_selects (args := #[]) (mvT hZ (oW hw 7 rfl))) (mvT hZ (oW hw 7 rfl)) (mvT hZ (oW hw 6 rfl)) (by decide) (backOf (W := 0) (rm_holds_BLANK_1 l Z a0 hw []  w h0 n0 O0 W ) hZ (oW hw 8 rfl) (oW hw 2 rfl) (by decide) (by decide)) q8a q8c (g := (mkF m 69 #[.val (.int p1), .val (.int p2), .val (.int ((p1 &&& (2147483647 : Int32)) % (3 : Int32))), .val (.int 1), .val (.ref (w 0)), .val (.int 1)] [(.int 1), (.ref (w 0))])) rfl (by rw [hml]; rfl) (Steps.refl _) (argsL := [(.int 1)]) (rest := []) (lenOf pd_0 rfl) rfl (by show 2 * 0 + _ ≤ _; exact Nat.le_of_eq rfl) (hb hby at_69) (fun _ _ => ⟨rfl, e7, (by decide : 0 + 0 ≤ _), (by decide : 0 + 0 ≤ _)⟩)
      dsimp only [Pt.U, Pt.locs, Pt.cells, Pt.slots] at X8 l8 y8 z8 st8 hQ8
      subst l8 y8 z8
      obtain ⟨rfl, Nq8, e8⟩ := hQ8
      have N8 := Fr.app N0 Nq8
      refine oS (fun t k => st8.trans k) ?_
      show oG _ _ _ _ _ _ _ (T8.setTop (mkF m 72 #[.val (.int p1), .val (.int p2), .val (.int ((p1 &&& (2147483647 : Int32)) % (3 : Int32))), .val (.int 1), .val (.ref (w 0)), .val (.int 1)] [(.int 1)]))
      refine oS (fun t k => XS.iload X8.here hx rfl (hb hby at_72) rfl k) ?_
      refine oS (fun t k => XS.icmpNo X8.here hx rfl (hb hby at_74) rfl (teq (by decide)).2 k) ?_
      refine oS (fun t k => XS.iconst X8.here hx rfl (hb hby at_77) k) ?_
      refine oS (fun t k => XS.goto X8.here hx rfl (pc0 := 78) (pc' := 82) rfl (hb hby at_78) (by decide) (by decide) k) ?_
      exact own_ret (v := some (.int 1)) X8 (fun h => by rw [Bd.returns] at h; cases h) Bd.notSynchronized (fun fs hr => retN X8 hx (t := .boolean) Bd.returns (by simp) (hb hby at_82) hr) (by rw [e8]; exact ⟨rfl, N8⟩) (by decide) (by decide)
    · refine oS (fun t k => XS.ifYes X0.here hx rfl (pc0 := 20) (pc' := 34) rfl (hb hby at_20) rfl ((if0 _ _).trans (feq hc20).2) (by decide) (by decide) k) ?_
      refine oS (fun t k => XS.iloadN X0.here hx rfl (hb hby at_34) rfl k) ?_
      refine oS (fun t k => XS.iconst X0.here hx rfl (hb hby at_35) k) ?_
      by_cases hc36 : ((p1 &&& (2147483647 : Int32)) % (3 : Int32)) = (1 : Int32)
      · refine oS (fun t k => XS.icmpNo X0.here hx rfl (hb hby at_36) rfl (teq hc36).2 k) ?_
        obtain ⟨T9, X9, e9, st9⟩ := getS2 X0 hx hZ hown (host := "") (Or.inl (oW hw 13 rfl)) Via.refl e0 ((wS2 W).ext O0.2) (g := (mkF m 39 #[.val (.int p1), .val (.int p2), .val (.int ((p1 &&& (2147483647 : Int32)) % (3 : Int32))), .val (.int 1), .unset, .unset] [])) rfl (hb hby at_39)
        refine oS (fun t k => st9 t k) ?_
        refine oS (fun t k => XS.astore X9.here hx rfl (hb hby at_42) rfl rfl (l' := #[.val (.int p1), .val (.int p2), .val (.int ((p1 &&& (2147483647 : Int32)) % (3 : Int32))), .val (.int 1), .val (.ref (w 2)), .unset]) rfl k) ?_
        show oG _ _ _ _ _ _ _ (T9.setTop (mkF m 44 #[.val (.int p1), .val (.int p2), .val (.int ((p1 &&& (2147483647 : Int32)) % (3 : Int32))), .val (.int 1), .val (.ref (w 2)), .unset] []))
        refine oS (fun t k => XS.iloadN X9.here hx rfl (hb hby at_44) rfl k) ?_
        refine oS (fun t k => XS.ifYes X9.here hx rfl (pc0 := 45) (pc' := 52) rfl (hb hby at_45) rfl ((if0 _ _).trans (feq (by decide)).2) (by decide) (by decide) k) ?_
        refine oS (fun t k => XS.iconst X9.here hx rfl (hb hby at_52) k) ?_
        refine oS (fun t k => XS.istore X9.here hx rfl (hb hby at_53) rfl (l' := #[.val (.int p1), .val (.int p2), .val (.int ((p1 &&& (2147483647 : Int32)) % (3 : Int32))), .val (.int 1), .val (.ref (w 2)), .val (.int 0)]) rfl k) ?_
        refine oS (fun t k => XS.goto X9.here hx rfl (pc0 := 55) (pc' := 66) rfl (hb hby at_55) (by decide) (by decide) k) ?_
        refine oS (fun t k => XS.aload X9.here hx rfl (hb hby at_66) rfl rfl k) ?_
        refine oS (fun t k => XS.iloadN X9.here hx rfl (hb hby at_68) rfl k) ?_
        obtain ⟨cq10, kq10, q10a, q10b, q10c⟩ := isOf hZ e9 ((wE2 W).ext O0.2)
        obtain ⟨_, _, ⟨T10, L10, k10, n10⟩, -, X10, ⟨Lc10, hQ10, l10, y10, z10⟩, st10⟩ := X9.virtualBack hx (y := mY0) (z := mY0) hown (mvT hZ (oW hw 4 rfl)) (mvT hZ (oW hw 5 rfl)) (notFace_of_selects (args := #[]) (mvT hZ (oW hw 7 rfl))) (mvT hZ (oW hw 7 rfl)) (mvT hZ (oW hw 6 rfl)) (by decide) (backOf (W := 0) (rm_holds_NOT_BLANK_1 l Z a0 hw []  w h0 n0 O0 W ) hZ (oW hw 8 rfl) (oW hw 2 rfl) (by decide) (by decide)) q10a q10c (g := (mkF m 69 #[.val (.int p1), .val (.int p2), .val (.int ((p1 &&& (2147483647 : Int32)) % (3 : Int32))), .val (.int 1), .val (.ref (w 2)), .val (.int 0)] [(.int 1), (.ref (w 2))])) rfl (by rw [hml]; rfl) (Steps.refl _) (argsL := [(.int 1)]) (rest := []) (lenOf pd_0 rfl) rfl (by show 2 * 0 + _ ≤ _; exact Nat.le_of_eq rfl) (hb hby at_69) (fun _ _ => ⟨rfl, e9, (by decide : 0 + 0 ≤ _), (by decide : 0 + 0 ≤ _)⟩)
        dsimp only [Pt.U, Pt.locs, Pt.cells, Pt.slots] at X10 l10 y10 z10 st10 hQ10
        subst l10 y10 z10
        obtain ⟨rfl, Nq10, e10⟩ := hQ10
        have N10 := Fr.app N0 Nq10
        refine oS (fun t k => st10.trans k) ?_
        show oG _ _ _ _ _ _ _ (T10.setTop (mkF m 72 #[.val (.int p1), .val (.int p2), .val (.int ((p1 &&& (2147483647 : Int32)) % (3 : Int32))), .val (.int 1), .val (.ref (w 2)), .val (.int 0)] [(.int 0)]))
        refine oS (fun t k => XS.iload X10.here hx rfl (hb hby at_72) rfl k) ?_
        refine oS (fun t k => XS.icmpNo X10.here hx rfl (hb hby at_74) rfl (teq (by decide)).2 k) ?_
        refine oS (fun t k => XS.iconst X10.here hx rfl (hb hby at_77) k) ?_
        refine oS (fun t k => XS.goto X10.here hx rfl (pc0 := 78) (pc' := 82) rfl (hb hby at_78) (by decide) (by decide) k) ?_
        exact own_ret (v := some (.int 1)) X10 (fun h => by rw [Bd.returns] at h; cases h) Bd.notSynchronized (fun fs hr => retN X10 hx (t := .boolean) Bd.returns (by simp) (hb hby at_82) hr) (by rw [e10]; exact ⟨rfl, N10⟩) (by decide) (by decide)
      · refine oS (fun t k => XS.icmpYes X0.here hx rfl (pc0 := 36) (pc' := 58) rfl (hb hby at_36) rfl (feq hc36).2 (by decide) (by decide) k) ?_
        obtain ⟨T11, X11, e11, st11⟩ := getS2 X0 hx hZ hown (host := "") (Or.inl (oW hw 12 rfl)) Via.refl e0 ((wS1 W).ext O0.2) (g := (mkF m 58 #[.val (.int p1), .val (.int p2), .val (.int ((p1 &&& (2147483647 : Int32)) % (3 : Int32))), .val (.int 1), .unset, .unset] [])) rfl (hb hby at_58)
        refine oS (fun t k => st11 t k) ?_
        refine oS (fun t k => XS.astore X11.here hx rfl (hb hby at_61) rfl rfl (l' := #[.val (.int p1), .val (.int p2), .val (.int ((p1 &&& (2147483647 : Int32)) % (3 : Int32))), .val (.int 1), .val (.ref (w 1)), .unset]) rfl k) ?_
        show oG _ _ _ _ _ _ _ (T11.setTop (mkF m 63 #[.val (.int p1), .val (.int p2), .val (.int ((p1 &&& (2147483647 : Int32)) % (3 : Int32))), .val (.int 1), .val (.ref (w 1)), .unset] []))
        refine oS (fun t k => XS.iconst X11.here hx rfl (hb hby at_63) k) ?_
        refine oS (fun t k => XS.istore X11.here hx rfl (hb hby at_64) rfl (l' := #[.val (.int p1), .val (.int p2), .val (.int ((p1 &&& (2147483647 : Int32)) % (3 : Int32))), .val (.int 1), .val (.ref (w 1)), .val (.int 1)]) rfl k) ?_
        refine oS (fun t k => XS.aload X11.here hx rfl (hb hby at_66) rfl rfl k) ?_
        refine oS (fun t k => XS.iloadN X11.here hx rfl (hb hby at_68) rfl k) ?_
        obtain ⟨cq12, kq12, q12a, q12b, q12c⟩ := isOf hZ e11 ((wE1 W).ext O0.2)
        obtain ⟨_, _, ⟨T12, L12, k12, n12⟩, -, X12, ⟨Lc12, hQ12, l12, y12, z12⟩, st12⟩ := X11.virtualBack hx (y := mY0) (z := mY0) hown (mvT hZ (oW hw 4 rfl)) (mvT hZ (oW hw 5 rfl)) (notFace_of_selects (args := #[]) (mvT hZ (oW hw 7 rfl))) (mvT hZ (oW hw 7 rfl)) (mvT hZ (oW hw 6 rfl)) (by decide) (backOf (W := 0) (rm_holds_ANY_1 l Z a0 hw []  w h0 n0 O0 W ) hZ (oW hw 8 rfl) (oW hw 2 rfl) (by decide) (by decide)) q12a q12c (g := (mkF m 69 #[.val (.int p1), .val (.int p2), .val (.int ((p1 &&& (2147483647 : Int32)) % (3 : Int32))), .val (.int 1), .val (.ref (w 1)), .val (.int 1)] [(.int 1), (.ref (w 1))])) rfl (by rw [hml]; rfl) (Steps.refl _) (argsL := [(.int 1)]) (rest := []) (lenOf pd_0 rfl) rfl (by show 2 * 0 + _ ≤ _; exact Nat.le_of_eq rfl) (hb hby at_69) (fun _ _ => ⟨rfl, e11, (by decide : 0 + 0 ≤ _), (by decide : 0 + 0 ≤ _)⟩)
        dsimp only [Pt.U, Pt.locs, Pt.cells, Pt.slots] at X12 l12 y12 z12 st12 hQ12
        subst l12 y12 z12
        obtain ⟨rfl, Nq12, e12⟩ := hQ12
        have N12 := Fr.app N0 Nq12
        refine oS (fun t k => st12.trans k) ?_
        show oG _ _ _ _ _ _ _ (T12.setTop (mkF m 72 #[.val (.int p1), .val (.int p2), .val (.int ((p1 &&& (2147483647 : Int32)) % (3 : Int32))), .val (.int 1), .val (.ref (w 1)), .val (.int 1)] [(.int 1)]))
        refine oS (fun t k => XS.iload X12.here hx rfl (hb hby at_72) rfl k) ?_
        refine oS (fun t k => XS.icmpNo X12.here hx rfl (hb hby at_74) rfl (teq (by decide)).2 k) ?_
        refine oS (fun t k => XS.iconst X12.here hx rfl (hb hby at_77) k) ?_
        refine oS (fun t k => XS.goto X12.here hx rfl (pc0 := 78) (pc' := 82) rfl (hb hby at_78) (by decide) (by decide) k) ?_
        exact own_ret (v := some (.int 1)) X12 (fun h => by rw [Bd.returns] at h; cases h) Bd.notSynchronized (fun fs hr => retN X12 hx (t := .boolean) Bd.returns (by simp) (hb hby at_82) hr) (by rw [e12]; exact ⟨rfl, N12⟩) (by decide) (by decide)
set_option maxRecDepth 65536 in
set_option maxHeartbeats 40000000 in
theorem comes_1 {Post : Tables → Env → Array Value → State → Outcome → State → Prop} (hpost : ∀ tb e args s v u, (limb_1_1.after args s (.returned v) u = true ∧ limb_1_2.after args s (.returned v) u = true ∧ True) → FrameEnd s (.returned v) u (Jvm.fieldLocs frame_1_writes args s ++ Jvm.arrayLocs frame_1_arrays args s ++ Jvm.staticLocs frame_1_statics s) 0 0 → Post tb e args s (.returned v) u) :
    ArmFor flags0 classFile x code maxLocals ret World_1 tables_1 room_1 Calls_1 rest_1 Pre_1 Post := by
  intro l hfl _ _ p e ha hc hk s m args below hf hA hF happ hP
  obtain ⟨hcalls, hrest, hpre⟩ := hP
  obtain ⟨-, -, -, hnamed, -, -, -, hat⟩ := (Spec.applies_iff hf).mp happ
  obtain ⟨hg, hn⟩ := and_e (Cond.before_iff.mp (show (Jvm.Cond.and given_1 narrow_1).before args s = true from hpre))
  obtain ⟨g0, g1⟩ := and_e hg
  obtain ⟨g2, g3⟩ := and_e g1
  obtain ⟨w0, w1, rfl⟩ : ∃ w0 w1 : Value, args = #[w0, w1] := by
    have hs : args.size = 2 := by simpa [Cond.value, given_1] using g0
    obtain ⟨L⟩ := args
    match L, hs with
    | [w0, w1], _ => exact ⟨w0, w1, rfl⟩
  have hw := fun d (hd : d ∈ tables_1) => atoms_spec (ws := Jvm.Cond.code x code maxLocals ret :: tables_1) hat d (List.mem_cons_of_mem _ hd)
  have hfit : Fit s := fun {y c} hc i hi => by
    obtain ⟨ha, rfl⟩ := Array.getElem?_eq_some_iff.mp hc
    have q := List.all_eq_true.mp ((Array.all_eq_true_iff_forall_mem.mp hF) _ (Array.getElem_mem ha)) i (List.mem_range.mpr hi)
    simpa [Array.getElem?_eq_getElem hi] using q
  obtain ⟨i0, ei0⟩ := is_v g2
  obtain rfl : w0 = (.int i0) := Option.some.inj ei0
  obtain ⟨i1, ei1⟩ := is_v g3
  obtain rfl : w1 = (.int i1) := Option.some.inj ei1
  obtain ⟨w, W⟩ := own_world hw hfit hn
  obtain ⟨n, o, h1, h2, h3, _, L, rfl, ⟨rfl, N⟩, hq⟩ := rm_law l s _ hw tables_1 i0 i1 w s.heap s.heap.size (Old.start s) W  p e ha hc hk s m _ below hf ((Spec.applies_iff_loose hf).mp happ).1 ⟨rfl, State.Warmed39.refl s, rfl⟩ trivial
  refine ⟨n, _, h1, h2, h3, hpost _ _ _ _ _ _ ⟨Cond.after_iff.mpr rfl, Cond.after_iff.mpr (eq_i res_at (Term.int_eval (1)) rfl), trivial⟩ ⟨hq.1, hq.2.1, (hq.2.2.sift fun y hy => Or.inr (N y hy)).mono (by decide) (by decide)⟩⟩
theorem main_1_1 : Claimed_1_1 := comes_1 fun _ _ _ _ _ _ h hF => ⟨h.1, hF⟩
theorem main_1_2 : Claimed_1_2 := comes_1 fun _ _ _ _ _ _ h hF => ⟨h.2.1, hF⟩
end Jvm.Pilot.@@N@@
namespace Jvm.Pilot.@@N@@
open Jvm Jvm.ClassFile Sem Op Lib Jvm.Free Jvm.Stand Jvm.Pilot.@@N@@.Jvm.D
/-! MADE BY PROGRAM (witnessworld.py) out of the Statement's table words and the real class files: 12 classes; the members and pool entries that the words name. The judged class is class 1, her method 1. -/
namespace start1
open Jvm.ClassFile
def u (s : String) : CpInfo := .utf8 (stringToUtf16 s)
/-- a pool by its gaps: so many unusable entries, then the entry; so many at the end -/
def gap : Nat → List CpInfo → List CpInfo
  | 0, r => r
  | n + 1, r => .unusable :: gap n r
def poolList (es : List (Nat × CpInfo)) (last : Nat) : List CpInfo := es.foldr (fun e r => gap e.1 (e.2 :: r)) (gap last [])
def pool (es : List (Nat × CpInfo)) (last : Nat) : Array CpInfo := ⟨poolList es last⟩
def fileOf (pool : Array CpInfo) (this : Nat) (attrs : Array Attribute := #[]) (ms : Array MethodInfo := #[]) (fl : Nat := 33) (sup : Nat := 0) (ifs : Array Nat := #[]) (fds : Array FieldInfo := #[]) : ClassFile where
  minorVersion := 0
  majorVersion := 65
  constantPool := pool
  accessFlags := fl
  thisClass := this
  superClass := sup
  interfaces := ifs
  fields := fds
  methods := ms
  attributes := attrs
def plain (name : String) (sup : Option ClassId) : Class where
  name := name
  kind := .ordinary
  loader := none
  accessFlags := 33
  super := sup
  interfaces := #[]
  cf := none
  fields := #[]
  methods := #[]
  instanceTypes := #[]
  staticTypes := #[]
  resolved := #[]
  callSites := []
  init := .initialized
  statics := none
  mirror := none

def pool0 : Array CpInfo := pool [(5, u "<init>"), (0, u "()V"), (1, .class_ 10), (1, u "java/lang/Object")] 113

def k0m0 : Method := { name := "<init>", desc := "()V", sig := { parameters := [], returnType := none }, accessFlags := 1, code := none }
/-- java/lang/Object -/
def k0 : Class := { plain "java/lang/Object" none with
  accessFlags := 33
  interfaces := #[]
  cf := some (fileOf pool0 8 #[] #[{ accessFlags := 1, nameIndex := 5, descriptorIndex := 6, attributes := #[] }] 33 0 #[] #[])
  fields := #[]
  methods := #[k0m0]
  instanceTypes := #[]
  staticTypes := #[]
  resolved := Array.replicate 124 none
  statics := none }

def pool1 : Array CpInfo := pool [(2, .class_ 4), (1, u "java/lang/Object"), (0, u "<init>"), (0, u "()V"), (0, .integer 2147483647), (0, .fieldref 9 10), (0, .class_ 11), (0, .nameAndType 12 13), (0, u "com/example/gluebox/gluebox/PageSequenceMaster$BlankOrNotBlank"), (0, u "BLANK"), (0, u "Lcom/example/gluebox/gluebox/PageSequenceMaster$BlankOrNotBlank;"), (0, .fieldref 9 15), (0, .nameAndType 16 13), (0, u "NOT_BLANK"), (0, .fieldref 9 18), (0, .nameAndType 19 13), (0, u "ANY"), (0, .methodref 9 21), (0, .nameAndType 22 23), (0, u "holds"), (0, u "(Z)Z"), (0, .class_ 25), (0, u "com/example/gluebox/gluebox/BlankOrNotBlankHoldsPinLaw"), (2, u "law"), (0, u "(II)Z")] 7

def k1m0 : Method := { name := "<init>", desc := "()V", sig := { parameters := [], returnType := none }, accessFlags := 2, code := none }
def k1c1 : Code := { maxStack := 2, maxLocals := 6, code := code, exceptionTable := #[], attributes := #[] }
def k1m1 : Method := { name := "law", desc := "(II)Z", sig := { parameters := [.int, .int], returnType := some .boolean }, accessFlags := 9, code := some k1c1 }
/-- com/example/gluebox/gluebox/BlankOrNotBlankHoldsPinLaw -/
def k1 : Class := { plain "com/example/gluebox/gluebox/BlankOrNotBlankHoldsPinLaw" (some 0) with
  accessFlags := 49
  interfaces := #[]
  cf := some (fileOf pool1 24 #[] #[{ accessFlags := 2, nameIndex := 5, descriptorIndex := 6, attributes := #[] }, { accessFlags := 9, nameIndex := 28, descriptorIndex := 29, attributes := #[] }] 49 2 #[] #[])
  fields := #[]
  methods := #[k1m0, k1m1]
  instanceTypes := #[]
  staticTypes := #[]
  resolved := Array.replicate 37 none
  statics := none }

def pool2 : Array CpInfo := pool [(1, .class_ 2), (0, u "java/lang/constant/Constable"), (0, .class_ 4), (0, u "java/lang/Object")] 6

/-- java/lang/constant/Constable -/
def k2 : Class := { plain "java/lang/constant/Constable" (some 0) with
  accessFlags := 1537
  interfaces := #[]
  cf := some (fileOf pool2 1 #[] #[] 1537 3 #[] #[])
  fields := #[]
  methods := #[]
  instanceTypes := #[]
  staticTypes := #[]
  resolved := Array.replicate 11 none
  statics := none }

def pool3 : Array CpInfo := pool [(1, .class_ 2), (0, u "java/lang/Comparable"), (0, .class_ 4), (0, u "java/lang/Object")] 7

/-- java/lang/Comparable -/
def k3 : Class := { plain "java/lang/Comparable" (some 0) with
  accessFlags := 1537
  interfaces := #[]
  cf := some (fileOf pool3 1 #[] #[] 1537 3 #[] #[])
  fields := #[]
  methods := #[]
  instanceTypes := #[]
  staticTypes := #[]
  resolved := Array.replicate 12 none
  statics := none }

def pool4 : Array CpInfo := pool [(1, .class_ 2), (0, u "java/io/Serializable"), (0, .class_ 4), (0, u "java/lang/Object")] 2

/-- java/io/Serializable -/
def k4 : Class := { plain "java/io/Serializable" (some 0) with
  accessFlags := 1537
  interfaces := #[]
  cf := some (fileOf pool4 1 #[] #[] 1537 3 #[] #[])
  fields := #[]
  methods := #[]
  instanceTypes := #[]
  staticTypes := #[]
  resolved := Array.replicate 7 none
  statics := none }

def pool5 : Array CpInfo := pool [(2, .class_ 4), (1, u "java/lang/Enum"), (0, u "name"), (0, u "Ljava/lang/String;"), (2, u "ordinal"), (0, u "I"), (1, .class_ 14), (1, u "java/lang/Object"), (4, u "hash"), (86, .class_ 108), (1, u "java/lang/Enum$EnumDesc"), (2, .class_ 112), (0, u "java/lang/constant/Constable"), (0, .class_ 114), (0, u "java/lang/Comparable"), (0, .class_ 116), (0, u "java/io/Serializable")] 87

/-- java/lang/Enum -/
def k5 : Class := { plain "java/lang/Enum" (some 0) with
  accessFlags := 1057
  interfaces := #[2, 3, 4]
  cf := some (fileOf pool5 2 #[.nestMembers #[106]] #[] 1057 12 #[111, 113, 115] #[{ accessFlags := 18, nameIndex := 5, descriptorIndex := 6, attributes := #[] }, { accessFlags := 18, nameIndex := 9, descriptorIndex := 10, attributes := #[] }, { accessFlags := 2, nameIndex := 19, descriptorIndex := 10, attributes := #[] }])
  fields := #[{ name := "name", type := (.object "java/lang/String"), accessFlags := 18, slot := 0, constantValue := 0 }, { name := "ordinal", type := .int, accessFlags := 18, slot := 1, constantValue := 0 }, { name := "hash", type := .int, accessFlags := 2, slot := 2, constantValue := 0 }]
  methods := #[]
  instanceTypes := #[(.object "java/lang/String"), .int, .int]
  staticTypes := #[]
  resolved := Array.replicate 204 none
  statics := none }

def pool6 : Array CpInfo := pool [(1, .class_ 2), (0, u "com/example/gluebox/gluebox/PageSequenceMaster$BlankOrNotBlank"), (0, .fieldref 1 4), (0, .nameAndType 5 6), (0, u "BLANK"), (0, u "Lcom/example/gluebox/gluebox/PageSequenceMaster$BlankOrNotBlank;"), (2, u "NOT_BLANK"), (0, .fieldref 1 11), (0, .nameAndType 12 6), (0, u "ANY"), (2, u "$VALUES"), (0, u "[Lcom/example/gluebox/gluebox/PageSequenceMaster$BlankOrNotBlank;"), (6, .class_ 25), (1, u "java/lang/Enum"), (21, u "holds"), (0, u "(Z)Z"), (6, .class_ 56), (0, u "com/example/gluebox/gluebox/PageSequenceMaster")] 2

def k6c0 : Code := { maxStack := 3, maxLocals := 2, code := prog_28_method_4_code, exceptionTable := #[], attributes := #[] }
def k6m0 : Method := { name := "holds", desc := "(Z)Z", sig := { parameters := [.boolean], returnType := some .boolean }, accessFlags := 0, code := some k6c0 }
/-- com/example/gluebox/gluebox/PageSequenceMaster$BlankOrNotBlank -/
def k6 : Class := { plain "com/example/gluebox/gluebox/PageSequenceMaster$BlankOrNotBlank" (some 5) with
  accessFlags := 16432
  interfaces := #[]
  cf := some (fileOf pool6 1 #[.nestHost 55] #[{ accessFlags := 0, nameIndex := 47, descriptorIndex := 48, attributes := #[] }] 16432 23 #[] #[{ accessFlags := 16409, nameIndex := 5, descriptorIndex := 6, attributes := #[] }, { accessFlags := 16409, nameIndex := 9, descriptorIndex := 6, attributes := #[] }, { accessFlags := 16409, nameIndex := 12, descriptorIndex := 6, attributes := #[] }, { accessFlags := 4122, nameIndex := 15, descriptorIndex := 16, attributes := #[] }])
  fields := #[{ name := "BLANK", type := (.object "com/example/gluebox/gluebox/PageSequenceMaster$BlankOrNotBlank"), accessFlags := 16409, slot := 0, constantValue := 0 }, { name := "NOT_BLANK", type := (.object "com/example/gluebox/gluebox/PageSequenceMaster$BlankOrNotBlank"), accessFlags := 16409, slot := 1, constantValue := 0 }, { name := "ANY", type := (.object "com/example/gluebox/gluebox/PageSequenceMaster$BlankOrNotBlank"), accessFlags := 16409, slot := 2, constantValue := 0 }, { name := "$VALUES", type := (.array (.object "com/example/gluebox/gluebox/PageSequenceMaster$BlankOrNotBlank")), accessFlags := 4122, slot := 3, constantValue := 0 }]
  methods := #[k6m0]
  instanceTypes := #[(.object "java/lang/String"), .int, .int]
  staticTypes := #[(.object "com/example/gluebox/gluebox/PageSequenceMaster$BlankOrNotBlank"), (.object "com/example/gluebox/gluebox/PageSequenceMaster$BlankOrNotBlank"), (.object "com/example/gluebox/gluebox/PageSequenceMaster$BlankOrNotBlank"), (.array (.object "com/example/gluebox/gluebox/PageSequenceMaster$BlankOrNotBlank"))]
  resolved := Array.replicate 59 none
  statics := some 0 }

def pool7 : Array CpInfo := pool [(1, u "java/lang/Cloneable"), (0, .class_ 1), (0, u "java/lang/Object"), (0, .class_ 3)] 3

/-- java/lang/Cloneable -/
def k7 : Class := { plain "java/lang/Cloneable" (some 0) with
  accessFlags := 1537
  interfaces := #[]
  cf := some (fileOf pool7 2 #[] #[] 1537 4 #[] #[])
  fields := #[]
  methods := #[]
  instanceTypes := #[]
  staticTypes := #[]
  resolved := Array.replicate 8 none
  statics := none }

/-- the primitive byte -/
def k8 : Class := { plain "byte" none with kind := .primitive 'B', accessFlags := 0x411 }
/-- [B -/
def k9 : Class := { plain "[B" (some 0) with kind := .array 8 .byte, interfaces := #[7, 4], accessFlags := 1041 }

/-- the primitive int -/
def k10 : Class := { plain "int" none with kind := .primitive 'I', accessFlags := 0x411 }
/-- [I -/
def k11 : Class := { plain "[I" (some 0) with kind := .array 10 .int, interfaces := #[7, 4], accessFlags := 1041 }

def heap : Heap := #[{ cls := 6, slots := #[.ref 1, .ref 3, .ref 2, .null], vm := .statics 6 },
  { cls := 6, slots := #[.null, .int 0, .int 0], vm := .none },
  { cls := 6, slots := #[.null, .int 2, .int 0], vm := .none },
  { cls := 6, slots := #[.null, .int 1, .int 0], vm := .none }]
def classes : Array Class := #[k0, k1, k2, k3, k4, k5, k6, k7, k8, k9, k10, k11]
def interned : List (Array UInt16 × Addr) := []
def slotsUsed : Nat := 13
def theMethod : MethodId := ⟨1, 1⟩
def args0 : Array Value := #[.int 5, .int 1]
def aboutOver (below : List Frame) : State where
  vm := { classes := classes, interned := interned.toArray }
  heap := heap
  slotsUsed := slotsUsed
  threads := #[{ frames := .invoking theMethod args0 :: below }]
def below0 : List Frame := [.native { method := ⟨0, 0⟩, args := #[] }]
def about1 : State := aboutOver below0
def p0 : Program := .bare "" "" ""
def e0 : Env := launch0.env 0 0 0
theorem w_frames : about1.frames = Frame.invoking theMethod args0 :: below0 := rfl
set_option maxRecDepth 65536 in
theorem w_args : argsFit about1.vm theMethod args0 = true := by decide +kernel
set_option maxRecDepth 65536 in
theorem w_heap : heapFits about1 = true := by decide +kernel
set_option maxRecDepth 65536 in
theorem w_runnable : about1.curStatus? = some .runnable := by decide +kernel
set_option maxRecDepth 65536 in
theorem w_alone : about1.alone = true := by decide +kernel
set_option maxRecDepth 65536 in
theorem w_named : about1.methodNamed? x = some theMethod := by decide +kernel
set_option maxRecDepth 65536 in
theorem w_hears : about1.hears theMethod below0 = true := by decide +kernel
set_option maxRecDepth 65536 in
theorem w_ripe : about1.ripe theMethod args0 below0 = true := by decide +kernel
theorem w_running : about1.status = .running := rfl
set_option maxRecDepth 65536 in
theorem w_room : about1.hasRoom e0.platform room_1 = true :=
  launch0.hasRoom_least _ room_1 (by decide +kernel) (by decide +kernel) (by decide +kernel) (by decide +kernel) (by decide +kernel) (by decide +kernel)
theorem allAtoms_all (ts : List Jvm.Cond) (a : Array Jvm.Value) (st : Jvm.State) : (allAtoms ts).before a st = ts.all (fun c => c.before a st) := by
  induction ts with
  | nil => rfl
  | cons c t ih =>
    show (Jvm.Cond.and c (allAtoms t)).before a st = _
    rw [Jvm.Cond.before_and, ih, List.all_cons]
def words1 : List Jvm.Cond := Jvm.Cond.code x code maxLocals ret :: tables_1
/-- a 'code' word, met by the world's own term for the bytes: nothing is compared byte by byte -/
theorem code_word {y : MethodName} {bytes : ByteArray} {mx : Nat} {rt : Option FieldType} {a : Array Value} {s : State} {m : MethodId} {meth : Method} {c : Code} (h1 : s.methodNamed? y = some m) (h2 : s.vm.method? m = some meth) (h3 : meth.code = some c) (h4 : c.code = bytes)
    (h5 : (c.maxLocals == mx && c.exceptionTable.isEmpty && decide (c.maxStack ≤ mostOperands) && decide (meth.sig.returnType = rt) && !meth.locks && decide (parseMethodDescriptor y.desc = some meth.sig)) = true) : (Jvm.Cond.code y bytes mx rt).before a s = true := by
  simp only [Bool.and_eq_true, beq_iff_eq, Bool.not_eq_true', decide_eq_true_eq] at h5
  obtain ⟨⟨⟨⟨⟨g1, g2⟩, g3⟩, g4⟩, g5⟩, g6⟩ := h5
  simp [Cond.before, Cond.holds, Cond.value, h1, h2, h3, h4, g1, g2, g3, g4, g5, g6]
def isCode : Jvm.Cond → Bool
  | .code _ _ _ _ => true
  | _ => false
theorem all_split {L : List Jvm.Cond} {P : Jvm.Cond → Bool} (h1 : L.all (fun c => isCode c || P c) = true) (h2 : ∀ c ∈ L.filter isCode, P c = true) : L.all P = true := by
  refine List.all_eq_true.mpr fun c hc => ?_
  have h := List.all_eq_true.mp h1 c hc
  rcases Bool.eq_false_or_eq_true (isCode c) with hi | hi
  · exact h2 c (List.mem_filter.mpr ⟨hc, hi⟩)
  · simpa [hi] using h
set_option maxRecDepth 65536 in
theorem w_c0 : (Jvm.Cond.code x code maxLocals ret).before args0 about1 = true := code_word (m := ⟨1, 1⟩) (meth := k1m1) (c := k1c1) (by decide +kernel) rfl rfl rfl (by decide +kernel)
set_option maxRecDepth 65536 in
theorem w_c1 : (Jvm.Cond.code ({ cls := "com/example/gluebox/gluebox/PageSequenceMaster$BlankOrNotBlank", name := "holds", desc := "(Z)Z" } : Jvm.MethodName) prog_28_method_4_code (2 : Nat) (Option.some Jvm.ClassFile.FieldType.boolean)).before args0 about1 = true := code_word (m := ⟨6, 0⟩) (meth := k6m0) (c := k6c0) (by decide +kernel) rfl rfl rfl (by decide +kernel)
def codes1 : List Jvm.Cond := [Jvm.Cond.code x code maxLocals ret, Jvm.Cond.code ({ cls := "com/example/gluebox/gluebox/PageSequenceMaster$BlankOrNotBlank", name := "holds", desc := "(Z)Z" } : Jvm.MethodName) prog_28_method_4_code (2 : Nat) (Option.some Jvm.ClassFile.FieldType.boolean)]
set_option maxRecDepth 65536 in
theorem codes_eq : words1.filter isCode = codes1 := rfl
theorem w_codes : ∀ c ∈ words1.filter isCode, c.before args0 about1 = true := by
  rw [codes_eq]
  intro c hc
  simp only [codes1, List.mem_cons, List.not_mem_nil, or_false] at hc
  rcases hc with rfl | rfl
  · exact w_c0
  · exact w_c1
set_option maxRecDepth 65536 in
theorem w_t1 : words1.all (fun c => isCode c || c.before args0 about1) = true := by decide +kernel
theorem w_tables : (allAtoms (Jvm.Cond.code x code maxLocals ret :: tables_1)).before args0 about1 = true := by
  rw [allAtoms_all]
  show words1.all (fun c => c.before args0 about1) = true
  refine all_split ?_ w_codes
  rw [w_t1]
set_option maxRecDepth 65536 in
theorem w_case : (Jvm.Cond.and given_1 narrow_1).before args0 about1 = true := by decide +kernel
theorem w_applies : (headSpec (Jvm.Cond.code x code maxLocals ret :: tables_1) room_1).applies x e0.platform about1 = true :=
  (Spec.applies_iff w_frames).mpr ⟨w_running, w_runnable, w_alone, w_named, w_hears, w_ripe, w_room, w_tables⟩
theorem atStart : AtStart classFile x code maxLocals ret World_1 tables_1 room_1 Calls_1 rest_1 Pre_1 launch0 p0 e0 about1 theMethod args0 below0 :=
  ⟨lists_1, trivial, launch0.admits_env _ _ _, launch0.least_env, fairChoices_fair.cas, fairChoices_fair.clock, w_frames, w_args, w_heap, w_applies, trivial, trivial, w_case⟩
end start1
theorem witness_1 : WitnessClaimed_1 := ⟨start1.p0, start1.e0, start1.about1, start1.theMethod, start1.args0, start1.below0, start1.atStart⟩
end Jvm.Pilot.@@N@@
