import JvmDerived
import JvmDerived.Pilot.@@N@@Statement
import JvmDerived.Pilot.@@N@@Code
set_option linter.unusedVariables false
set_option linter.unusedSimpArgs false
namespace Jvm.Pilot.@@N@@
open Jvm Jvm.ClassFile Sem Op Lib Jvm.Free Jvm.Stand Jvm.LawKit Jvm.RoadKit Bundle Jvm.Pilot.@@N@@.Jvm.D
/-! what is left of a run: it comes to its end, and there Q holds -/
def oG (p : Program) (e : Env) (below : List Frame) (s : State) (Q : Option Value → Heap → List Loc → Prop) (rc rs : Nat) (S : State) : Prop :=
  ∃ s₂ o, Steps p.tables e below S s₂ ∧ s₂.status = .running ∧ Ended s₂ below o ∧ ∃ v L, o = .returned v ∧ Q v s₂.heap L ∧ FrameEnd s o s₂ L rc rs
theorem oS {p : Program} {e : Env} {below : List Frame} {s : State} {Q : Option Value → Heap → List Loc → Prop} {rc rs : Nat} {S S' : State} (k : ∀ t, Steps p.tables e below S' t → Steps p.tables e below S t) (g : oG p e below s Q rc rs S') : oG p e below s Q rc rs S := by
  obtain ⟨s₂, o, h1, h2⟩ := g
  exact ⟨s₂, o, k _ h1, h2⟩
theorem own_ret {p : Program} {l : Launch} {e : Env} {R : Room} {s : State} {m : MethodId} {args : Array Value} {below : List Frame} {meth : Method} {c : Code} {T : State} {locs : List Loc} {cells slots : Nat} {Q : Option Value → Heap → List Loc → Prop} {rc rs : Nat} {S : State} {v : Option Value} (X : Stand p l e R s m args below meth c T locs cells slots) (hv : meth.sig.returnType = none → v = none) (hlocks : meth.locks = false)
    (st : ∀ fs, (∀ (f : JFrame) (acts : List Action), f.method = m → f.locked = none → f.entered = [] → (doReturn e (T.setTop f) acts v).1 = T.setFrames fs) → Steps p.tables e below S (T.setFrames fs)) (q : Q v T.heap locs) (hc : cells ≤ rc) (hs : slots ≤ rs) : oG p e below s Q rc rs S := by
  obtain ⟨fs, hr, hrun, hended, hW, hsame⟩ := X.leave hv hlocks
  exact ⟨_, _, st fs hr, hrun, hended, _, _, rfl, q, ⟨_, rfl⟩, hW, hsame.mono hc hs⟩
theorem oIc {tb : Tables} [Ours tb] {e : Env} {below : List Frame} {T target : State} {m : MethodId} {c : Code} {g : JFrame} {i : Int} {z : Int32} (hz : Int32.ofInt i = z) (h : At T m c below) (hx : tb.exec = Jvm.exec) (hg : g.method = m) (hd : decode c.code g.pc = .ok (.iconst i, 1)) (hr : Steps tb e below (T.setTop { g with pc := g.pc + 1, stack := .int z :: g.stack }) target) : Steps tb e below (T.setTop g) target := XS.iconst h hx hg hd (by rw [hz]; exact hr)
theorem oBp {tb : Tables} [Ours tb] {e : Env} {below : List Frame} {T target : State} {m : MethodId} {c : Code} {g : JFrame} {i : Int} {z : Int32} (hz : (Int8.ofInt i).toInt32 = z) (h : At T m c below) (hx : tb.exec = Jvm.exec) (hg : g.method = m) (hd : decode c.code g.pc = .ok (.bipush i, 2)) (hr : Steps tb e below (T.setTop { g with pc := g.pc + 2, stack := .int z :: g.stack }) target) : Steps tb e below (T.setTop g) target := XS.bipush h hx hg hd (by rw [hz]; exact hr)
theorem oSp {tb : Tables} [Ours tb] {e : Env} {below : List Frame} {T target : State} {m : MethodId} {c : Code} {g : JFrame} {i : Int} {z : Int32} (hz : (Int16.ofInt i).toInt32 = z) (h : At T m c below) (hx : tb.exec = Jvm.exec) (hg : g.method = m) (hd : decode c.code g.pc = .ok (.sipush i, 3)) (hr : Steps tb e below (T.setTop { g with pc := g.pc + 3, stack := .int z :: g.stack }) target) : Steps tb e below (T.setTop g) target := XS.sipush h hx hg hd (by rw [hz]; exact hr)
theorem oW {a0 : Array Value} {Z : State} (hw : ∀ d ∈ tables_1, d.before a0 Z = true) (i : Nat) {d : Jvm.Cond} (h : tables_1[i]? = some d) : d.before a0 Z = true := hw _ (List.mem_of_getElem? h)
theorem own_eqv {args : Array Value} {s : State} {a b : Term} {v : Value} (h : (Jvm.Cond.eq a b).value args s none s [] = some true) (hb : b.eval args s none [] s = some v) : a.eval args s none [] s = some v := by
  obtain ⟨x, y, ha, hb', -, -⟩ := cmp_v (Or.inl h)
  cases hb.symm.trans hb'
  rw [ha]
  cases x <;> cases v <;> simp [Cond.value, ha, hb] at h ⊢ <;> exact h
theorem own_len {args : Array Value} {s : State} {t : Term} {a : Addr} {cl : Cell} {ty : FieldType} {z : Int32} (h : (Term.length t).eval args s none [] s = some (.int z)) (ht : t.eval args s none [] s = some (.ref a)) (A : Arr s s.heap a cl ty) : cl.slots.size < 2 ^ 31 ∧ cl.slots.size.toInt32 = z := by
  have hA := A.fin (Vm.Alike.refl _)
  obtain ⟨a', cell, h1, h2, h3⟩ := Term.length_spec h
  cases ht.symm.trans h1
  cases hA.symm.trans h2
  refine ⟨?_, (Value.int.inj h3).symm⟩
  simp only [Term.eval, ht, hA, Option.bind_eq_bind, Option.bind_some] at h
  split at h
  · assumption
  · cases h
theorem own_sz {n : Nat} {z : Int32} (h1 : n < 2 ^ 31) (h2 : n.toInt32 = z) : n = z.toNatClampNeg := by
  rw [← h2]; simp only [Int32.toNatClampNeg, len_toInt h1]; rfl
theorem own_box {args : Array Value} {s : State} {t : Term} {a : Addr} {c : Cell} {K : String} {G : Jvm.Cond} (et : ∀ idx, t.eval args s none idx s = some (.ref a)) (A : Arr s s.heap a c (.object K)) (h : (Jvm.Cond.all t (.and (.exactly (.elem t (.index 0)) K) G)).value args s none s [] = some true) :
    ∀ j : Int32, ¬ (j < 0 ∨ c.slots.size ≤ j.toNatClampNeg) → ∃ b : Addr, c.slots[j.toNatClampNeg]? = some (.ref b) ∧ Exa s s.heap b K := fun j hj => by
  have nn : ¬ j < 0 := fun x => hj (Or.inl x)
  obtain ⟨u1, -⟩ := and_e (Cond.all_elim (et []) (A.fin (Vm.Alike.refl _)) h j.toNatClampNeg (Nat.lt_of_not_le fun x => hj (Or.inr x)))
  obtain ⟨b, eb⟩ := exa_v u1
  exact ⟨b, (elem_f (et _) (idx_at nn) (A.fin (Vm.Alike.refl _)) nn).symm.trans eb, exa_at eb u1⟩
theorem own_neI {Z : State} {h : Heap} {a b : Addr} {C n d : String} {x y : Int32} (F : Fld Z h a C n d (.int x)) (G : Fld Z h b C n d (.int y)) (hn : x ≠ y) : ¬ a = b := fun e => by
  subst e
  obtain ⟨c1, cf1, k1, i1, f1, a1, a2, -, -, -, -, a7⟩ := F
  obtain ⟨c2, cf2, k2, i2, f2, b1, b2, -, -, -, -, b7⟩ := G
  cases a1.symm.trans b1
  cases a2.symm.trans b2
  cases a7.symm.trans b7
  exact hn rfl
theorem own_neJ {Z : State} {h : Heap} {a b : Addr} {C n d : String} {x y : Int64} (F : Fld Z h a C n d (.long x)) (G : Fld Z h b C n d (.long y)) (hn : x ≠ y) : ¬ a = b := fun e => by
  subst e
  obtain ⟨c1, cf1, k1, i1, f1, a1, a2, -, -, -, -, a7⟩ := F
  obtain ⟨c2, cf2, k2, i2, f2, b1, b2, -, -, -, -, b7⟩ := G
  cases a1.symm.trans b1
  cases a2.symm.trans b2
  cases a7.symm.trans b7
  exact hn rfl
theorem own_asym {a b : Int64} (h : a < b) : ¬ (b < a) := by
  rw [Int64.lt_iff_toInt_lt] at *; omega
def own_World (Z : State) (w : Nat → Addr) : Prop := Sta Z Z.heap "com/example/shiftweave/shiftweave/engine/Dominance" "INCOMPARABLE" "Lcom/example/shiftweave/shiftweave/engine/Dominance;" (.ref (w 0)) ∧ Exa Z Z.heap (w 0) "com/example/shiftweave/shiftweave/engine/Dominance" ∧ Sta Z Z.heap "com/example/shiftweave/shiftweave/engine/Dominance" "DOMINATES" "Lcom/example/shiftweave/shiftweave/engine/Dominance;" (.ref (w 1)) ∧ Exa Z Z.heap (w 1) "com/example/shiftweave/shiftweave/engine/Dominance" ∧ Sta Z Z.heap "com/example/shiftweave/shiftweave/engine/Dominance" "EQUAL" "Lcom/example/shiftweave/shiftweave/engine/Dominance;" (.ref (w 2)) ∧ Exa Z Z.heap (w 2) "com/example/shiftweave/shiftweave/engine/Dominance" ∧ Sta Z Z.heap "com/example/shiftweave/shiftweave/engine/Dominance" "DOMINATED" "Lcom/example/shiftweave/shiftweave/engine/Dominance;" (.ref (w 3)) ∧ Exa Z Z.heap (w 3) "com/example/shiftweave/shiftweave/engine/Dominance" ∧ Fld Z Z.heap (w 0) "java/lang/Enum" "ordinal" "I" (.int 3) ∧ Fld Z Z.heap (w 1) "java/lang/Enum" "ordinal" "I" (.int 0) ∧ Fld Z Z.heap (w 2) "java/lang/Enum" "ordinal" "I" (.int 2) ∧ Fld Z Z.heap (w 3) "java/lang/Enum" "ordinal" "I" (.int 1)
theorem own_world {args : Array Value} {s : State} (hw : ∀ d ∈ tables_1, d.before args s = true) (hfit : Fit s) (hn : narrow_1.value args s none s [] = some true) : ∃ w : Nat → Addr, own_World s w := by
  obtain ⟨h0, q1⟩ := and_e hn
  obtain ⟨h1, q3⟩ := and_e q1
  obtain ⟨h2, q5⟩ := and_e q3
  obtain ⟨h3, q7⟩ := and_e q5
  obtain ⟨h4, q9⟩ := and_e q7
  obtain ⟨h5, q11⟩ := and_e q9
  obtain ⟨h6, h7⟩ := and_e q11
  obtain ⟨c0, e0⟩ := exa_v h0
  obtain ⟨c1, e1⟩ := exa_v h1
  obtain ⟨c2, e2⟩ := exa_v h4
  obtain ⟨c3, e3⟩ := exa_v h6
  exact ⟨fun n => ([c0, c1, c2, c3] : List Nat).getD n 0, Sta.start e0 (Or.inr ⟨(oW hw 3 rfl), (oW hw 12 rfl)⟩), Exa.start e0 h0, Sta.start e1 (Or.inr ⟨(oW hw 3 rfl), (oW hw 19 rfl)⟩), Exa.start e1 h1, Sta.start e2 (Or.inr ⟨(oW hw 3 rfl), (oW hw 21 rfl)⟩), Exa.start e2 h4, Sta.start e3 (Or.inr ⟨(oW hw 3 rfl), (oW hw 23 rfl)⟩), Exa.start e3 h6, Fld.start ((fld_at e0).symm.trans (own_eqv h2 rfl)), Fld.start ((fld_at e1).symm.trans (own_eqv h3 rfl)), Fld.start ((fld_at e2).symm.trans (own_eqv h5 rfl)), Fld.start ((fld_at e3).symm.trans (own_eqv h7 rfl))⟩
theorem wS0 {Z : State} {w : Nat → Addr} (W : own_World Z w) : Sta Z Z.heap "com/example/shiftweave/shiftweave/engine/Dominance" "INCOMPARABLE" "Lcom/example/shiftweave/shiftweave/engine/Dominance;" (.ref (w 0)) := W.1
theorem wE0 {Z : State} {w : Nat → Addr} (W : own_World Z w) : Exa Z Z.heap (w 0) "com/example/shiftweave/shiftweave/engine/Dominance" := W.2.1
theorem wS1 {Z : State} {w : Nat → Addr} (W : own_World Z w) : Sta Z Z.heap "com/example/shiftweave/shiftweave/engine/Dominance" "DOMINATES" "Lcom/example/shiftweave/shiftweave/engine/Dominance;" (.ref (w 1)) := W.2.2.1
theorem wE1 {Z : State} {w : Nat → Addr} (W : own_World Z w) : Exa Z Z.heap (w 1) "com/example/shiftweave/shiftweave/engine/Dominance" := W.2.2.2.1
theorem wS2 {Z : State} {w : Nat → Addr} (W : own_World Z w) : Sta Z Z.heap "com/example/shiftweave/shiftweave/engine/Dominance" "EQUAL" "Lcom/example/shiftweave/shiftweave/engine/Dominance;" (.ref (w 2)) := W.2.2.2.2.1
theorem wE2 {Z : State} {w : Nat → Addr} (W : own_World Z w) : Exa Z Z.heap (w 2) "com/example/shiftweave/shiftweave/engine/Dominance" := W.2.2.2.2.2.1
theorem wS3 {Z : State} {w : Nat → Addr} (W : own_World Z w) : Sta Z Z.heap "com/example/shiftweave/shiftweave/engine/Dominance" "DOMINATED" "Lcom/example/shiftweave/shiftweave/engine/Dominance;" (.ref (w 3)) := W.2.2.2.2.2.2.1
theorem wE3 {Z : State} {w : Nat → Addr} (W : own_World Z w) : Exa Z Z.heap (w 3) "com/example/shiftweave/shiftweave/engine/Dominance" := W.2.2.2.2.2.2.2.1
theorem wF0_ordinal {Z : State} {w : Nat → Addr} (W : own_World Z w) : Fld Z Z.heap (w 0) "java/lang/Enum" "ordinal" "I" (.int 3) := W.2.2.2.2.2.2.2.2.1
theorem wF1_ordinal {Z : State} {w : Nat → Addr} (W : own_World Z w) : Fld Z Z.heap (w 1) "java/lang/Enum" "ordinal" "I" (.int 0) := W.2.2.2.2.2.2.2.2.2.1
theorem wF2_ordinal {Z : State} {w : Nat → Addr} (W : own_World Z w) : Fld Z Z.heap (w 2) "java/lang/Enum" "ordinal" "I" (.int 2) := W.2.2.2.2.2.2.2.2.2.2.1
theorem wF3_ordinal {Z : State} {w : Nat → Addr} (W : own_World Z w) : Fld Z Z.heap (w 3) "java/lang/Enum" "ordinal" "I" (.int 1) := W.2.2.2.2.2.2.2.2.2.2.2
theorem d3_0 : decode prog_24_method_8_code 0 = .ok (.getstatic 13, 3) := by decide +kernel
theorem d3_3 : decode prog_24_method_8_code 3 = .ok (.astore_n 2, 1) := by decide +kernel
theorem d3_4 : decode prog_24_method_8_code 4 = .ok (.iload_n 0, 1) := by decide +kernel
theorem d3_5 : decode prog_24_method_8_code 5 = .ok (.ifCond .eq 14, 3) := by decide +kernel
theorem d3_19 : decode prog_24_method_8_code 19 = .ok (.iload_n 1, 1) := by decide +kernel
theorem d3_20 : decode prog_24_method_8_code 20 = .ok (.ifCond .eq 14, 3) := by decide +kernel
theorem d3_34 : decode prog_24_method_8_code 34 = .ok (.iload_n 0, 1) := by decide +kernel
theorem d3_35 : decode prog_24_method_8_code 35 = .ok (.ifCond .ne 11, 3) := by decide +kernel
theorem d3_38 : decode prog_24_method_8_code 38 = .ok (.iload_n 1, 1) := by decide +kernel
theorem d3_39 : decode prog_24_method_8_code 39 = .ok (.ifCond .ne 7, 3) := by decide +kernel
theorem d3_42 : decode prog_24_method_8_code 42 = .ok (.getstatic 10, 3) := by decide +kernel
theorem d3_45 : decode prog_24_method_8_code 45 = .ok (.astore_n 2, 1) := by decide +kernel
theorem d3_46 : decode prog_24_method_8_code 46 = .ok (.aload_n 2, 1) := by decide +kernel
theorem d3_47 : decode prog_24_method_8_code 47 = .ok (.areturn, 1) := by decide +kernel
abbrev mY0 : MethodName := (⟨"com/example/shiftweave/shiftweave/engine/Dominance", "of", "(ZZ)Lcom/example/shiftweave/shiftweave/engine/Dominance;"⟩ : MethodName)
theorem ef_3_ii_0_0 (m : MethodId)  : entryFrame m #[(.int 0), (.int 0)] 3 = mkF m 0 #[.val (.int 0), .val (.int 0), .unset] [] := by first | (simp [entryFrame, mkF, argsToLocals, Value.category]; done) | rfl
theorem pn_0 : plainName "com/example/shiftweave/shiftweave/engine/Dominance" = true := by first | (simp [plainName, overriddenIn]; done) | decide +kernel
def Q_zz_00 (Z : State)  (w : Nat → Addr) (h0 : Heap) (n0 : Nat) (v : Option Value) (h : Heap) (L : List Loc) : Prop := v = some (.ref (w 2)) ∧ Fr n0 L ∧ h = h0
set_option maxRecDepth 65536 in
set_option maxHeartbeats 40000000 in
theorem rm_zz_00 (l : Launch) (Z : State) (a0 : Array Value) (hw : ∀ d ∈ tables_1, d.before a0 Z = true) (ws : List Jvm.Cond)  (w : Nat → Addr) (h0 : Heap) (n0 : Nat) (O0 : Old Z n0 h0) (W : own_World Z w) :
    MetFree l mY0 (head1 (Jvm.Cond.code mY0 prog_24_method_8_code 3 (some (.object "com/example/shiftweave/shiftweave/engine/Dominance")) :: ws) ({ frames := 0, cells := 0, slots := 0, locals := 0 } : Room)) (fun a U => a = #[(.int 0), (.int 0)] ∧ Z.Warmed39 U.vm ∧ U.heap = h0) (fun _ _ _ _ _ => True) (fun _ U o U' => ∃ v L, o = .returned v ∧ Q_zz_00 Z  w h0 n0 v U'.heap L ∧ FrameEnd U o U' L ({ frames := 0, cells := 0, slots := 0, locals := 0 } : Room).cells ({ frames := 0, cells := 0, slots := 0, locals := 0 } : Room).slots) := by
  refine MetFree.of_bodySF (plainFor_of_name pn_0) hisR ?_
  intro p e s m args below meth c s₁ Bd hml0 hP hK
  obtain ⟨rfl, hZ, hh⟩ := hP
  have hx := Bd.exec
  have hby := Bd.bytes
  have hml : c.maxLocals = 3 := hml0
  have hown : s.vm.findClass "com/example/shiftweave/shiftweave/engine/Dominance" = some m.cls := findClass_of_methodNamed Bd.named
  have hnm := (name_of_methodNamed Bd.named Bd.method).1
  have X0 : Stand p l e ({ frames := 0, cells := 0, slots := 0, locals := 0 } : Room) s m #[(.int 0), (.int 0)] below meth c s₁ [] 0 0 := Stand.of_body Bd
  have e0 : s₁.heap = h0 := by rw [← hh, Bd.state]; rfl
  have N0 := Fr.nil n0
  show oG p e below s (Q_zz_00 Z  w h0 n0) ({ frames := 0, cells := 0, slots := 0, locals := 0 } : Room).cells ({ frames := 0, cells := 0, slots := 0, locals := 0 } : Room).slots _
  refine oS (fun t k => castTop (ef_3_ii_0_0 m ) k) ?_
  show oG _ _ _ _ _ _ _ (s₁.setTop (mkF m 0 #[.val (.int 0), .val (.int 0), .unset] []))
  obtain ⟨T1, X1, e1, st1⟩ := getS2 X0 hx hZ hown (host := "") (Or.inl (oW hw 11 rfl)) Via.refl e0 ((wS0 W).ext O0.2) (g := (mkF m 0 #[.val (.int 0), .val (.int 0), .unset] [])) rfl (hb hby d3_0)
  refine oS (fun t k => st1 t k) ?_
  try clear st1
  refine oS (fun t k => XS.astoreN X1.here hx rfl (hb hby d3_3) rfl rfl (l' := #[.val (.int 0), .val (.int 0), .val (.ref (w 0))]) rfl k) ?_
  refine oS (fun t k => XS.iloadN X1.here hx rfl (hb hby d3_4) rfl k) ?_
  refine oS (fun t k => XS.ifYes X1.here hx rfl (pc0 := 5) (pc' := 19) rfl (hb hby d3_5) rfl ((if0 _ _).trans (teq (by decide)).1) (by decide) (by decide) k) ?_
  refine oS (fun t k => XS.iloadN X1.here hx rfl (hb hby d3_19) rfl k) ?_
  refine oS (fun t k => XS.ifYes X1.here hx rfl (pc0 := 20) (pc' := 34) rfl (hb hby d3_20) rfl ((if0 _ _).trans (teq (by decide)).1) (by decide) (by decide) k) ?_
  refine oS (fun t k => XS.iloadN X1.here hx rfl (hb hby d3_34) rfl k) ?_
  refine oS (fun t k => XS.ifNo X1.here hx rfl (hb hby d3_35) rfl ((if0 _ _).trans (teq (by decide)).2) k) ?_
  refine oS (fun t k => XS.iloadN X1.here hx rfl (hb hby d3_38) rfl k) ?_
  refine oS (fun t k => XS.ifNo X1.here hx rfl (hb hby d3_39) rfl ((if0 _ _).trans (teq (by decide)).2) k) ?_
  show oG _ _ _ _ _ _ _ (T1.setTop (mkF m 42 #[.val (.int 0), .val (.int 0), .val (.ref (w 0))] []))
  obtain ⟨T2, X2, e2, st2⟩ := getS2 X1 hx hZ hown (host := "") (Or.inl (oW hw 20 rfl)) Via.refl e1 ((wS2 W).ext O0.2) (g := (mkF m 42 #[.val (.int 0), .val (.int 0), .val (.ref (w 0))] [])) rfl (hb hby d3_42)
  refine oS (fun t k => st2 t k) ?_
  try clear st2 X1 e1
  try clear T1
  refine oS (fun t k => XS.astoreN X2.here hx rfl (hb hby d3_45) rfl rfl (l' := #[.val (.int 0), .val (.int 0), .val (.ref (w 2))]) rfl k) ?_
  refine oS (fun t k => XS.aloadN X2.here hx rfl (hb hby d3_46) rfl rfl k) ?_
  exact own_ret (v := some (.ref (w 2))) X2 (fun h => by rw [Bd.returns] at h; cases h) Bd.notSynchronized (fun fs hr => retOut X2 hx (t := (.object "com/example/shiftweave/shiftweave/engine/Dominance")) Bd.returns rfl (Or.inr (Or.inr (Or.inr (Or.inr ⟨rfl, rfl, rfl⟩)))) (hb hby d3_47) hr) (by rw [e2]; exact ⟨rfl, N0, rfl⟩) (by decide) (by decide)
theorem d3_23 : decode prog_24_method_8_code 23 = .ok (.iload_n 0, 1) := by decide +kernel
theorem d3_24 : decode prog_24_method_8_code 24 = .ok (.ifCond .ne 10, 3) := by decide +kernel
theorem d3_27 : decode prog_24_method_8_code 27 = .ok (.getstatic 7, 3) := by decide +kernel
theorem d3_30 : decode prog_24_method_8_code 30 = .ok (.astore_n 2, 1) := by decide +kernel
theorem d3_31 : decode prog_24_method_8_code 31 = .ok (.goto 15, 3) := by decide +kernel
theorem ef_3_ii_0_1 (m : MethodId)  : entryFrame m #[(.int 0), (.int 1)] 3 = mkF m 0 #[.val (.int 0), .val (.int 1), .unset] [] := by first | (simp [entryFrame, mkF, argsToLocals, Value.category]; done) | rfl
def Q_zz_01 (Z : State)  (w : Nat → Addr) (h0 : Heap) (n0 : Nat) (v : Option Value) (h : Heap) (L : List Loc) : Prop := v = some (.ref (w 3)) ∧ Fr n0 L ∧ h = h0
set_option maxRecDepth 65536 in
set_option maxHeartbeats 40000000 in
theorem rm_zz_01 (l : Launch) (Z : State) (a0 : Array Value) (hw : ∀ d ∈ tables_1, d.before a0 Z = true) (ws : List Jvm.Cond)  (w : Nat → Addr) (h0 : Heap) (n0 : Nat) (O0 : Old Z n0 h0) (W : own_World Z w) :
    MetFree l mY0 (head1 (Jvm.Cond.code mY0 prog_24_method_8_code 3 (some (.object "com/example/shiftweave/shiftweave/engine/Dominance")) :: ws) ({ frames := 0, cells := 0, slots := 0, locals := 0 } : Room)) (fun a U => a = #[(.int 0), (.int 1)] ∧ Z.Warmed39 U.vm ∧ U.heap = h0) (fun _ _ _ _ _ => True) (fun _ U o U' => ∃ v L, o = .returned v ∧ Q_zz_01 Z  w h0 n0 v U'.heap L ∧ FrameEnd U o U' L ({ frames := 0, cells := 0, slots := 0, locals := 0 } : Room).cells ({ frames := 0, cells := 0, slots := 0, locals := 0 } : Room).slots) := by
  refine MetFree.of_bodySF (plainFor_of_name pn_0) hisR ?_
  intro p e s m args below meth c s₁ Bd hml0 hP hK
  obtain ⟨rfl, hZ, hh⟩ := hP
  have hx := Bd.exec
  have hby := Bd.bytes
  have hml : c.maxLocals = 3 := hml0
  have hown : s.vm.findClass "com/example/shiftweave/shiftweave/engine/Dominance" = some m.cls := findClass_of_methodNamed Bd.named
  have hnm := (name_of_methodNamed Bd.named Bd.method).1
  have X0 : Stand p l e ({ frames := 0, cells := 0, slots := 0, locals := 0 } : Room) s m #[(.int 0), (.int 1)] below meth c s₁ [] 0 0 := Stand.of_body Bd
  have e0 : s₁.heap = h0 := by rw [← hh, Bd.state]; rfl
  have N0 := Fr.nil n0
  show oG p e below s (Q_zz_01 Z  w h0 n0) ({ frames := 0, cells := 0, slots := 0, locals := 0 } : Room).cells ({ frames := 0, cells := 0, slots := 0, locals := 0 } : Room).slots _
  refine oS (fun t k => castTop (ef_3_ii_0_1 m ) k) ?_
  show oG _ _ _ _ _ _ _ (s₁.setTop (mkF m 0 #[.val (.int 0), .val (.int 1), .unset] []))
  obtain ⟨T1, X1, e1, st1⟩ := getS2 X0 hx hZ hown (host := "") (Or.inl (oW hw 11 rfl)) Via.refl e0 ((wS0 W).ext O0.2) (g := (mkF m 0 #[.val (.int 0), .val (.int 1), .unset] [])) rfl (hb hby d3_0)
  refine oS (fun t k => st1 t k) ?_
  try clear st1
  refine oS (fun t k => XS.astoreN X1.here hx rfl (hb hby d3_3) rfl rfl (l' := #[.val (.int 0), .val (.int 1), .val (.ref (w 0))]) rfl k) ?_
  refine oS (fun t k => XS.iloadN X1.here hx rfl (hb hby d3_4) rfl k) ?_
  refine oS (fun t k => XS.ifYes X1.here hx rfl (pc0 := 5) (pc' := 19) rfl (hb hby d3_5) rfl ((if0 _ _).trans (teq (by decide)).1) (by decide) (by decide) k) ?_
  refine oS (fun t k => XS.iloadN X1.here hx rfl (hb hby d3_19) rfl k) ?_
  refine oS (fun t k => XS.ifNo X1.here hx rfl (hb hby d3_20) rfl ((if0 _ _).trans (feq (by decide)).1) k) ?_
  refine oS (fun t k => XS.iloadN X1.here hx rfl (hb hby d3_23) rfl k) ?_
  refine oS (fun t k => XS.ifNo X1.here hx rfl (hb hby d3_24) rfl ((if0 _ _).trans (teq (by decide)).2) k) ?_
  obtain ⟨T2, X2, e2, st2⟩ := getS2 X1 hx hZ hown (host := "") (Or.inl (oW hw 22 rfl)) Via.refl e1 ((wS3 W).ext O0.2) (g := (mkF m 27 #[.val (.int 0), .val (.int 1), .val (.ref (w 0))] [])) rfl (hb hby d3_27)
  refine oS (fun t k => st2 t k) ?_
  try clear st2 X1 e1
  try clear T1
  refine oS (fun t k => XS.astoreN X2.here hx rfl (hb hby d3_30) rfl rfl (l' := #[.val (.int 0), .val (.int 1), .val (.ref (w 3))]) rfl k) ?_
  show oG _ _ _ _ _ _ _ (T2.setTop (mkF m 31 #[.val (.int 0), .val (.int 1), .val (.ref (w 3))] []))
  refine oS (fun t k => XS.goto X2.here hx rfl (pc0 := 31) (pc' := 46) rfl (hb hby d3_31) (by decide) (by decide) k) ?_
  refine oS (fun t k => XS.aloadN X2.here hx rfl (hb hby d3_46) rfl rfl k) ?_
  exact own_ret (v := some (.ref (w 3))) X2 (fun h => by rw [Bd.returns] at h; cases h) Bd.notSynchronized (fun fs hr => retOut X2 hx (t := (.object "com/example/shiftweave/shiftweave/engine/Dominance")) Bd.returns rfl (Or.inr (Or.inr (Or.inr (Or.inr ⟨rfl, rfl, rfl⟩)))) (hb hby d3_47) hr) (by rw [e2]; exact ⟨rfl, N0, rfl⟩) (by decide) (by decide)
theorem d3_8 : decode prog_24_method_8_code 8 = .ok (.iload_n 1, 1) := by decide +kernel
theorem d3_9 : decode prog_24_method_8_code 9 = .ok (.ifCond .ne 10, 3) := by decide +kernel
theorem d3_12 : decode prog_24_method_8_code 12 = .ok (.getstatic 3, 3) := by decide +kernel
theorem d3_15 : decode prog_24_method_8_code 15 = .ok (.astore_n 2, 1) := by decide +kernel
theorem d3_16 : decode prog_24_method_8_code 16 = .ok (.goto 30, 3) := by decide +kernel
theorem ef_3_ii_1_0 (m : MethodId)  : entryFrame m #[(.int 1), (.int 0)] 3 = mkF m 0 #[.val (.int 1), .val (.int 0), .unset] [] := by first | (simp [entryFrame, mkF, argsToLocals, Value.category]; done) | rfl
def Q_zz_10 (Z : State)  (w : Nat → Addr) (h0 : Heap) (n0 : Nat) (v : Option Value) (h : Heap) (L : List Loc) : Prop := v = some (.ref (w 1)) ∧ Fr n0 L ∧ h = h0
set_option maxRecDepth 65536 in
set_option maxHeartbeats 40000000 in
theorem rm_zz_10 (l : Launch) (Z : State) (a0 : Array Value) (hw : ∀ d ∈ tables_1, d.before a0 Z = true) (ws : List Jvm.Cond)  (w : Nat → Addr) (h0 : Heap) (n0 : Nat) (O0 : Old Z n0 h0) (W : own_World Z w) :
    MetFree l mY0 (head1 (Jvm.Cond.code mY0 prog_24_method_8_code 3 (some (.object "com/example/shiftweave/shiftweave/engine/Dominance")) :: ws) ({ frames := 0, cells := 0, slots := 0, locals := 0 } : Room)) (fun a U => a = #[(.int 1), (.int 0)] ∧ Z.Warmed39 U.vm ∧ U.heap = h0) (fun _ _ _ _ _ => True) (fun _ U o U' => ∃ v L, o = .returned v ∧ Q_zz_10 Z  w h0 n0 v U'.heap L ∧ FrameEnd U o U' L ({ frames := 0, cells := 0, slots := 0, locals := 0 } : Room).cells ({ frames := 0, cells := 0, slots := 0, locals := 0 } : Room).slots) := by
  refine MetFree.of_bodySF (plainFor_of_name pn_0) hisR ?_
  intro p e s m args below meth c s₁ Bd hml0 hP hK
  obtain ⟨rfl, hZ, hh⟩ := hP
  have hx := Bd.exec
  have hby := Bd.bytes
  have hml : c.maxLocals = 3 := hml0
  have hown : s.vm.findClass "com/example/shiftweave/shiftweave/engine/Dominance" = some m.cls := findClass_of_methodNamed Bd.named
  have hnm := (name_of_methodNamed Bd.named Bd.method).1
  have X0 : Stand p l e ({ frames := 0, cells := 0, slots := 0, locals := 0 } : Room) s m #[(.int 1), (.int 0)] below meth c s₁ [] 0 0 := Stand.of_body Bd
  have e0 : s₁.heap = h0 := by rw [← hh, Bd.state]; rfl
  have N0 := Fr.nil n0
  show oG p e below s (Q_zz_10 Z  w h0 n0) ({ frames := 0, cells := 0, slots := 0, locals := 0 } : Room).cells ({ frames := 0, cells := 0, slots := 0, locals := 0 } : Room).slots _
  refine oS (fun t k => castTop (ef_3_ii_1_0 m ) k) ?_
  show oG _ _ _ _ _ _ _ (s₁.setTop (mkF m 0 #[.val (.int 1), .val (.int 0), .unset] []))
  obtain ⟨T1, X1, e1, st1⟩ := getS2 X0 hx hZ hown (host := "") (Or.inl (oW hw 11 rfl)) Via.refl e0 ((wS0 W).ext O0.2) (g := (mkF m 0 #[.val (.int 1), .val (.int 0), .unset] [])) rfl (hb hby d3_0)
  refine oS (fun t k => st1 t k) ?_
  try clear st1
  refine oS (fun t k => XS.astoreN X1.here hx rfl (hb hby d3_3) rfl rfl (l' := #[.val (.int 1), .val (.int 0), .val (.ref (w 0))]) rfl k) ?_
  refine oS (fun t k => XS.iloadN X1.here hx rfl (hb hby d3_4) rfl k) ?_
  refine oS (fun t k => XS.ifNo X1.here hx rfl (hb hby d3_5) rfl ((if0 _ _).trans (feq (by decide)).1) k) ?_
  refine oS (fun t k => XS.iloadN X1.here hx rfl (hb hby d3_8) rfl k) ?_
  refine oS (fun t k => XS.ifNo X1.here hx rfl (hb hby d3_9) rfl ((if0 _ _).trans (teq (by decide)).2) k) ?_
  obtain ⟨T2, X2, e2, st2⟩ := getS2 X1 hx hZ hown (host := "") (Or.inl (oW hw 18 rfl)) Via.refl e1 ((wS1 W).ext O0.2) (g := (mkF m 12 #[.val (.int 1), .val (.int 0), .val (.ref (w 0))] [])) rfl (hb hby d3_12)
  refine oS (fun t k => st2 t k) ?_
  try clear st2 X1 e1
  try clear T1
  refine oS (fun t k => XS.astoreN X2.here hx rfl (hb hby d3_15) rfl rfl (l' := #[.val (.int 1), .val (.int 0), .val (.ref (w 1))]) rfl k) ?_
  refine oS (fun t k => XS.goto X2.here hx rfl (pc0 := 16) (pc' := 46) rfl (hb hby d3_16) (by decide) (by decide) k) ?_
  refine oS (fun t k => XS.aloadN X2.here hx rfl (hb hby d3_46) rfl rfl k) ?_
  show oG _ _ _ _ _ _ _ (T2.setTop (mkF m 47 #[.val (.int 1), .val (.int 0), .val (.ref (w 1))] [(.ref (w 1))]))
  exact own_ret (v := some (.ref (w 1))) X2 (fun h => by rw [Bd.returns] at h; cases h) Bd.notSynchronized (fun fs hr => retOut X2 hx (t := (.object "com/example/shiftweave/shiftweave/engine/Dominance")) Bd.returns rfl (Or.inr (Or.inr (Or.inr (Or.inr ⟨rfl, rfl, rfl⟩)))) (hb hby d3_47) hr) (by rw [e2]; exact ⟨rfl, N0, rfl⟩) (by decide) (by decide)
theorem ef_3_ii_1_1 (m : MethodId)  : entryFrame m #[(.int 1), (.int 1)] 3 = mkF m 0 #[.val (.int 1), .val (.int 1), .unset] [] := by first | (simp [entryFrame, mkF, argsToLocals, Value.category]; done) | rfl
def Q_zz_11 (Z : State)  (w : Nat → Addr) (h0 : Heap) (n0 : Nat) (v : Option Value) (h : Heap) (L : List Loc) : Prop := v = some (.ref (w 0)) ∧ Fr n0 L ∧ h = h0
set_option maxRecDepth 65536 in
set_option maxHeartbeats 40000000 in
theorem rm_zz_11 (l : Launch) (Z : State) (a0 : Array Value) (hw : ∀ d ∈ tables_1, d.before a0 Z = true) (ws : List Jvm.Cond)  (w : Nat → Addr) (h0 : Heap) (n0 : Nat) (O0 : Old Z n0 h0) (W : own_World Z w) :
    MetFree l mY0 (head1 (Jvm.Cond.code mY0 prog_24_method_8_code 3 (some (.object "com/example/shiftweave/shiftweave/engine/Dominance")) :: ws) ({ frames := 0, cells := 0, slots := 0, locals := 0 } : Room)) (fun a U => a = #[(.int 1), (.int 1)] ∧ Z.Warmed39 U.vm ∧ U.heap = h0) (fun _ _ _ _ _ => True) (fun _ U o U' => ∃ v L, o = .returned v ∧ Q_zz_11 Z  w h0 n0 v U'.heap L ∧ FrameEnd U o U' L ({ frames := 0, cells := 0, slots := 0, locals := 0 } : Room).cells ({ frames := 0, cells := 0, slots := 0, locals := 0 } : Room).slots) := by
  refine MetFree.of_bodySF (plainFor_of_name pn_0) hisR ?_
  intro p e s m args below meth c s₁ Bd hml0 hP hK
  obtain ⟨rfl, hZ, hh⟩ := hP
  have hx := Bd.exec
  have hby := Bd.bytes
  have hml : c.maxLocals = 3 := hml0
  have hown : s.vm.findClass "com/example/shiftweave/shiftweave/engine/Dominance" = some m.cls := findClass_of_methodNamed Bd.named
  have hnm := (name_of_methodNamed Bd.named Bd.method).1
  have X0 : Stand p l e ({ frames := 0, cells := 0, slots := 0, locals := 0 } : Room) s m #[(.int 1), (.int 1)] below meth c s₁ [] 0 0 := Stand.of_body Bd
  have e0 : s₁.heap = h0 := by rw [← hh, Bd.state]; rfl
  have N0 := Fr.nil n0
  show oG p e below s (Q_zz_11 Z  w h0 n0) ({ frames := 0, cells := 0, slots := 0, locals := 0 } : Room).cells ({ frames := 0, cells := 0, slots := 0, locals := 0 } : Room).slots _
  refine oS (fun t k => castTop (ef_3_ii_1_1 m ) k) ?_
  show oG _ _ _ _ _ _ _ (s₁.setTop (mkF m 0 #[.val (.int 1), .val (.int 1), .unset] []))
  obtain ⟨T1, X1, e1, st1⟩ := getS2 X0 hx hZ hown (host := "") (Or.inl (oW hw 11 rfl)) Via.refl e0 ((wS0 W).ext O0.2) (g := (mkF m 0 #[.val (.int 1), .val (.int 1), .unset] [])) rfl (hb hby d3_0)
  refine oS (fun t k => st1 t k) ?_
  try clear st1
  refine oS (fun t k => XS.astoreN X1.here hx rfl (hb hby d3_3) rfl rfl (l' := #[.val (.int 1), .val (.int 1), .val (.ref (w 0))]) rfl k) ?_
  refine oS (fun t k => XS.iloadN X1.here hx rfl (hb hby d3_4) rfl k) ?_
  refine oS (fun t k => XS.ifNo X1.here hx rfl (hb hby d3_5) rfl ((if0 _ _).trans (feq (by decide)).1) k) ?_
  refine oS (fun t k => XS.iloadN X1.here hx rfl (hb hby d3_8) rfl k) ?_
  refine oS (fun t k => XS.ifYes X1.here hx rfl (pc0 := 9) (pc' := 19) rfl (hb hby d3_9) rfl ((if0 _ _).trans (feq (by decide)).2) (by decide) (by decide) k) ?_
  refine oS (fun t k => XS.iloadN X1.here hx rfl (hb hby d3_19) rfl k) ?_
  refine oS (fun t k => XS.ifNo X1.here hx rfl (hb hby d3_20) rfl ((if0 _ _).trans (feq (by decide)).1) k) ?_
  refine oS (fun t k => XS.iloadN X1.here hx rfl (hb hby d3_23) rfl k) ?_
  refine oS (fun t k => XS.ifYes X1.here hx rfl (pc0 := 24) (pc' := 34) rfl (hb hby d3_24) rfl ((if0 _ _).trans (feq (by decide)).2) (by decide) (by decide) k) ?_
  show oG _ _ _ _ _ _ _ (T1.setTop (mkF m 34 #[.val (.int 1), .val (.int 1), .val (.ref (w 0))] []))
  refine oS (fun t k => XS.iloadN X1.here hx rfl (hb hby d3_34) rfl k) ?_
  refine oS (fun t k => XS.ifYes X1.here hx rfl (pc0 := 35) (pc' := 46) rfl (hb hby d3_35) rfl ((if0 _ _).trans (feq (by decide)).2) (by decide) (by decide) k) ?_
  refine oS (fun t k => XS.aloadN X1.here hx rfl (hb hby d3_46) rfl rfl k) ?_
  exact own_ret (v := some (.ref (w 0))) X1 (fun h => by rw [Bd.returns] at h; cases h) Bd.notSynchronized (fun fs hr => retOut X1 hx (t := (.object "com/example/shiftweave/shiftweave/engine/Dominance")) Bd.returns rfl (Or.inr (Or.inr (Or.inr (Or.inr ⟨rfl, rfl, rfl⟩)))) (hb hby d3_47) hr) (by rw [e1]; exact ⟨rfl, N0, rfl⟩) (by decide) (by decide)
theorem d2_0 : decode prog_24_method_7_code 0 = .ok (.iload_n 0, 1) := by decide +kernel
theorem d2_1 : decode prog_24_method_7_code 1 = .ok (.iload_n 1, 1) := by decide +kernel
theorem d2_2 : decode prog_24_method_7_code 2 = .ok (.if_icmp .eq 18, 3) := by decide +kernel
theorem d2_20 : decode prog_24_method_7_code 20 = .ok (.return_, 1) := by decide +kernel
abbrev mY1 : MethodName := (⟨"com/example/shiftweave/shiftweave/engine/Dominance", "checkSameCount", "(II)V"⟩ : MethodName)
theorem ef_2_ii_2_2 (m : MethodId)  : entryFrame m #[(.int 2), (.int 2)] 2 = mkF m 0 #[.val (.int 2), .val (.int 2)] [] := by first | (simp [entryFrame, mkF, argsToLocals, Value.category]; done) | rfl
def Q_chk (Z : State)  (h0 : Heap) (n0 : Nat) (v : Option Value) (h : Heap) (L : List Loc) : Prop := v = none ∧ Fr n0 L ∧ h = h0
set_option maxRecDepth 65536 in
set_option maxHeartbeats 40000000 in
theorem rm_chk (l : Launch) (Z : State) (a0 : Array Value) (hw : ∀ d ∈ tables_1, d.before a0 Z = true) (ws : List Jvm.Cond)  (h0 : Heap) (n0 : Nat) (O0 : Old Z n0 h0) :
    MetFree l mY1 (head1 (Jvm.Cond.code mY1 prog_24_method_7_code 2 none :: ws) ({ frames := 0, cells := 0, slots := 0, locals := 0 } : Room)) (fun a U => a = #[(.int 2), (.int 2)] ∧ Z.Warmed39 U.vm ∧ U.heap = h0) (fun _ _ _ _ _ => True) (fun _ U o U' => ∃ v L, o = .returned v ∧ Q_chk Z  h0 n0 v U'.heap L ∧ FrameEnd U o U' L ({ frames := 0, cells := 0, slots := 0, locals := 0 } : Room).cells ({ frames := 0, cells := 0, slots := 0, locals := 0 } : Room).slots) := by
  refine MetFree.of_bodySF (plainFor_of_name pn_0) hisR ?_
  intro p e s m args below meth c s₁ Bd hml0 hP hK
  obtain ⟨rfl, hZ, hh⟩ := hP
  have hx := Bd.exec
  have hby := Bd.bytes
  have hml : c.maxLocals = 2 := hml0
  have hown : s.vm.findClass "com/example/shiftweave/shiftweave/engine/Dominance" = some m.cls := findClass_of_methodNamed Bd.named
  have hnm := (name_of_methodNamed Bd.named Bd.method).1
  have X0 : Stand p l e ({ frames := 0, cells := 0, slots := 0, locals := 0 } : Room) s m #[(.int 2), (.int 2)] below meth c s₁ [] 0 0 := Stand.of_body Bd
  have e0 : s₁.heap = h0 := by rw [← hh, Bd.state]; rfl
  have N0 := Fr.nil n0
  show oG p e below s (Q_chk Z  h0 n0) ({ frames := 0, cells := 0, slots := 0, locals := 0 } : Room).cells ({ frames := 0, cells := 0, slots := 0, locals := 0 } : Room).slots _
  refine oS (fun t k => castTop (ef_2_ii_2_2 m ) k) ?_
  show oG _ _ _ _ _ _ _ (s₁.setTop (mkF m 0 #[.val (.int 2), .val (.int 2)] []))
  refine oS (fun t k => XS.iloadN X0.here hx rfl (hb hby d2_0) rfl k) ?_
  refine oS (fun t k => XS.iloadN X0.here hx rfl (hb hby d2_1) rfl k) ?_
  refine oS (fun t k => XS.icmpYes X0.here hx rfl (pc0 := 2) (pc' := 20) rfl (hb hby d2_2) rfl (teq (by decide)).1 (by decide) (by decide) k) ?_
  exact own_ret (v := none) X0 (fun _ => rfl) Bd.notSynchronized (fun fs hr => X0.returnOut hx Bd.returns (hb hby d2_20) hr) (by rw [e0]; exact ⟨rfl, N0, rfl⟩) (by decide) (by decide)
theorem d4_0 : decode prog_24_method_6_code 0 = .ok (.aload_n 0, 1) := by decide +kernel
theorem d4_1 : decode prog_24_method_6_code 1 = .ok (.getstatic 3, 3) := by decide +kernel
theorem d4_4 : decode prog_24_method_6_code 4 = .ok (.if_acmp .eq 10, 3) := by decide +kernel
theorem d4_7 : decode prog_24_method_6_code 7 = .ok (.aload_n 0, 1) := by decide +kernel
theorem d4_8 : decode prog_24_method_6_code 8 = .ok (.getstatic 10, 3) := by decide +kernel
theorem d4_11 : decode prog_24_method_6_code 11 = .ok (.if_acmp .ne 7, 3) := by decide +kernel
theorem d4_18 : decode prog_24_method_6_code 18 = .ok (.iconst 0, 1) := by decide +kernel
theorem li_0 : Int32.ofInt (0) = (0 : Int32) := by decide
theorem d4_19 : decode prog_24_method_6_code 19 = .ok (.ireturn, 1) := by decide +kernel
abbrev mY2 : MethodName := (⟨"com/example/shiftweave/shiftweave/engine/Dominance", "isNoWorse", "()Z"⟩ : MethodName)
theorem ef_4_r (m : MethodId) (x0 : Addr) : entryFrame m #[(.ref x0)] 1 = mkF m 0 #[.val (.ref x0)] [] := by first | (simp [entryFrame, mkF, argsToLocals, Value.category]; done) | rfl
def Q_nw_INCOMPARABLE (Z : State)  (w : Nat → Addr) (h0 : Heap) (n0 : Nat) (v : Option Value) (h : Heap) (L : List Loc) : Prop := v = some (.int 0) ∧ Fr n0 L ∧ h = h0
set_option maxRecDepth 65536 in
set_option maxHeartbeats 40000000 in
theorem rm_nw_INCOMPARABLE (l : Launch) (Z : State) (a0 : Array Value) (hw : ∀ d ∈ tables_1, d.before a0 Z = true) (ws : List Jvm.Cond)  (w : Nat → Addr) (h0 : Heap) (n0 : Nat) (O0 : Old Z n0 h0) (W : own_World Z w) :
    MetFree l mY2 (head1 (Jvm.Cond.code mY2 prog_24_method_6_code 1 (some .boolean) :: ws) ({ frames := 0, cells := 0, slots := 0, locals := 0 } : Room)) (fun a U => a = #[(.ref (w 0))] ∧ Z.Warmed39 U.vm ∧ U.heap = h0) (fun _ _ _ _ _ => True) (fun _ U o U' => ∃ v L, o = .returned v ∧ Q_nw_INCOMPARABLE Z  w h0 n0 v U'.heap L ∧ FrameEnd U o U' L ({ frames := 0, cells := 0, slots := 0, locals := 0 } : Room).cells ({ frames := 0, cells := 0, slots := 0, locals := 0 } : Room).slots) := by
  refine MetFree.of_bodySF (plainFor_of_name pn_0) hisR ?_
  intro p e s m args below meth c s₁ Bd hml0 hP hK
  obtain ⟨rfl, hZ, hh⟩ := hP
  have hx := Bd.exec
  have hby := Bd.bytes
  have hml : c.maxLocals = 1 := hml0
  have hown : s.vm.findClass "com/example/shiftweave/shiftweave/engine/Dominance" = some m.cls := findClass_of_methodNamed Bd.named
  have hnm := (name_of_methodNamed Bd.named Bd.method).1
  have X0 : Stand p l e ({ frames := 0, cells := 0, slots := 0, locals := 0 } : Room) s m #[(.ref (w 0))] below meth c s₁ [] 0 0 := Stand.of_body Bd
  have e0 : s₁.heap = h0 := by rw [← hh, Bd.state]; rfl
  have N0 := Fr.nil n0
  show oG p e below s (Q_nw_INCOMPARABLE Z  w h0 n0) ({ frames := 0, cells := 0, slots := 0, locals := 0 } : Room).cells ({ frames := 0, cells := 0, slots := 0, locals := 0 } : Room).slots _
  refine oS (fun t k => castTop (ef_4_r m (w 0)) k) ?_
  show oG _ _ _ _ _ _ _ (s₁.setTop (mkF m 0 #[.val (.ref (w 0))] []))
  refine oS (fun t k => XS.aloadN X0.here hx rfl (hb hby d4_0) rfl rfl k) ?_
  obtain ⟨T1, X1, e1, st1⟩ := getS2 X0 hx hZ hown (host := "") (Or.inl (oW hw 18 rfl)) Via.refl e0 ((wS1 W).ext O0.2) (g := (mkF m 1 #[.val (.ref (w 0))] [(.ref (w 0))])) rfl (hb hby d4_1)
  refine oS (fun t k => st1 t k) ?_
  try clear st1
  refine oS (fun t k => Jvm.RoadKit.acmp (g := (mkF m 4 #[.val (.ref (w 0))] [(.ref (w 1)), (.ref (w 0))])) X1 hx rfl rfl rfl (pc0 := 4) (pc' := 7) (same := false) rfl (hb hby d4_4) rfl (decide_eq_false fun q => (own_neI (wF0_ordinal W) (wF1_ordinal W) (by decide)) (Value.ref.inj q)) (by decide) (by decide) k) ?_
  refine oS (fun t k => XS.aloadN X1.here hx rfl (hb hby d4_7) rfl rfl k) ?_
  obtain ⟨T2, X2, e2, st2⟩ := getS2 X1 hx hZ hown (host := "") (Or.inl (oW hw 20 rfl)) Via.refl e1 ((wS2 W).ext O0.2) (g := (mkF m 8 #[.val (.ref (w 0))] [(.ref (w 0))])) rfl (hb hby d4_8)
  refine oS (fun t k => st2 t k) ?_
  try clear st2 X1 e1
  try clear T1
  refine oS (fun t k => Jvm.RoadKit.acmp (g := (mkF m 11 #[.val (.ref (w 0))] [(.ref (w 2)), (.ref (w 0))])) X2 hx rfl rfl rfl (pc0 := 11) (pc' := 18) (same := false) rfl (hb hby d4_11) rfl (decide_eq_false fun q => (own_neI (wF0_ordinal W) (wF2_ordinal W) (by decide)) (Value.ref.inj q)) (by decide) (by decide) k) ?_
  refine oS (fun t k => oIc li_0 X2.here hx rfl (hb hby d4_18) k) ?_
  exact own_ret (v := some (.int 0)) X2 (fun h => by rw [Bd.returns] at h; cases h) Bd.notSynchronized (fun fs hr => retN X2 hx (t := .boolean) Bd.returns (by simp) (hb hby d4_19) hr) (by rw [e2]; exact ⟨rfl, N0, rfl⟩) (by decide) (by decide)
theorem d4_14 : decode prog_24_method_6_code 14 = .ok (.iconst 1, 1) := by decide +kernel
theorem li_1 : Int32.ofInt (1) = (1 : Int32) := by decide
theorem d4_15 : decode prog_24_method_6_code 15 = .ok (.goto 4, 3) := by decide +kernel
def Q_nw_DOMINATES (Z : State)  (w : Nat → Addr) (h0 : Heap) (n0 : Nat) (v : Option Value) (h : Heap) (L : List Loc) : Prop := v = some (.int 1) ∧ Fr n0 L ∧ h = h0
set_option maxRecDepth 65536 in
set_option maxHeartbeats 40000000 in
theorem rm_nw_DOMINATES (l : Launch) (Z : State) (a0 : Array Value) (hw : ∀ d ∈ tables_1, d.before a0 Z = true) (ws : List Jvm.Cond)  (w : Nat → Addr) (h0 : Heap) (n0 : Nat) (O0 : Old Z n0 h0) (W : own_World Z w) :
    MetFree l mY2 (head1 (Jvm.Cond.code mY2 prog_24_method_6_code 1 (some .boolean) :: ws) ({ frames := 0, cells := 0, slots := 0, locals := 0 } : Room)) (fun a U => a = #[(.ref (w 1))] ∧ Z.Warmed39 U.vm ∧ U.heap = h0) (fun _ _ _ _ _ => True) (fun _ U o U' => ∃ v L, o = .returned v ∧ Q_nw_DOMINATES Z  w h0 n0 v U'.heap L ∧ FrameEnd U o U' L ({ frames := 0, cells := 0, slots := 0, locals := 0 } : Room).cells ({ frames := 0, cells := 0, slots := 0, locals := 0 } : Room).slots) := by
  refine MetFree.of_bodySF (plainFor_of_name pn_0) hisR ?_
  intro p e s m args below meth c s₁ Bd hml0 hP hK
  obtain ⟨rfl, hZ, hh⟩ := hP
  have hx := Bd.exec
  have hby := Bd.bytes
  have hml : c.maxLocals = 1 := hml0
  have hown : s.vm.findClass "com/example/shiftweave/shiftweave/engine/Dominance" = some m.cls := findClass_of_methodNamed Bd.named
  have hnm := (name_of_methodNamed Bd.named Bd.method).1
  have X0 : Stand p l e ({ frames := 0, cells := 0, slots := 0, locals := 0 } : Room) s m #[(.ref (w 1))] below meth c s₁ [] 0 0 := Stand.of_body Bd
  have e0 : s₁.heap = h0 := by rw [← hh, Bd.state]; rfl
  have N0 := Fr.nil n0
  show oG p e below s (Q_nw_DOMINATES Z  w h0 n0) ({ frames := 0, cells := 0, slots := 0, locals := 0 } : Room).cells ({ frames := 0, cells := 0, slots := 0, locals := 0 } : Room).slots _
  refine oS (fun t k => castTop (ef_4_r m (w 1)) k) ?_
  show oG _ _ _ _ _ _ _ (s₁.setTop (mkF m 0 #[.val (.ref (w 1))] []))
  refine oS (fun t k => XS.aloadN X0.here hx rfl (hb hby d4_0) rfl rfl k) ?_
  obtain ⟨T1, X1, e1, st1⟩ := getS2 X0 hx hZ hown (host := "") (Or.inl (oW hw 18 rfl)) Via.refl e0 ((wS1 W).ext O0.2) (g := (mkF m 1 #[.val (.ref (w 1))] [(.ref (w 1))])) rfl (hb hby d4_1)
  refine oS (fun t k => st1 t k) ?_
  try clear st1
  refine oS (fun t k => Jvm.RoadKit.acmp (g := (mkF m 4 #[.val (.ref (w 1))] [(.ref (w 1)), (.ref (w 1))])) X1 hx rfl rfl rfl (pc0 := 4) (pc' := 14) (same := true) rfl (hb hby d4_4) rfl (decide_eq_true rfl) (by decide) (by decide) k) ?_
  refine oS (fun t k => oIc li_1 X1.here hx rfl (hb hby d4_14) k) ?_
  refine oS (fun t k => XS.goto X1.here hx rfl (pc0 := 15) (pc' := 19) rfl (hb hby d4_15) (by decide) (by decide) k) ?_
  exact own_ret (v := some (.int 1)) X1 (fun h => by rw [Bd.returns] at h; cases h) Bd.notSynchronized (fun fs hr => retN X1 hx (t := .boolean) Bd.returns (by simp) (hb hby d4_19) hr) (by rw [e1]; exact ⟨rfl, N0, rfl⟩) (by decide) (by decide)
def Q_nw_EQUAL (Z : State)  (w : Nat → Addr) (h0 : Heap) (n0 : Nat) (v : Option Value) (h : Heap) (L : List Loc) : Prop := v = some (.int 1) ∧ Fr n0 L ∧ h = h0
set_option maxRecDepth 65536 in
set_option maxHeartbeats 40000000 in
theorem rm_nw_EQUAL (l : Launch) (Z : State) (a0 : Array Value) (hw : ∀ d ∈ tables_1, d.before a0 Z = true) (ws : List Jvm.Cond)  (w : Nat → Addr) (h0 : Heap) (n0 : Nat) (O0 : Old Z n0 h0) (W : own_World Z w) :
    MetFree l mY2 (head1 (Jvm.Cond.code mY2 prog_24_method_6_code 1 (some .boolean) :: ws) ({ frames := 0, cells := 0, slots := 0, locals := 0 } : Room)) (fun a U => a = #[(.ref (w 2))] ∧ Z.Warmed39 U.vm ∧ U.heap = h0) (fun _ _ _ _ _ => True) (fun _ U o U' => ∃ v L, o = .returned v ∧ Q_nw_EQUAL Z  w h0 n0 v U'.heap L ∧ FrameEnd U o U' L ({ frames := 0, cells := 0, slots := 0, locals := 0 } : Room).cells ({ frames := 0, cells := 0, slots := 0, locals := 0 } : Room).slots) := by
  refine MetFree.of_bodySF (plainFor_of_name pn_0) hisR ?_
  intro p e s m args below meth c s₁ Bd hml0 hP hK
  obtain ⟨rfl, hZ, hh⟩ := hP
  have hx := Bd.exec
  have hby := Bd.bytes
  have hml : c.maxLocals = 1 := hml0
  have hown : s.vm.findClass "com/example/shiftweave/shiftweave/engine/Dominance" = some m.cls := findClass_of_methodNamed Bd.named
  have hnm := (name_of_methodNamed Bd.named Bd.method).1
  have X0 : Stand p l e ({ frames := 0, cells := 0, slots := 0, locals := 0 } : Room) s m #[(.ref (w 2))] below meth c s₁ [] 0 0 := Stand.of_body Bd
  have e0 : s₁.heap = h0 := by rw [← hh, Bd.state]; rfl
  have N0 := Fr.nil n0
  show oG p e below s (Q_nw_EQUAL Z  w h0 n0) ({ frames := 0, cells := 0, slots := 0, locals := 0 } : Room).cells ({ frames := 0, cells := 0, slots := 0, locals := 0 } : Room).slots _
  refine oS (fun t k => castTop (ef_4_r m (w 2)) k) ?_
  show oG _ _ _ _ _ _ _ (s₁.setTop (mkF m 0 #[.val (.ref (w 2))] []))
  refine oS (fun t k => XS.aloadN X0.here hx rfl (hb hby d4_0) rfl rfl k) ?_
  obtain ⟨T1, X1, e1, st1⟩ := getS2 X0 hx hZ hown (host := "") (Or.inl (oW hw 18 rfl)) Via.refl e0 ((wS1 W).ext O0.2) (g := (mkF m 1 #[.val (.ref (w 2))] [(.ref (w 2))])) rfl (hb hby d4_1)
  refine oS (fun t k => st1 t k) ?_
  try clear st1
  refine oS (fun t k => Jvm.RoadKit.acmp (g := (mkF m 4 #[.val (.ref (w 2))] [(.ref (w 1)), (.ref (w 2))])) X1 hx rfl rfl rfl (pc0 := 4) (pc' := 7) (same := false) rfl (hb hby d4_4) rfl (decide_eq_false fun q => (own_neI (wF2_ordinal W) (wF1_ordinal W) (by decide)) (Value.ref.inj q)) (by decide) (by decide) k) ?_
  refine oS (fun t k => XS.aloadN X1.here hx rfl (hb hby d4_7) rfl rfl k) ?_
  obtain ⟨T2, X2, e2, st2⟩ := getS2 X1 hx hZ hown (host := "") (Or.inl (oW hw 20 rfl)) Via.refl e1 ((wS2 W).ext O0.2) (g := (mkF m 8 #[.val (.ref (w 2))] [(.ref (w 2))])) rfl (hb hby d4_8)
  refine oS (fun t k => st2 t k) ?_
  try clear st2 X1 e1
  try clear T1
  refine oS (fun t k => Jvm.RoadKit.acmp (g := (mkF m 11 #[.val (.ref (w 2))] [(.ref (w 2)), (.ref (w 2))])) X2 hx rfl rfl rfl (pc0 := 11) (pc' := 14) (same := true) rfl (hb hby d4_11) rfl (decide_eq_true rfl) (by decide) (by decide) k) ?_
  refine oS (fun t k => oIc li_1 X2.here hx rfl (hb hby d4_14) k) ?_
  refine oS (fun t k => XS.goto X2.here hx rfl (pc0 := 15) (pc' := 19) rfl (hb hby d4_15) (by decide) (by decide) k) ?_
  exact own_ret (v := some (.int 1)) X2 (fun h => by rw [Bd.returns] at h; cases h) Bd.notSynchronized (fun fs hr => retN X2 hx (t := .boolean) Bd.returns (by simp) (hb hby d4_19) hr) (by rw [e2]; exact ⟨rfl, N0, rfl⟩) (by decide) (by decide)
def Q_nw_DOMINATED (Z : State)  (w : Nat → Addr) (h0 : Heap) (n0 : Nat) (v : Option Value) (h : Heap) (L : List Loc) : Prop := v = some (.int 0) ∧ Fr n0 L ∧ h = h0
set_option maxRecDepth 65536 in
set_option maxHeartbeats 40000000 in
theorem rm_nw_DOMINATED (l : Launch) (Z : State) (a0 : Array Value) (hw : ∀ d ∈ tables_1, d.before a0 Z = true) (ws : List Jvm.Cond)  (w : Nat → Addr) (h0 : Heap) (n0 : Nat) (O0 : Old Z n0 h0) (W : own_World Z w) :
    MetFree l mY2 (head1 (Jvm.Cond.code mY2 prog_24_method_6_code 1 (some .boolean) :: ws) ({ frames := 0, cells := 0, slots := 0, locals := 0 } : Room)) (fun a U => a = #[(.ref (w 3))] ∧ Z.Warmed39 U.vm ∧ U.heap = h0) (fun _ _ _ _ _ => True) (fun _ U o U' => ∃ v L, o = .returned v ∧ Q_nw_DOMINATED Z  w h0 n0 v U'.heap L ∧ FrameEnd U o U' L ({ frames := 0, cells := 0, slots := 0, locals := 0 } : Room).cells ({ frames := 0, cells := 0, slots := 0, locals := 0 } : Room).slots) := by
  refine MetFree.of_bodySF (plainFor_of_name pn_0) hisR ?_
  intro p e s m args below meth c s₁ Bd hml0 hP hK
  obtain ⟨rfl, hZ, hh⟩ := hP
  have hx := Bd.exec
  have hby := Bd.bytes
  have hml : c.maxLocals = 1 := hml0
  have hown : s.vm.findClass "com/example/shiftweave/shiftweave/engine/Dominance" = some m.cls := findClass_of_methodNamed Bd.named
  have hnm := (name_of_methodNamed Bd.named Bd.method).1
  have X0 : Stand p l e ({ frames := 0, cells := 0, slots := 0, locals := 0 } : Room) s m #[(.ref (w 3))] below meth c s₁ [] 0 0 := Stand.of_body Bd
  have e0 : s₁.heap = h0 := by rw [← hh, Bd.state]; rfl
  have N0 := Fr.nil n0
  show oG p e below s (Q_nw_DOMINATED Z  w h0 n0) ({ frames := 0, cells := 0, slots := 0, locals := 0 } : Room).cells ({ frames := 0, cells := 0, slots := 0, locals := 0 } : Room).slots _
  refine oS (fun t k => castTop (ef_4_r m (w 3)) k) ?_
  show oG _ _ _ _ _ _ _ (s₁.setTop (mkF m 0 #[.val (.ref (w 3))] []))
  refine oS (fun t k => XS.aloadN X0.here hx rfl (hb hby d4_0) rfl rfl k) ?_
  obtain ⟨T1, X1, e1, st1⟩ := getS2 X0 hx hZ hown (host := "") (Or.inl (oW hw 18 rfl)) Via.refl e0 ((wS1 W).ext O0.2) (g := (mkF m 1 #[.val (.ref (w 3))] [(.ref (w 3))])) rfl (hb hby d4_1)
  refine oS (fun t k => st1 t k) ?_
  try clear st1
  refine oS (fun t k => Jvm.RoadKit.acmp (g := (mkF m 4 #[.val (.ref (w 3))] [(.ref (w 1)), (.ref (w 3))])) X1 hx rfl rfl rfl (pc0 := 4) (pc' := 7) (same := false) rfl (hb hby d4_4) rfl (decide_eq_false fun q => (own_neI (wF3_ordinal W) (wF1_ordinal W) (by decide)) (Value.ref.inj q)) (by decide) (by decide) k) ?_
  refine oS (fun t k => XS.aloadN X1.here hx rfl (hb hby d4_7) rfl rfl k) ?_
  obtain ⟨T2, X2, e2, st2⟩ := getS2 X1 hx hZ hown (host := "") (Or.inl (oW hw 20 rfl)) Via.refl e1 ((wS2 W).ext O0.2) (g := (mkF m 8 #[.val (.ref (w 3))] [(.ref (w 3))])) rfl (hb hby d4_8)
  refine oS (fun t k => st2 t k) ?_
  try clear st2 X1 e1
  try clear T1
  refine oS (fun t k => Jvm.RoadKit.acmp (g := (mkF m 11 #[.val (.ref (w 3))] [(.ref (w 2)), (.ref (w 3))])) X2 hx rfl rfl rfl (pc0 := 11) (pc' := 18) (same := false) rfl (hb hby d4_11) rfl (decide_eq_false fun q => (own_neI (wF3_ordinal W) (wF2_ordinal W) (by decide)) (Value.ref.inj q)) (by decide) (by decide) k) ?_
  refine oS (fun t k => oIc li_0 X2.here hx rfl (hb hby d4_18) k) ?_
  exact own_ret (v := some (.int 0)) X2 (fun h => by rw [Bd.returns] at h; cases h) Bd.notSynchronized (fun fs hr => retN X2 hx (t := .boolean) Bd.returns (by simp) (hb hby d4_19) hr) (by rw [e2]; exact ⟨rfl, N0, rfl⟩) (by decide) (by decide)
theorem d1_0 : decode prog_24_method_4_code 0 = .ok (.aload_n 0, 1) := by decide +kernel
theorem d1_1 : decode prog_24_method_4_code 1 = .ok (.arraylength, 1) := by decide +kernel
theorem d1_2 : decode prog_24_method_4_code 2 = .ok (.aload_n 1, 1) := by decide +kernel
theorem d1_3 : decode prog_24_method_4_code 3 = .ok (.arraylength, 1) := by decide +kernel
theorem d1_4 : decode prog_24_method_4_code 4 = .ok (.invokestatic 35, 3) := by decide +kernel
theorem pd_0 : parseMethodDescriptor "(II)V" = some ⟨[.int, .int], none⟩ := by decide +kernel
theorem d1_7 : decode prog_24_method_4_code 7 = .ok (.iconst 0, 1) := by decide +kernel
theorem d1_8 : decode prog_24_method_4_code 8 = .ok (.istore_n 2, 1) := by decide +kernel
theorem d1_9 : decode prog_24_method_4_code 9 = .ok (.iconst 0, 1) := by decide +kernel
theorem d1_10 : decode prog_24_method_4_code 10 = .ok (.istore_n 3, 1) := by decide +kernel
theorem d1_11 : decode prog_24_method_4_code 11 = .ok (.iconst 0, 1) := by decide +kernel
theorem d1_12 : decode prog_24_method_4_code 12 = .ok (.istore 4, 2) := by decide +kernel
theorem d1_14 : decode prog_24_method_4_code 14 = .ok (.iload 4, 2) := by decide +kernel
theorem d1_16 : decode prog_24_method_4_code 16 = .ok (.aload_n 0, 1) := by decide +kernel
theorem d1_17 : decode prog_24_method_4_code 17 = .ok (.arraylength, 1) := by decide +kernel
theorem d1_18 : decode prog_24_method_4_code 18 = .ok (.if_icmp .ge 49, 3) := by decide +kernel
theorem d1_21 : decode prog_24_method_4_code 21 = .ok (.iload_n 2, 1) := by decide +kernel
theorem d1_22 : decode prog_24_method_4_code 22 = .ok (.aload_n 0, 1) := by decide +kernel
theorem d1_23 : decode prog_24_method_4_code 23 = .ok (.iload 4, 2) := by decide +kernel
theorem d1_25 : decode prog_24_method_4_code 25 = .ok (.laload, 1) := by decide +kernel
theorem d1_26 : decode prog_24_method_4_code 26 = .ok (.aload_n 1, 1) := by decide +kernel
theorem d1_27 : decode prog_24_method_4_code 27 = .ok (.iload 4, 2) := by decide +kernel
theorem d1_29 : decode prog_24_method_4_code 29 = .ok (.laload, 1) := by decide +kernel
theorem d1_30 : decode prog_24_method_4_code 30 = .ok (.lcmp, 1) := by decide +kernel
theorem d1_31 : decode prog_24_method_4_code 31 = .ok (.ifCond .ge 7, 3) := by decide +kernel
theorem d1_34 : decode prog_24_method_4_code 34 = .ok (.iconst 1, 1) := by decide +kernel
theorem d1_35 : decode prog_24_method_4_code 35 = .ok (.goto 4, 3) := by decide +kernel
theorem d1_39 : decode prog_24_method_4_code 39 = .ok (.ior, 1) := by decide +kernel
theorem d1_40 : decode prog_24_method_4_code 40 = .ok (.istore_n 2, 1) := by decide +kernel
theorem d1_41 : decode prog_24_method_4_code 41 = .ok (.iload_n 3, 1) := by decide +kernel
theorem d1_42 : decode prog_24_method_4_code 42 = .ok (.aload_n 0, 1) := by decide +kernel
theorem d1_43 : decode prog_24_method_4_code 43 = .ok (.iload 4, 2) := by decide +kernel
theorem d1_45 : decode prog_24_method_4_code 45 = .ok (.laload, 1) := by decide +kernel
theorem d1_46 : decode prog_24_method_4_code 46 = .ok (.aload_n 1, 1) := by decide +kernel
theorem d1_47 : decode prog_24_method_4_code 47 = .ok (.iload 4, 2) := by decide +kernel
theorem d1_49 : decode prog_24_method_4_code 49 = .ok (.laload, 1) := by decide +kernel
theorem d1_50 : decode prog_24_method_4_code 50 = .ok (.lcmp, 1) := by decide +kernel
theorem d1_51 : decode prog_24_method_4_code 51 = .ok (.ifCond .le 7, 3) := by decide +kernel
theorem d1_58 : decode prog_24_method_4_code 58 = .ok (.iconst 0, 1) := by decide +kernel
theorem d1_59 : decode prog_24_method_4_code 59 = .ok (.ior, 1) := by decide +kernel
theorem d1_60 : decode prog_24_method_4_code 60 = .ok (.istore_n 3, 1) := by decide +kernel
theorem d1_61 : decode prog_24_method_4_code 61 = .ok (.iinc 4 1, 3) := by decide +kernel
theorem d1_64 : decode prog_24_method_4_code 64 = .ok (.goto (-50), 3) := by decide +kernel
theorem d1_67 : decode prog_24_method_4_code 67 = .ok (.iload_n 2, 1) := by decide +kernel
theorem d1_68 : decode prog_24_method_4_code 68 = .ok (.iload_n 3, 1) := by decide +kernel
theorem d1_69 : decode prog_24_method_4_code 69 = .ok (.invokestatic 39, 3) := by decide +kernel
theorem pd_1 : parseMethodDescriptor "(ZZ)Lcom/example/shiftweave/shiftweave/engine/Dominance;" = some ⟨[.boolean, .boolean], some (.object "com/example/shiftweave/shiftweave/engine/Dominance")⟩ := by decide +kernel
theorem d1_72 : decode prog_24_method_4_code 72 = .ok (.areturn, 1) := by decide +kernel
abbrev mY3 : MethodName := (⟨"com/example/shiftweave/shiftweave/engine/Dominance", "of", "([J[J)Lcom/example/shiftweave/shiftweave/engine/Dominance;"⟩ : MethodName)
theorem ef_1_rr (m : MethodId) (x0 : Addr) (x1 : Addr) : entryFrame m #[(.ref x0), (.ref x1)] 5 = mkF m 0 #[.val (.ref x0), .val (.ref x1), .unset, .unset, .unset] [] := by first | (simp [entryFrame, mkF, argsToLocals, Value.category]; done) | rfl
def Q_of_00 (Z : State) (a1 : Addr) (a2 : Addr) (k1 : ClassId) (k2 : ClassId) (q1 : Int64) (q2 : Int64) (q3 : Int64) (q4 : Int64) (w : Nat → Addr) (h0 : Heap) (n0 : Nat) (v : Option Value) (h : Heap) (L : List Loc) : Prop := v = some (.ref (w 1)) ∧ Fr n0 L ∧ h = h0
set_option maxRecDepth 65536 in
set_option maxHeartbeats 40000000 in
theorem rm_of_00 (l : Launch) (Z : State) (a0 : Array Value) (hw : ∀ d ∈ tables_1, d.before a0 Z = true) (ws : List Jvm.Cond) (a1 : Addr) (a2 : Addr) (k1 : ClassId) (k2 : ClassId) (q1 : Int64) (q2 : Int64) (q3 : Int64) (q4 : Int64) (w : Nat → Addr) (h0 : Heap) (n0 : Nat) (O0 : Old Z n0 h0) (W : own_World Z w) (V_a1 : Arv Z h0 a1 k1 .long (2 : Int32) [(.long q1), (.long q2)] (.long (0 : Int64))) (V_a2 : Arv Z h0 a2 k2 .long (2 : Int32) [(.long q3), (.long q4)] (.long (0 : Int64))) (l1 : q1 < q3) (g1 : ¬ (q3 < q1)) (l2 : q2 < q4) (g2 : ¬ (q4 < q2)) :
    MetFree l mY3 (head1 (Jvm.Cond.code mY3 prog_24_method_4_code 5 (some (.object "com/example/shiftweave/shiftweave/engine/Dominance")) :: ws) ({ frames := 1, cells := 0, slots := 0, locals := 14 } : Room)) (fun a U => a = #[(.ref a1), (.ref a2)] ∧ Z.Warmed39 U.vm ∧ U.heap = h0) (fun _ _ _ _ _ => True) (fun _ U o U' => ∃ v L, o = .returned v ∧ Q_of_00 Z a1 a2 k1 k2 q1 q2 q3 q4 w h0 n0 v U'.heap L ∧ FrameEnd U o U' L ({ frames := 1, cells := 0, slots := 0, locals := 14 } : Room).cells ({ frames := 1, cells := 0, slots := 0, locals := 14 } : Room).slots) := by
  refine MetFree.of_bodySF (plainFor_of_name pn_0) hisR ?_
  intro p e s m args below meth c s₁ Bd hml0 hP hK
  obtain ⟨rfl, hZ, hh⟩ := hP
  have hx := Bd.exec
  have hby := Bd.bytes
  have hml : c.maxLocals = 5 := hml0
  have hown : s.vm.findClass "com/example/shiftweave/shiftweave/engine/Dominance" = some m.cls := findClass_of_methodNamed Bd.named
  have hnm := (name_of_methodNamed Bd.named Bd.method).1
  have X0 : Stand p l e ({ frames := 1, cells := 0, slots := 0, locals := 14 } : Room) s m #[(.ref a1), (.ref a2)] below meth c s₁ [] 0 0 := Stand.of_body Bd
  have e0 : s₁.heap = h0 := by rw [← hh, Bd.state]; rfl
  have N0 := Fr.nil n0
  show oG p e below s (Q_of_00 Z a1 a2 k1 k2 q1 q2 q3 q4 w h0 n0) ({ frames := 1, cells := 0, slots := 0, locals := 14 } : Room).cells ({ frames := 1, cells := 0, slots := 0, locals := 14 } : Room).slots _
  refine oS (fun t k => castTop (ef_1_rr m a1 a2) k) ?_
  show oG _ _ _ _ _ _ _ (s₁.setTop (mkF m 0 #[.val (.ref a1), .val (.ref a2), .unset, .unset, .unset] []))
  refine oS (fun t k => XS.aloadN X0.here hx rfl (hb hby d1_0) rfl rfl k) ?_
  obtain ⟨cl1, Ar1, -, Sz1, Ng1, -, -⟩ := id V_a1
  refine oS (S' := (s₁.setTop (mkF m 2 #[.val (.ref a1), .val (.ref a2), .unset, .unset, .unset] [(.int 2)]))) (fun t k => X0.arraylength hx (by rw [e0]; exact Ar1.1) (State.isArrayOf_alike hZ.alike Ar1.2.1) (g := (mkF m 1 #[.val (.ref a1), .val (.ref a2), .unset, .unset, .unset] [(.ref a1)])) rfl rfl (hb hby d1_1) t (by rw [len_of Sz1 Ng1]; exact k)) ?_
  refine oS (fun t k => XS.aloadN X0.here hx rfl (hb hby d1_2) rfl rfl k) ?_
  obtain ⟨cl2, Ar2, -, Sz2, Ng2, -, -⟩ := id V_a2
  refine oS (S' := (s₁.setTop (mkF m 4 #[.val (.ref a1), .val (.ref a2), .unset, .unset, .unset] [(.int 2), (.int 2)]))) (fun t k => X0.arraylength hx (by rw [e0]; exact Ar2.1) (State.isArrayOf_alike hZ.alike Ar2.2.1) (g := (mkF m 3 #[.val (.ref a1), .val (.ref a2), .unset, .unset, .unset] [(.ref a2), (.int 2)])) rfl rfl (hb hby d1_3) t (by rw [len_of Sz2 Ng2]; exact k)) ?_
  obtain ⟨_, _, ⟨T3, L3, k3, n3⟩, -, X3, ⟨Lc3, hQ3, l3, y3, z3⟩, st3⟩ := Jvm.LawKit.callS X0 hx (y := mY1) hown (mvT hZ (oW hw 5 rfl)) (mvT hZ (oW hw 6 rfl)) (mvT hZ (oW hw 3 rfl)) (mvT hZ (oW hw 7 rfl)) (by decide) (backOf (W := 0) (rm_chk l Z a0 hw []   h0 n0 O0  ) hZ (oW hw 7 rfl) (oW hw 3 rfl) (by decide) (by decide)) (g := (mkF m 4 #[.val (.ref a1), .val (.ref a2), .unset, .unset, .unset] [(.int 2), (.int 2)])) rfl (by rw [hml]; rfl) (argsL := [(.int 2), (.int 2)]) (rest := []) (lenOf pd_0 rfl) rfl (by show 2 * 0 + _ ≤ _; exact Nat.le_of_eq rfl) (hb hby d1_4) (fun _ _ => ⟨rfl, e0, (by decide : 0 + 0 ≤ _), (by decide : 0 + 0 ≤ _)⟩)
  dsimp only [Pt.U, Pt.locs, Pt.cells, Pt.slots] at X3 l3 y3 z3 st3 hQ3
  subst l3 y3 z3
  obtain ⟨rfl, Nq3, e3⟩ := hQ3
  have N3 := Fr.app N0 Nq3
  refine oS (fun t k => st3 t k) ?_
  show oG _ _ _ _ _ _ _ (T3.setTop (mkF m 7 #[.val (.ref a1), .val (.ref a2), .unset, .unset, .unset] []))
  try clear st3
  refine oS (fun t k => oIc li_0 X3.here hx rfl (hb hby d1_7) k) ?_
  refine oS (fun t k => XS.istoreN X3.here hx rfl (hb hby d1_8) rfl (l' := #[.val (.ref a1), .val (.ref a2), .val (.int 0), .unset, .unset]) rfl k) ?_
  refine oS (fun t k => oIc li_0 X3.here hx rfl (hb hby d1_9) k) ?_
  refine oS (fun t k => XS.istoreN X3.here hx rfl (hb hby d1_10) rfl (l' := #[.val (.ref a1), .val (.ref a2), .val (.int 0), .val (.int 0), .unset]) rfl k) ?_
  refine oS (fun t k => oIc li_0 X3.here hx rfl (hb hby d1_11) k) ?_
  refine oS (fun t k => XS.istore X3.here hx rfl (hb hby d1_12) rfl (l' := #[.val (.ref a1), .val (.ref a2), .val (.int 0), .val (.int 0), .val (.int 0)]) rfl k) ?_
  refine oS (fun t k => XS.iload X3.here hx rfl (hb hby d1_14) rfl k) ?_
  refine oS (fun t k => XS.aloadN X3.here hx rfl (hb hby d1_16) rfl rfl k) ?_
  obtain ⟨cl4, Ar4, -, Sz4, Ng4, -, -⟩ := id V_a1
  refine oS (S' := (T3.setTop (mkF m 18 #[.val (.ref a1), .val (.ref a2), .val (.int 0), .val (.int 0), .val (.int 0)] [(.int 2), (.int 0)]))) (fun t k => X3.arraylength hx (by rw [e3]; exact Ar4.1) (State.isArrayOf_alike hZ.alike Ar4.2.1) (g := (mkF m 17 #[.val (.ref a1), .val (.ref a2), .val (.int 0), .val (.int 0), .val (.int 0)] [(.ref a1), (.int 0)])) rfl rfl (hb hby d1_17) t (by rw [len_of Sz4 Ng4]; exact k)) ?_
  refine oS (fun t k => XS.icmpNo X3.here hx rfl (hb hby d1_18) rfl (tlt (by decide)).2.1 k) ?_
  show oG _ _ _ _ _ _ _ (T3.setTop (mkF m 21 #[.val (.ref a1), .val (.ref a2), .val (.int 0), .val (.int 0), .val (.int 0)] []))
  refine oS (fun t k => XS.iloadN X3.here hx rfl (hb hby d1_21) rfl k) ?_
  refine oS (fun t k => XS.aloadN X3.here hx rfl (hb hby d1_22) rfl rfl k) ?_
  refine oS (fun t k => XS.iload X3.here hx rfl (hb hby d1_23) rfl k) ?_
  obtain ⟨cl5, Ar5, qk5, Sz5, Ng5, Ha5, Gf5⟩ := id V_a1
  have hin5 : ¬ ((0 : Int32) < 0 ∨ cl5.slots.size ≤ ((0 : Int32)).toNatClampNeg) := (inb_of Sz5 ⟨by decide, by decide⟩)
  have hat5 : cl5.slots[((0 : Int32)).toNatClampNeg]? = some (.long q1) := Ha5.at hin5 rfl
  refine oS (fun t k => X3.laload hx (j := (0 : Int32)) (v := (.long q1)) (by rw [e3]; exact Ar5.1) (State.isArrayOf_alike hZ.alike Ar5.2.1) Ar5.2.2 hin5 hat5 (g := (mkF m 25 #[.val (.ref a1), .val (.ref a2), .val (.int 0), .val (.int 0), .val (.int 0)] [(.int 0), (.ref a1), (.int 0)])) rfl rfl (hb hby d1_25) t k) ?_
  refine oS (fun t k => XS.aloadN X3.here hx rfl (hb hby d1_26) rfl rfl k) ?_
  refine oS (fun t k => XS.iload X3.here hx rfl (hb hby d1_27) rfl k) ?_
  obtain ⟨cl6, Ar6, qk6, Sz6, Ng6, Ha6, Gf6⟩ := id V_a2
  have hin6 : ¬ ((0 : Int32) < 0 ∨ cl6.slots.size ≤ ((0 : Int32)).toNatClampNeg) := (inb_of Sz6 ⟨by decide, by decide⟩)
  have hat6 : cl6.slots[((0 : Int32)).toNatClampNeg]? = some (.long q3) := Ha6.at hin6 rfl
  refine oS (fun t k => X3.laload hx (j := (0 : Int32)) (v := (.long q3)) (by rw [e3]; exact Ar6.1) (State.isArrayOf_alike hZ.alike Ar6.2.1) Ar6.2.2 hin6 hat6 (g := (mkF m 29 #[.val (.ref a1), .val (.ref a2), .val (.int 0), .val (.int 0), .val (.int 0)] [(.int 0), (.ref a2), (.long q1), (.int 0)])) rfl rfl (hb hby d1_29) t k) ?_
  refine oS (fun t k => XS.lcmp X3.here hx rfl (hb hby d1_30) rfl k) ?_
  refine oS (fun t k => XS.ifNo X3.here hx rfl (hb hby d1_31) rfl ((if0 _ _).trans (tlt ((lw_lt q1 q3).mpr l1)).2.1) k) ?_
  refine oS (fun t k => oIc li_1 X3.here hx rfl (hb hby d1_34) k) ?_
  show oG _ _ _ _ _ _ _ (T3.setTop (mkF m 35 #[.val (.ref a1), .val (.ref a2), .val (.int 0), .val (.int 0), .val (.int 0)] [(.int 1), (.int 0)]))
  refine oS (fun t k => XS.goto X3.here hx rfl (pc0 := 35) (pc' := 39) rfl (hb hby d1_35) (by decide) (by decide) k) ?_
  refine oS (S' := (T3.setTop (mkF m 40 #[.val (.ref a1), .val (.ref a2), .val (.int 0), .val (.int 0), .val (.int 0)] [(.int 1)]))) (fun t k => XS.ior X3.here hx rfl (hb hby d1_39) rfl (by rw [show (0 : Int32) ||| (1 : Int32) = (1 : Int32) from by decide]; exact k)) ?_
  refine oS (fun t k => XS.istoreN X3.here hx rfl (hb hby d1_40) rfl (l' := #[.val (.ref a1), .val (.ref a2), .val (.int 1), .val (.int 0), .val (.int 0)]) rfl k) ?_
  refine oS (fun t k => XS.iloadN X3.here hx rfl (hb hby d1_41) rfl k) ?_
  refine oS (fun t k => XS.aloadN X3.here hx rfl (hb hby d1_42) rfl rfl k) ?_
  refine oS (fun t k => XS.iload X3.here hx rfl (hb hby d1_43) rfl k) ?_
  obtain ⟨cl7, Ar7, qk7, Sz7, Ng7, Ha7, Gf7⟩ := id V_a1
  have hin7 : ¬ ((0 : Int32) < 0 ∨ cl7.slots.size ≤ ((0 : Int32)).toNatClampNeg) := (inb_of Sz7 ⟨by decide, by decide⟩)
  have hat7 : cl7.slots[((0 : Int32)).toNatClampNeg]? = some (.long q1) := Ha7.at hin7 rfl
  refine oS (fun t k => X3.laload hx (j := (0 : Int32)) (v := (.long q1)) (by rw [e3]; exact Ar7.1) (State.isArrayOf_alike hZ.alike Ar7.2.1) Ar7.2.2 hin7 hat7 (g := (mkF m 45 #[.val (.ref a1), .val (.ref a2), .val (.int 1), .val (.int 0), .val (.int 0)] [(.int 0), (.ref a1), (.int 0)])) rfl rfl (hb hby d1_45) t k) ?_
  refine oS (fun t k => XS.aloadN X3.here hx rfl (hb hby d1_46) rfl rfl k) ?_
  refine oS (fun t k => XS.iload X3.here hx rfl (hb hby d1_47) rfl k) ?_
  obtain ⟨cl8, Ar8, qk8, Sz8, Ng8, Ha8, Gf8⟩ := id V_a2
  have hin8 : ¬ ((0 : Int32) < 0 ∨ cl8.slots.size ≤ ((0 : Int32)).toNatClampNeg) := (inb_of Sz8 ⟨by decide, by decide⟩)
  have hat8 : cl8.slots[((0 : Int32)).toNatClampNeg]? = some (.long q3) := Ha8.at hin8 rfl
  refine oS (fun t k => X3.laload hx (j := (0 : Int32)) (v := (.long q3)) (by rw [e3]; exact Ar8.1) (State.isArrayOf_alike hZ.alike Ar8.2.1) Ar8.2.2 hin8 hat8 (g := (mkF m 49 #[.val (.ref a1), .val (.ref a2), .val (.int 1), .val (.int 0), .val (.int 0)] [(.int 0), (.ref a2), (.long q1), (.int 0)])) rfl rfl (hb hby d1_49) t k) ?_
  show oG _ _ _ _ _ _ _ (T3.setTop (mkF m 50 #[.val (.ref a1), .val (.ref a2), .val (.int 1), .val (.int 0), .val (.int 0)] [(.long q3), (.long q1), (.int 0)]))
  refine oS (fun t k => XS.lcmp X3.here hx rfl (hb hby d1_50) rfl k) ?_
  refine oS (fun t k => XS.ifYes X3.here hx rfl (pc0 := 51) (pc' := 58) rfl (hb hby d1_51) rfl ((if0 _ _).trans (flt (fun q => g1 ((lw_gt q1 q3).mp q))).2.2.2) (by decide) (by decide) k) ?_
  refine oS (fun t k => oIc li_0 X3.here hx rfl (hb hby d1_58) k) ?_
  refine oS (S' := (T3.setTop (mkF m 60 #[.val (.ref a1), .val (.ref a2), .val (.int 1), .val (.int 0), .val (.int 0)] [(.int 0)]))) (fun t k => XS.ior X3.here hx rfl (hb hby d1_59) rfl (by rw [show (0 : Int32) ||| (0 : Int32) = (0 : Int32) from by decide]; exact k)) ?_
  refine oS (fun t k => XS.istoreN X3.here hx rfl (hb hby d1_60) rfl (l' := #[.val (.ref a1), .val (.ref a2), .val (.int 1), .val (.int 0), .val (.int 0)]) rfl k) ?_
  refine oS (fun t k => XS.iinc X3.here hx rfl (hb hby d1_61) rfl (l' := #[.val (.ref a1), .val (.ref a2), .val (.int 1), .val (.int 0), .val (.int 1)]) rfl k) ?_
  show oG _ _ _ _ _ _ _ (T3.setTop (mkF m 64 #[.val (.ref a1), .val (.ref a2), .val (.int 1), .val (.int 0), .val (.int 1)] []))
  refine oS (fun t k => XS.goto X3.here hx rfl (pc0 := 64) (pc' := 14) rfl (hb hby d1_64) (by decide) (by decide) k) ?_
  refine oS (fun t k => XS.iload X3.here hx rfl (hb hby d1_14) rfl k) ?_
  refine oS (fun t k => XS.aloadN X3.here hx rfl (hb hby d1_16) rfl rfl k) ?_
  obtain ⟨cl9, Ar9, -, Sz9, Ng9, -, -⟩ := id V_a1
  refine oS (S' := (T3.setTop (mkF m 18 #[.val (.ref a1), .val (.ref a2), .val (.int 1), .val (.int 0), .val (.int 1)] [(.int 2), (.int 1)]))) (fun t k => X3.arraylength hx (by rw [e3]; exact Ar9.1) (State.isArrayOf_alike hZ.alike Ar9.2.1) (g := (mkF m 17 #[.val (.ref a1), .val (.ref a2), .val (.int 1), .val (.int 0), .val (.int 1)] [(.ref a1), (.int 1)])) rfl rfl (hb hby d1_17) t (by rw [len_of Sz9 Ng9]; exact k)) ?_
  refine oS (fun t k => XS.icmpNo X3.here hx rfl (hb hby d1_18) rfl (tlt (by decide)).2.1 k) ?_
  refine oS (fun t k => XS.iloadN X3.here hx rfl (hb hby d1_21) rfl k) ?_
  refine oS (fun t k => XS.aloadN X3.here hx rfl (hb hby d1_22) rfl rfl k) ?_
  refine oS (fun t k => XS.iload X3.here hx rfl (hb hby d1_23) rfl k) ?_
  obtain ⟨cl10, Ar10, qk10, Sz10, Ng10, Ha10, Gf10⟩ := id V_a1
  have hin10 : ¬ ((1 : Int32) < 0 ∨ cl10.slots.size ≤ ((1 : Int32)).toNatClampNeg) := (inb_of Sz10 ⟨by decide, by decide⟩)
  have hat10 : cl10.slots[((1 : Int32)).toNatClampNeg]? = some (.long q2) := Ha10.at hin10 rfl
  refine oS (fun t k => X3.laload hx (j := (1 : Int32)) (v := (.long q2)) (by rw [e3]; exact Ar10.1) (State.isArrayOf_alike hZ.alike Ar10.2.1) Ar10.2.2 hin10 hat10 (g := (mkF m 25 #[.val (.ref a1), .val (.ref a2), .val (.int 1), .val (.int 0), .val (.int 1)] [(.int 1), (.ref a1), (.int 1)])) rfl rfl (hb hby d1_25) t k) ?_
  refine oS (fun t k => XS.aloadN X3.here hx rfl (hb hby d1_26) rfl rfl k) ?_
  show oG _ _ _ _ _ _ _ (T3.setTop (mkF m 27 #[.val (.ref a1), .val (.ref a2), .val (.int 1), .val (.int 0), .val (.int 1)] [(.ref a2), (.long q2), (.int 1)]))
  refine oS (fun t k => XS.iload X3.here hx rfl (hb hby d1_27) rfl k) ?_
  obtain ⟨cl11, Ar11, qk11, Sz11, Ng11, Ha11, Gf11⟩ := id V_a2
  have hin11 : ¬ ((1 : Int32) < 0 ∨ cl11.slots.size ≤ ((1 : Int32)).toNatClampNeg) := (inb_of Sz11 ⟨by decide, by decide⟩)
  have hat11 : cl11.slots[((1 : Int32)).toNatClampNeg]? = some (.long q4) := Ha11.at hin11 rfl
  refine oS (fun t k => X3.laload hx (j := (1 : Int32)) (v := (.long q4)) (by rw [e3]; exact Ar11.1) (State.isArrayOf_alike hZ.alike Ar11.2.1) Ar11.2.2 hin11 hat11 (g := (mkF m 29 #[.val (.ref a1), .val (.ref a2), .val (.int 1), .val (.int 0), .val (.int 1)] [(.int 1), (.ref a2), (.long q2), (.int 1)])) rfl rfl (hb hby d1_29) t k) ?_
  refine oS (fun t k => XS.lcmp X3.here hx rfl (hb hby d1_30) rfl k) ?_
  refine oS (fun t k => XS.ifNo X3.here hx rfl (hb hby d1_31) rfl ((if0 _ _).trans (tlt ((lw_lt q2 q4).mpr l2)).2.1) k) ?_
  refine oS (fun t k => oIc li_1 X3.here hx rfl (hb hby d1_34) k) ?_
  refine oS (fun t k => XS.goto X3.here hx rfl (pc0 := 35) (pc' := 39) rfl (hb hby d1_35) (by decide) (by decide) k) ?_
  refine oS (S' := (T3.setTop (mkF m 40 #[.val (.ref a1), .val (.ref a2), .val (.int 1), .val (.int 0), .val (.int 1)] [(.int 1)]))) (fun t k => XS.ior X3.here hx rfl (hb hby d1_39) rfl (by rw [show (1 : Int32) ||| (1 : Int32) = (1 : Int32) from by decide]; exact k)) ?_
  refine oS (fun t k => XS.istoreN X3.here hx rfl (hb hby d1_40) rfl (l' := #[.val (.ref a1), .val (.ref a2), .val (.int 1), .val (.int 0), .val (.int 1)]) rfl k) ?_
  refine oS (fun t k => XS.iloadN X3.here hx rfl (hb hby d1_41) rfl k) ?_
  refine oS (fun t k => XS.aloadN X3.here hx rfl (hb hby d1_42) rfl rfl k) ?_
  show oG _ _ _ _ _ _ _ (T3.setTop (mkF m 43 #[.val (.ref a1), .val (.ref a2), .val (.int 1), .val (.int 0), .val (.int 1)] [(.ref a1), (.int 0)]))
  refine oS (fun t k => XS.iload X3.here hx rfl (hb hby d1_43) rfl k) ?_
  obtain ⟨cl12, Ar12, qk12, Sz12, Ng12, Ha12, Gf12⟩ := id V_a1
  have hin12 : ¬ ((1 : Int32) < 0 ∨ cl12.slots.size ≤ ((1 : Int32)).toNatClampNeg) := (inb_of Sz12 ⟨by decide, by decide⟩)
  have hat12 : cl12.slots[((1 : Int32)).toNatClampNeg]? = some (.long q2) := Ha12.at hin12 rfl
  refine oS (fun t k => X3.laload hx (j := (1 : Int32)) (v := (.long q2)) (by rw [e3]; exact Ar12.1) (State.isArrayOf_alike hZ.alike Ar12.2.1) Ar12.2.2 hin12 hat12 (g := (mkF m 45 #[.val (.ref a1), .val (.ref a2), .val (.int 1), .val (.int 0), .val (.int 1)] [(.int 1), (.ref a1), (.int 0)])) rfl rfl (hb hby d1_45) t k) ?_
  refine oS (fun t k => XS.aloadN X3.here hx rfl (hb hby d1_46) rfl rfl k) ?_
  refine oS (fun t k => XS.iload X3.here hx rfl (hb hby d1_47) rfl k) ?_
  obtain ⟨cl13, Ar13, qk13, Sz13, Ng13, Ha13, Gf13⟩ := id V_a2
  have hin13 : ¬ ((1 : Int32) < 0 ∨ cl13.slots.size ≤ ((1 : Int32)).toNatClampNeg) := (inb_of Sz13 ⟨by decide, by decide⟩)
  have hat13 : cl13.slots[((1 : Int32)).toNatClampNeg]? = some (.long q4) := Ha13.at hin13 rfl
  refine oS (fun t k => X3.laload hx (j := (1 : Int32)) (v := (.long q4)) (by rw [e3]; exact Ar13.1) (State.isArrayOf_alike hZ.alike Ar13.2.1) Ar13.2.2 hin13 hat13 (g := (mkF m 49 #[.val (.ref a1), .val (.ref a2), .val (.int 1), .val (.int 0), .val (.int 1)] [(.int 1), (.ref a2), (.long q2), (.int 0)])) rfl rfl (hb hby d1_49) t k) ?_
  refine oS (fun t k => XS.lcmp X3.here hx rfl (hb hby d1_50) rfl k) ?_
  refine oS (fun t k => XS.ifYes X3.here hx rfl (pc0 := 51) (pc' := 58) rfl (hb hby d1_51) rfl ((if0 _ _).trans (flt (fun q => g2 ((lw_gt q2 q4).mp q))).2.2.2) (by decide) (by decide) k) ?_
  refine oS (fun t k => oIc li_0 X3.here hx rfl (hb hby d1_58) k) ?_
  refine oS (S' := (T3.setTop (mkF m 60 #[.val (.ref a1), .val (.ref a2), .val (.int 1), .val (.int 0), .val (.int 1)] [(.int 0)]))) (fun t k => XS.ior X3.here hx rfl (hb hby d1_59) rfl (by rw [show (0 : Int32) ||| (0 : Int32) = (0 : Int32) from by decide]; exact k)) ?_
  refine oS (fun t k => XS.istoreN X3.here hx rfl (hb hby d1_60) rfl (l' := #[.val (.ref a1), .val (.ref a2), .val (.int 1), .val (.int 0), .val (.int 1)]) rfl k) ?_
  show oG _ _ _ _ _ _ _ (T3.setTop (mkF m 61 #[.val (.ref a1), .val (.ref a2), .val (.int 1), .val (.int 0), .val (.int 1)] []))
  refine oS (fun t k => XS.iinc X3.here hx rfl (hb hby d1_61) rfl (l' := #[.val (.ref a1), .val (.ref a2), .val (.int 1), .val (.int 0), .val (.int 2)]) rfl k) ?_
  show oG _ _ _ _ _ _ _ (T3.setTop (mkF m 64 #[.val (.ref a1), .val (.ref a2), .val (.int 1), .val (.int 0), .val (.int 2)] []))
  refine oS (fun t k => XS.goto X3.here hx rfl (pc0 := 64) (pc' := 14) rfl (hb hby d1_64) (by decide) (by decide) k) ?_
  refine oS (fun t k => XS.iload X3.here hx rfl (hb hby d1_14) rfl k) ?_
  refine oS (fun t k => XS.aloadN X3.here hx rfl (hb hby d1_16) rfl rfl k) ?_
  obtain ⟨cl14, Ar14, -, Sz14, Ng14, -, -⟩ := id V_a1
  refine oS (S' := (T3.setTop (mkF m 18 #[.val (.ref a1), .val (.ref a2), .val (.int 1), .val (.int 0), .val (.int 2)] [(.int 2), (.int 2)]))) (fun t k => X3.arraylength hx (by rw [e3]; exact Ar14.1) (State.isArrayOf_alike hZ.alike Ar14.2.1) (g := (mkF m 17 #[.val (.ref a1), .val (.ref a2), .val (.int 1), .val (.int 0), .val (.int 2)] [(.ref a1), (.int 2)])) rfl rfl (hb hby d1_17) t (by rw [len_of Sz14 Ng14]; exact k)) ?_
  refine oS (fun t k => XS.icmpYes X3.here hx rfl (pc0 := 18) (pc' := 67) rfl (hb hby d1_18) rfl (flt (by decide)).2.1 (by decide) (by decide) k) ?_
  refine oS (fun t k => XS.iloadN X3.here hx rfl (hb hby d1_67) rfl k) ?_
  refine oS (fun t k => XS.iloadN X3.here hx rfl (hb hby d1_68) rfl k) ?_
  obtain ⟨_, _, ⟨T15, L15, k15, n15⟩, -, X15, ⟨Lc15, hQ15, l15, y15, z15⟩, st15⟩ := Jvm.LawKit.callS X3 hx (y := mY0) hown (mvT hZ (oW hw 8 rfl)) (mvT hZ (oW hw 9 rfl)) (mvT hZ (oW hw 3 rfl)) (mvT hZ (oW hw 10 rfl)) (by decide) (backOf (W := 0) (rm_zz_10 l Z a0 hw []  w h0 n0 O0 W ) hZ (oW hw 10 rfl) (oW hw 3 rfl) (by decide) (by decide)) (g := (mkF m 69 #[.val (.ref a1), .val (.ref a2), .val (.int 1), .val (.int 0), .val (.int 2)] [(.int 0), (.int 1)])) rfl (by rw [hml]; rfl) (argsL := [(.int 1), (.int 0)]) (rest := []) (lenOf pd_1 rfl) rfl (by show 2 * 0 + _ ≤ _; exact Nat.le_of_eq rfl) (hb hby d1_69) (fun _ _ => ⟨rfl, e3, (by decide : 0 + 0 ≤ _), (by decide : 0 + 0 ≤ _)⟩)
  dsimp only [Pt.U, Pt.locs, Pt.cells, Pt.slots] at X15 l15 y15 z15 st15 hQ15
  subst l15 y15 z15
  obtain ⟨rfl, Nq15, e15⟩ := hQ15
  have N15 := Fr.app N3 Nq15
  refine oS (fun t k => st15 t k) ?_
  show oG _ _ _ _ _ _ _ (T15.setTop (mkF m 72 #[.val (.ref a1), .val (.ref a2), .val (.int 1), .val (.int 0), .val (.int 2)] [(.ref (w 1))]))
  try clear st15 X3 e3
  exact own_ret (v := some (.ref (w 1))) X15 (fun h => by rw [Bd.returns] at h; cases h) Bd.notSynchronized (fun fs hr => retOut X15 hx (t := (.object "com/example/shiftweave/shiftweave/engine/Dominance")) Bd.returns rfl (Or.inr (Or.inr (Or.inr (Or.inr ⟨rfl, rfl, rfl⟩)))) (hb hby d1_72) hr) (by rw [e15]; exact ⟨rfl, N15, rfl⟩) (by decide) (by decide)
theorem d1_38 : decode prog_24_method_4_code 38 = .ok (.iconst 0, 1) := by decide +kernel
theorem d1_54 : decode prog_24_method_4_code 54 = .ok (.iconst 1, 1) := by decide +kernel
theorem d1_55 : decode prog_24_method_4_code 55 = .ok (.goto 4, 3) := by decide +kernel
def Q_of_01 (Z : State) (a1 : Addr) (a2 : Addr) (k1 : ClassId) (k2 : ClassId) (q1 : Int64) (q2 : Int64) (q3 : Int64) (q4 : Int64) (w : Nat → Addr) (h0 : Heap) (n0 : Nat) (v : Option Value) (h : Heap) (L : List Loc) : Prop := v = some (.ref (w 0)) ∧ Fr n0 L ∧ h = h0
set_option maxRecDepth 65536 in
set_option maxHeartbeats 40000000 in
theorem rm_of_01 (l : Launch) (Z : State) (a0 : Array Value) (hw : ∀ d ∈ tables_1, d.before a0 Z = true) (ws : List Jvm.Cond) (a1 : Addr) (a2 : Addr) (k1 : ClassId) (k2 : ClassId) (q1 : Int64) (q2 : Int64) (q3 : Int64) (q4 : Int64) (w : Nat → Addr) (h0 : Heap) (n0 : Nat) (O0 : Old Z n0 h0) (W : own_World Z w) (V_a1 : Arv Z h0 a1 k1 .long (2 : Int32) [(.long q1), (.long q2)] (.long (0 : Int64))) (V_a2 : Arv Z h0 a2 k2 .long (2 : Int32) [(.long q3), (.long q4)] (.long (0 : Int64))) (l1 : q1 < q3) (g1 : ¬ (q3 < q1)) (l2 : ¬ (q2 < q4)) (g2 : q4 < q2) :
    MetFree l mY3 (head1 (Jvm.Cond.code mY3 prog_24_method_4_code 5 (some (.object "com/example/shiftweave/shiftweave/engine/Dominance")) :: ws) ({ frames := 1, cells := 0, slots := 0, locals := 14 } : Room)) (fun a U => a = #[(.ref a1), (.ref a2)] ∧ Z.Warmed39 U.vm ∧ U.heap = h0) (fun _ _ _ _ _ => True) (fun _ U o U' => ∃ v L, o = .returned v ∧ Q_of_01 Z a1 a2 k1 k2 q1 q2 q3 q4 w h0 n0 v U'.heap L ∧ FrameEnd U o U' L ({ frames := 1, cells := 0, slots := 0, locals := 14 } : Room).cells ({ frames := 1, cells := 0, slots := 0, locals := 14 } : Room).slots) := by
  refine MetFree.of_bodySF (plainFor_of_name pn_0) hisR ?_
  intro p e s m args below meth c s₁ Bd hml0 hP hK
  obtain ⟨rfl, hZ, hh⟩ := hP
  have hx := Bd.exec
  have hby := Bd.bytes
  have hml : c.maxLocals = 5 := hml0
  have hown : s.vm.findClass "com/example/shiftweave/shiftweave/engine/Dominance" = some m.cls := findClass_of_methodNamed Bd.named
  have hnm := (name_of_methodNamed Bd.named Bd.method).1
  have X0 : Stand p l e ({ frames := 1, cells := 0, slots := 0, locals := 14 } : Room) s m #[(.ref a1), (.ref a2)] below meth c s₁ [] 0 0 := Stand.of_body Bd
  have e0 : s₁.heap = h0 := by rw [← hh, Bd.state]; rfl
  have N0 := Fr.nil n0
  show oG p e below s (Q_of_01 Z a1 a2 k1 k2 q1 q2 q3 q4 w h0 n0) ({ frames := 1, cells := 0, slots := 0, locals := 14 } : Room).cells ({ frames := 1, cells := 0, slots := 0, locals := 14 } : Room).slots _
  refine oS (fun t k => castTop (ef_1_rr m a1 a2) k) ?_
  show oG _ _ _ _ _ _ _ (s₁.setTop (mkF m 0 #[.val (.ref a1), .val (.ref a2), .unset, .unset, .unset] []))
  refine oS (fun t k => XS.aloadN X0.here hx rfl (hb hby d1_0) rfl rfl k) ?_
  obtain ⟨cl1, Ar1, -, Sz1, Ng1, -, -⟩ := id V_a1
  refine oS (S' := (s₁.setTop (mkF m 2 #[.val (.ref a1), .val (.ref a2), .unset, .unset, .unset] [(.int 2)]))) (fun t k => X0.arraylength hx (by rw [e0]; exact Ar1.1) (State.isArrayOf_alike hZ.alike Ar1.2.1) (g := (mkF m 1 #[.val (.ref a1), .val (.ref a2), .unset, .unset, .unset] [(.ref a1)])) rfl rfl (hb hby d1_1) t (by rw [len_of Sz1 Ng1]; exact k)) ?_
  refine oS (fun t k => XS.aloadN X0.here hx rfl (hb hby d1_2) rfl rfl k) ?_
  obtain ⟨cl2, Ar2, -, Sz2, Ng2, -, -⟩ := id V_a2
  refine oS (S' := (s₁.setTop (mkF m 4 #[.val (.ref a1), .val (.ref a2), .unset, .unset, .unset] [(.int 2), (.int 2)]))) (fun t k => X0.arraylength hx (by rw [e0]; exact Ar2.1) (State.isArrayOf_alike hZ.alike Ar2.2.1) (g := (mkF m 3 #[.val (.ref a1), .val (.ref a2), .unset, .unset, .unset] [(.ref a2), (.int 2)])) rfl rfl (hb hby d1_3) t (by rw [len_of Sz2 Ng2]; exact k)) ?_
  obtain ⟨_, _, ⟨T3, L3, k3, n3⟩, -, X3, ⟨Lc3, hQ3, l3, y3, z3⟩, st3⟩ := Jvm.LawKit.callS X0 hx (y := mY1) hown (mvT hZ (oW hw 5 rfl)) (mvT hZ (oW hw 6 rfl)) (mvT hZ (oW hw 3 rfl)) (mvT hZ (oW hw 7 rfl)) (by decide) (backOf (W := 0) (rm_chk l Z a0 hw []   h0 n0 O0  ) hZ (oW hw 7 rfl) (oW hw 3 rfl) (by decide) (by decide)) (g := (mkF m 4 #[.val (.ref a1), .val (.ref a2), .unset, .unset, .unset] [(.int 2), (.int 2)])) rfl (by rw [hml]; rfl) (argsL := [(.int 2), (.int 2)]) (rest := []) (lenOf pd_0 rfl) rfl (by show 2 * 0 + _ ≤ _; exact Nat.le_of_eq rfl) (hb hby d1_4) (fun _ _ => ⟨rfl, e0, (by decide : 0 + 0 ≤ _), (by decide : 0 + 0 ≤ _)⟩)
  dsimp only [Pt.U, Pt.locs, Pt.cells, Pt.slots] at X3 l3 y3 z3 st3 hQ3
  subst l3 y3 z3
  obtain ⟨rfl, Nq3, e3⟩ := hQ3
  have N3 := Fr.app N0 Nq3
  refine oS (fun t k => st3 t k) ?_
  show oG _ _ _ _ _ _ _ (T3.setTop (mkF m 7 #[.val (.ref a1), .val (.ref a2), .unset, .unset, .unset] []))
  try clear st3
  refine oS (fun t k => oIc li_0 X3.here hx rfl (hb hby d1_7) k) ?_
  refine oS (fun t k => XS.istoreN X3.here hx rfl (hb hby d1_8) rfl (l' := #[.val (.ref a1), .val (.ref a2), .val (.int 0), .unset, .unset]) rfl k) ?_
  refine oS (fun t k => oIc li_0 X3.here hx rfl (hb hby d1_9) k) ?_
  refine oS (fun t k => XS.istoreN X3.here hx rfl (hb hby d1_10) rfl (l' := #[.val (.ref a1), .val (.ref a2), .val (.int 0), .val (.int 0), .unset]) rfl k) ?_
  refine oS (fun t k => oIc li_0 X3.here hx rfl (hb hby d1_11) k) ?_
  refine oS (fun t k => XS.istore X3.here hx rfl (hb hby d1_12) rfl (l' := #[.val (.ref a1), .val (.ref a2), .val (.int 0), .val (.int 0), .val (.int 0)]) rfl k) ?_
  refine oS (fun t k => XS.iload X3.here hx rfl (hb hby d1_14) rfl k) ?_
  refine oS (fun t k => XS.aloadN X3.here hx rfl (hb hby d1_16) rfl rfl k) ?_
  obtain ⟨cl4, Ar4, -, Sz4, Ng4, -, -⟩ := id V_a1
  refine oS (S' := (T3.setTop (mkF m 18 #[.val (.ref a1), .val (.ref a2), .val (.int 0), .val (.int 0), .val (.int 0)] [(.int 2), (.int 0)]))) (fun t k => X3.arraylength hx (by rw [e3]; exact Ar4.1) (State.isArrayOf_alike hZ.alike Ar4.2.1) (g := (mkF m 17 #[.val (.ref a1), .val (.ref a2), .val (.int 0), .val (.int 0), .val (.int 0)] [(.ref a1), (.int 0)])) rfl rfl (hb hby d1_17) t (by rw [len_of Sz4 Ng4]; exact k)) ?_
  refine oS (fun t k => XS.icmpNo X3.here hx rfl (hb hby d1_18) rfl (tlt (by decide)).2.1 k) ?_
  show oG _ _ _ _ _ _ _ (T3.setTop (mkF m 21 #[.val (.ref a1), .val (.ref a2), .val (.int 0), .val (.int 0), .val (.int 0)] []))
  refine oS (fun t k => XS.iloadN X3.here hx rfl (hb hby d1_21) rfl k) ?_
  refine oS (fun t k => XS.aloadN X3.here hx rfl (hb hby d1_22) rfl rfl k) ?_
  refine oS (fun t k => XS.iload X3.here hx rfl (hb hby d1_23) rfl k) ?_
  obtain ⟨cl5, Ar5, qk5, Sz5, Ng5, Ha5, Gf5⟩ := id V_a1
  have hin5 : ¬ ((0 : Int32) < 0 ∨ cl5.slots.size ≤ ((0 : Int32)).toNatClampNeg) := (inb_of Sz5 ⟨by decide, by decide⟩)
  have hat5 : cl5.slots[((0 : Int32)).toNatClampNeg]? = some (.long q1) := Ha5.at hin5 rfl
  refine oS (fun t k => X3.laload hx (j := (0 : Int32)) (v := (.long q1)) (by rw [e3]; exact Ar5.1) (State.isArrayOf_alike hZ.alike Ar5.2.1) Ar5.2.2 hin5 hat5 (g := (mkF m 25 #[.val (.ref a1), .val (.ref a2), .val (.int 0), .val (.int 0), .val (.int 0)] [(.int 0), (.ref a1), (.int 0)])) rfl rfl (hb hby d1_25) t k) ?_
  refine oS (fun t k => XS.aloadN X3.here hx rfl (hb hby d1_26) rfl rfl k) ?_
  refine oS (fun t k => XS.iload X3.here hx rfl (hb hby d1_27) rfl k) ?_
  obtain ⟨cl6, Ar6, qk6, Sz6, Ng6, Ha6, Gf6⟩ := id V_a2
  have hin6 : ¬ ((0 : Int32) < 0 ∨ cl6.slots.size ≤ ((0 : Int32)).toNatClampNeg) := (inb_of Sz6 ⟨by decide, by decide⟩)
  have hat6 : cl6.slots[((0 : Int32)).toNatClampNeg]? = some (.long q3) := Ha6.at hin6 rfl
  refine oS (fun t k => X3.laload hx (j := (0 : Int32)) (v := (.long q3)) (by rw [e3]; exact Ar6.1) (State.isArrayOf_alike hZ.alike Ar6.2.1) Ar6.2.2 hin6 hat6 (g := (mkF m 29 #[.val (.ref a1), .val (.ref a2), .val (.int 0), .val (.int 0), .val (.int 0)] [(.int 0), (.ref a2), (.long q1), (.int 0)])) rfl rfl (hb hby d1_29) t k) ?_
  refine oS (fun t k => XS.lcmp X3.here hx rfl (hb hby d1_30) rfl k) ?_
  refine oS (fun t k => XS.ifNo X3.here hx rfl (hb hby d1_31) rfl ((if0 _ _).trans (tlt ((lw_lt q1 q3).mpr l1)).2.1) k) ?_
  refine oS (fun t k => oIc li_1 X3.here hx rfl (hb hby d1_34) k) ?_
  show oG _ _ _ _ _ _ _ (T3.setTop (mkF m 35 #[.val (.ref a1), .val (.ref a2), .val (.int 0), .val (.int 0), .val (.int 0)] [(.int 1), (.int 0)]))
  refine oS (fun t k => XS.goto X3.here hx rfl (pc0 := 35) (pc' := 39) rfl (hb hby d1_35) (by decide) (by decide) k) ?_
  refine oS (S' := (T3.setTop (mkF m 40 #[.val (.ref a1), .val (.ref a2), .val (.int 0), .val (.int 0), .val (.int 0)] [(.int 1)]))) (fun t k => XS.ior X3.here hx rfl (hb hby d1_39) rfl (by rw [show (0 : Int32) ||| (1 : Int32) = (1 : Int32) from by decide]; exact k)) ?_
  refine oS (fun t k => XS.istoreN X3.here hx rfl (hb hby d1_40) rfl (l' := #[.val (.ref a1), .val (.ref a2), .val (.int 1), .val (.int 0), .val (.int 0)]) rfl k) ?_
  refine oS (fun t k => XS.iloadN X3.here hx rfl (hb hby d1_41) rfl k) ?_
  refine oS (fun t k => XS.aloadN X3.here hx rfl (hb hby d1_42) rfl rfl k) ?_
  refine oS (fun t k => XS.iload X3.here hx rfl (hb hby d1_43) rfl k) ?_
  obtain ⟨cl7, Ar7, qk7, Sz7, Ng7, Ha7, Gf7⟩ := id V_a1
  have hin7 : ¬ ((0 : Int32) < 0 ∨ cl7.slots.size ≤ ((0 : Int32)).toNatClampNeg) := (inb_of Sz7 ⟨by decide, by decide⟩)
  have hat7 : cl7.slots[((0 : Int32)).toNatClampNeg]? = some (.long q1) := Ha7.at hin7 rfl
  refine oS (fun t k => X3.laload hx (j := (0 : Int32)) (v := (.long q1)) (by rw [e3]; exact Ar7.1) (State.isArrayOf_alike hZ.alike Ar7.2.1) Ar7.2.2 hin7 hat7 (g := (mkF m 45 #[.val (.ref a1), .val (.ref a2), .val (.int 1), .val (.int 0), .val (.int 0)] [(.int 0), (.ref a1), (.int 0)])) rfl rfl (hb hby d1_45) t k) ?_
  refine oS (fun t k => XS.aloadN X3.here hx rfl (hb hby d1_46) rfl rfl k) ?_
  refine oS (fun t k => XS.iload X3.here hx rfl (hb hby d1_47) rfl k) ?_
  obtain ⟨cl8, Ar8, qk8, Sz8, Ng8, Ha8, Gf8⟩ := id V_a2
  have hin8 : ¬ ((0 : Int32) < 0 ∨ cl8.slots.size ≤ ((0 : Int32)).toNatClampNeg) := (inb_of Sz8 ⟨by decide, by decide⟩)
  have hat8 : cl8.slots[((0 : Int32)).toNatClampNeg]? = some (.long q3) := Ha8.at hin8 rfl
  refine oS (fun t k => X3.laload hx (j := (0 : Int32)) (v := (.long q3)) (by rw [e3]; exact Ar8.1) (State.isArrayOf_alike hZ.alike Ar8.2.1) Ar8.2.2 hin8 hat8 (g := (mkF m 49 #[.val (.ref a1), .val (.ref a2), .val (.int 1), .val (.int 0), .val (.int 0)] [(.int 0), (.ref a2), (.long q1), (.int 0)])) rfl rfl (hb hby d1_49) t k) ?_
  show oG _ _ _ _ _ _ _ (T3.setTop (mkF m 50 #[.val (.ref a1), .val (.ref a2), .val (.int 1), .val (.int 0), .val (.int 0)] [(.long q3), (.long q1), (.int 0)]))
  refine oS (fun t k => XS.lcmp X3.here hx rfl (hb hby d1_50) rfl k) ?_
  refine oS (fun t k => XS.ifYes X3.here hx rfl (pc0 := 51) (pc' := 58) rfl (hb hby d1_51) rfl ((if0 _ _).trans (flt (fun q => g1 ((lw_gt q1 q3).mp q))).2.2.2) (by decide) (by decide) k) ?_
  refine oS (fun t k => oIc li_0 X3.here hx rfl (hb hby d1_58) k) ?_
  refine oS (S' := (T3.setTop (mkF m 60 #[.val (.ref a1), .val (.ref a2), .val (.int 1), .val (.int 0), .val (.int 0)] [(.int 0)]))) (fun t k => XS.ior X3.here hx rfl (hb hby d1_59) rfl (by rw [show (0 : Int32) ||| (0 : Int32) = (0 : Int32) from by decide]; exact k)) ?_
  refine oS (fun t k => XS.istoreN X3.here hx rfl (hb hby d1_60) rfl (l' := #[.val (.ref a1), .val (.ref a2), .val (.int 1), .val (.int 0), .val (.int 0)]) rfl k) ?_
  refine oS (fun t k => XS.iinc X3.here hx rfl (hb hby d1_61) rfl (l' := #[.val (.ref a1), .val (.ref a2), .val (.int 1), .val (.int 0), .val (.int 1)]) rfl k) ?_
  show oG _ _ _ _ _ _ _ (T3.setTop (mkF m 64 #[.val (.ref a1), .val (.ref a2), .val (.int 1), .val (.int 0), .val (.int 1)] []))
  refine oS (fun t k => XS.goto X3.here hx rfl (pc0 := 64) (pc' := 14) rfl (hb hby d1_64) (by decide) (by decide) k) ?_
  refine oS (fun t k => XS.iload X3.here hx rfl (hb hby d1_14) rfl k) ?_
  refine oS (fun t k => XS.aloadN X3.here hx rfl (hb hby d1_16) rfl rfl k) ?_
  obtain ⟨cl9, Ar9, -, Sz9, Ng9, -, -⟩ := id V_a1
  refine oS (S' := (T3.setTop (mkF m 18 #[.val (.ref a1), .val (.ref a2), .val (.int 1), .val (.int 0), .val (.int 1)] [(.int 2), (.int 1)]))) (fun t k => X3.arraylength hx (by rw [e3]; exact Ar9.1) (State.isArrayOf_alike hZ.alike Ar9.2.1) (g := (mkF m 17 #[.val (.ref a1), .val (.ref a2), .val (.int 1), .val (.int 0), .val (.int 1)] [(.ref a1), (.int 1)])) rfl rfl (hb hby d1_17) t (by rw [len_of Sz9 Ng9]; exact k)) ?_
  refine oS (fun t k => XS.icmpNo X3.here hx rfl (hb hby d1_18) rfl (tlt (by decide)).2.1 k) ?_
  refine oS (fun t k => XS.iloadN X3.here hx rfl (hb hby d1_21) rfl k) ?_
  refine oS (fun t k => XS.aloadN X3.here hx rfl (hb hby d1_22) rfl rfl k) ?_
  refine oS (fun t k => XS.iload X3.here hx rfl (hb hby d1_23) rfl k) ?_
  obtain ⟨cl10, Ar10, qk10, Sz10, Ng10, Ha10, Gf10⟩ := id V_a1
  have hin10 : ¬ ((1 : Int32) < 0 ∨ cl10.slots.size ≤ ((1 : Int32)).toNatClampNeg) := (inb_of Sz10 ⟨by decide, by decide⟩)
  have hat10 : cl10.slots[((1 : Int32)).toNatClampNeg]? = some (.long q2) := Ha10.at hin10 rfl
  refine oS (fun t k => X3.laload hx (j := (1 : Int32)) (v := (.long q2)) (by rw [e3]; exact Ar10.1) (State.isArrayOf_alike hZ.alike Ar10.2.1) Ar10.2.2 hin10 hat10 (g := (mkF m 25 #[.val (.ref a1), .val (.ref a2), .val (.int 1), .val (.int 0), .val (.int 1)] [(.int 1), (.ref a1), (.int 1)])) rfl rfl (hb hby d1_25) t k) ?_
  refine oS (fun t k => XS.aloadN X3.here hx rfl (hb hby d1_26) rfl rfl k) ?_
  show oG _ _ _ _ _ _ _ (T3.setTop (mkF m 27 #[.val (.ref a1), .val (.ref a2), .val (.int 1), .val (.int 0), .val (.int 1)] [(.ref a2), (.long q2), (.int 1)]))
  refine oS (fun t k => XS.iload X3.here hx rfl (hb hby d1_27) rfl k) ?_
  obtain ⟨cl11, Ar11, qk11, Sz11, Ng11, Ha11, Gf11⟩ := id V_a2
  have hin11 : ¬ ((1 : Int32) < 0 ∨ cl11.slots.size ≤ ((1 : Int32)).toNatClampNeg) := (inb_of Sz11 ⟨by decide, by decide⟩)
  have hat11 : cl11.slots[((1 : Int32)).toNatClampNeg]? = some (.long q4) := Ha11.at hin11 rfl
  refine oS (fun t k => X3.laload hx (j := (1 : Int32)) (v := (.long q4)) (by rw [e3]; exact Ar11.1) (State.isArrayOf_alike hZ.alike Ar11.2.1) Ar11.2.2 hin11 hat11 (g := (mkF m 29 #[.val (.ref a1), .val (.ref a2), .val (.int 1), .val (.int 0), .val (.int 1)] [(.int 1), (.ref a2), (.long q2), (.int 1)])) rfl rfl (hb hby d1_29) t k) ?_
  refine oS (fun t k => XS.lcmp X3.here hx rfl (hb hby d1_30) rfl k) ?_
  refine oS (fun t k => XS.ifYes X3.here hx rfl (pc0 := 31) (pc' := 38) rfl (hb hby d1_31) rfl ((if0 _ _).trans (flt (fun q => l2 ((lw_lt q2 q4).mp q))).2.1) (by decide) (by decide) k) ?_
  refine oS (fun t k => oIc li_0 X3.here hx rfl (hb hby d1_38) k) ?_
  refine oS (S' := (T3.setTop (mkF m 40 #[.val (.ref a1), .val (.ref a2), .val (.int 1), .val (.int 0), .val (.int 1)] [(.int 1)]))) (fun t k => XS.ior X3.here hx rfl (hb hby d1_39) rfl (by rw [show (1 : Int32) ||| (0 : Int32) = (1 : Int32) from by decide]; exact k)) ?_
  refine oS (fun t k => XS.istoreN X3.here hx rfl (hb hby d1_40) rfl (l' := #[.val (.ref a1), .val (.ref a2), .val (.int 1), .val (.int 0), .val (.int 1)]) rfl k) ?_
  refine oS (fun t k => XS.iloadN X3.here hx rfl (hb hby d1_41) rfl k) ?_
  refine oS (fun t k => XS.aloadN X3.here hx rfl (hb hby d1_42) rfl rfl k) ?_
  refine oS (fun t k => XS.iload X3.here hx rfl (hb hby d1_43) rfl k) ?_
  show oG _ _ _ _ _ _ _ (T3.setTop (mkF m 45 #[.val (.ref a1), .val (.ref a2), .val (.int 1), .val (.int 0), .val (.int 1)] [(.int 1), (.ref a1), (.int 0)]))
  obtain ⟨cl12, Ar12, qk12, Sz12, Ng12, Ha12, Gf12⟩ := id V_a1
  have hin12 : ¬ ((1 : Int32) < 0 ∨ cl12.slots.size ≤ ((1 : Int32)).toNatClampNeg) := (inb_of Sz12 ⟨by decide, by decide⟩)
  have hat12 : cl12.slots[((1 : Int32)).toNatClampNeg]? = some (.long q2) := Ha12.at hin12 rfl
  refine oS (fun t k => X3.laload hx (j := (1 : Int32)) (v := (.long q2)) (by rw [e3]; exact Ar12.1) (State.isArrayOf_alike hZ.alike Ar12.2.1) Ar12.2.2 hin12 hat12 (g := (mkF m 45 #[.val (.ref a1), .val (.ref a2), .val (.int 1), .val (.int 0), .val (.int 1)] [(.int 1), (.ref a1), (.int 0)])) rfl rfl (hb hby d1_45) t k) ?_
  refine oS (fun t k => XS.aloadN X3.here hx rfl (hb hby d1_46) rfl rfl k) ?_
  refine oS (fun t k => XS.iload X3.here hx rfl (hb hby d1_47) rfl k) ?_
  obtain ⟨cl13, Ar13, qk13, Sz13, Ng13, Ha13, Gf13⟩ := id V_a2
  have hin13 : ¬ ((1 : Int32) < 0 ∨ cl13.slots.size ≤ ((1 : Int32)).toNatClampNeg) := (inb_of Sz13 ⟨by decide, by decide⟩)
  have hat13 : cl13.slots[((1 : Int32)).toNatClampNeg]? = some (.long q4) := Ha13.at hin13 rfl
  refine oS (fun t k => X3.laload hx (j := (1 : Int32)) (v := (.long q4)) (by rw [e3]; exact Ar13.1) (State.isArrayOf_alike hZ.alike Ar13.2.1) Ar13.2.2 hin13 hat13 (g := (mkF m 49 #[.val (.ref a1), .val (.ref a2), .val (.int 1), .val (.int 0), .val (.int 1)] [(.int 1), (.ref a2), (.long q2), (.int 0)])) rfl rfl (hb hby d1_49) t k) ?_
  refine oS (fun t k => XS.lcmp X3.here hx rfl (hb hby d1_50) rfl k) ?_
  refine oS (fun t k => XS.ifNo X3.here hx rfl (hb hby d1_51) rfl ((if0 _ _).trans (tlt ((lw_gt q2 q4).mpr g2)).2.2.2) k) ?_
  refine oS (fun t k => oIc li_1 X3.here hx rfl (hb hby d1_54) k) ?_
  refine oS (fun t k => XS.goto X3.here hx rfl (pc0 := 55) (pc' := 59) rfl (hb hby d1_55) (by decide) (by decide) k) ?_
  refine oS (S' := (T3.setTop (mkF m 60 #[.val (.ref a1), .val (.ref a2), .val (.int 1), .val (.int 0), .val (.int 1)] [(.int 1)]))) (fun t k => XS.ior X3.here hx rfl (hb hby d1_59) rfl (by rw [show (0 : Int32) ||| (1 : Int32) = (1 : Int32) from by decide]; exact k)) ?_
  refine oS (fun t k => XS.istoreN X3.here hx rfl (hb hby d1_60) rfl (l' := #[.val (.ref a1), .val (.ref a2), .val (.int 1), .val (.int 1), .val (.int 1)]) rfl k) ?_
  show oG _ _ _ _ _ _ _ (T3.setTop (mkF m 61 #[.val (.ref a1), .val (.ref a2), .val (.int 1), .val (.int 1), .val (.int 1)] []))
  refine oS (fun t k => XS.iinc X3.here hx rfl (hb hby d1_61) rfl (l' := #[.val (.ref a1), .val (.ref a2), .val (.int 1), .val (.int 1), .val (.int 2)]) rfl k) ?_
  show oG _ _ _ _ _ _ _ (T3.setTop (mkF m 64 #[.val (.ref a1), .val (.ref a2), .val (.int 1), .val (.int 1), .val (.int 2)] []))
  refine oS (fun t k => XS.goto X3.here hx rfl (pc0 := 64) (pc' := 14) rfl (hb hby d1_64) (by decide) (by decide) k) ?_
  refine oS (fun t k => XS.iload X3.here hx rfl (hb hby d1_14) rfl k) ?_
  refine oS (fun t k => XS.aloadN X3.here hx rfl (hb hby d1_16) rfl rfl k) ?_
  obtain ⟨cl14, Ar14, -, Sz14, Ng14, -, -⟩ := id V_a1
  refine oS (S' := (T3.setTop (mkF m 18 #[.val (.ref a1), .val (.ref a2), .val (.int 1), .val (.int 1), .val (.int 2)] [(.int 2), (.int 2)]))) (fun t k => X3.arraylength hx (by rw [e3]; exact Ar14.1) (State.isArrayOf_alike hZ.alike Ar14.2.1) (g := (mkF m 17 #[.val (.ref a1), .val (.ref a2), .val (.int 1), .val (.int 1), .val (.int 2)] [(.ref a1), (.int 2)])) rfl rfl (hb hby d1_17) t (by rw [len_of Sz14 Ng14]; exact k)) ?_
  refine oS (fun t k => XS.icmpYes X3.here hx rfl (pc0 := 18) (pc' := 67) rfl (hb hby d1_18) rfl (flt (by decide)).2.1 (by decide) (by decide) k) ?_
  refine oS (fun t k => XS.iloadN X3.here hx rfl (hb hby d1_67) rfl k) ?_
  refine oS (fun t k => XS.iloadN X3.here hx rfl (hb hby d1_68) rfl k) ?_
  obtain ⟨_, _, ⟨T15, L15, k15, n15⟩, -, X15, ⟨Lc15, hQ15, l15, y15, z15⟩, st15⟩ := Jvm.LawKit.callS X3 hx (y := mY0) hown (mvT hZ (oW hw 8 rfl)) (mvT hZ (oW hw 9 rfl)) (mvT hZ (oW hw 3 rfl)) (mvT hZ (oW hw 10 rfl)) (by decide) (backOf (W := 0) (rm_zz_11 l Z a0 hw []  w h0 n0 O0 W ) hZ (oW hw 10 rfl) (oW hw 3 rfl) (by decide) (by decide)) (g := (mkF m 69 #[.val (.ref a1), .val (.ref a2), .val (.int 1), .val (.int 1), .val (.int 2)] [(.int 1), (.int 1)])) rfl (by rw [hml]; rfl) (argsL := [(.int 1), (.int 1)]) (rest := []) (lenOf pd_1 rfl) rfl (by show 2 * 0 + _ ≤ _; exact Nat.le_of_eq rfl) (hb hby d1_69) (fun _ _ => ⟨rfl, e3, (by decide : 0 + 0 ≤ _), (by decide : 0 + 0 ≤ _)⟩)
  dsimp only [Pt.U, Pt.locs, Pt.cells, Pt.slots] at X15 l15 y15 z15 st15 hQ15
  subst l15 y15 z15
  obtain ⟨rfl, Nq15, e15⟩ := hQ15
  have N15 := Fr.app N3 Nq15
  refine oS (fun t k => st15 t k) ?_
  show oG _ _ _ _ _ _ _ (T15.setTop (mkF m 72 #[.val (.ref a1), .val (.ref a2), .val (.int 1), .val (.int 1), .val (.int 2)] [(.ref (w 0))]))
  try clear st15 X3 e3
  exact own_ret (v := some (.ref (w 0))) X15 (fun h => by rw [Bd.returns] at h; cases h) Bd.notSynchronized (fun fs hr => retOut X15 hx (t := (.object "com/example/shiftweave/shiftweave/engine/Dominance")) Bd.returns rfl (Or.inr (Or.inr (Or.inr (Or.inr ⟨rfl, rfl, rfl⟩)))) (hb hby d1_72) hr) (by rw [e15]; exact ⟨rfl, N15, rfl⟩) (by decide) (by decide)
def Q_of_02 (Z : State) (a1 : Addr) (a2 : Addr) (k1 : ClassId) (k2 : ClassId) (q1 : Int64) (q2 : Int64) (q3 : Int64) (q4 : Int64) (w : Nat → Addr) (h0 : Heap) (n0 : Nat) (v : Option Value) (h : Heap) (L : List Loc) : Prop := v = some (.ref (w 1)) ∧ Fr n0 L ∧ h = h0
set_option maxRecDepth 65536 in
set_option maxHeartbeats 40000000 in
theorem rm_of_02 (l : Launch) (Z : State) (a0 : Array Value) (hw : ∀ d ∈ tables_1, d.before a0 Z = true) (ws : List Jvm.Cond) (a1 : Addr) (a2 : Addr) (k1 : ClassId) (k2 : ClassId) (q1 : Int64) (q2 : Int64) (q3 : Int64) (q4 : Int64) (w : Nat → Addr) (h0 : Heap) (n0 : Nat) (O0 : Old Z n0 h0) (W : own_World Z w) (V_a1 : Arv Z h0 a1 k1 .long (2 : Int32) [(.long q1), (.long q2)] (.long (0 : Int64))) (V_a2 : Arv Z h0 a2 k2 .long (2 : Int32) [(.long q3), (.long q4)] (.long (0 : Int64))) (l1 : q1 < q3) (g1 : ¬ (q3 < q1)) (l2 : ¬ (q2 < q4)) (g2 : ¬ (q4 < q2)) :
    MetFree l mY3 (head1 (Jvm.Cond.code mY3 prog_24_method_4_code 5 (some (.object "com/example/shiftweave/shiftweave/engine/Dominance")) :: ws) ({ frames := 1, cells := 0, slots := 0, locals := 14 } : Room)) (fun a U => a = #[(.ref a1), (.ref a2)] ∧ Z.Warmed39 U.vm ∧ U.heap = h0) (fun _ _ _ _ _ => True) (fun _ U o U' => ∃ v L, o = .returned v ∧ Q_of_02 Z a1 a2 k1 k2 q1 q2 q3 q4 w h0 n0 v U'.heap L ∧ FrameEnd U o U' L ({ frames := 1, cells := 0, slots := 0, locals := 14 } : Room).cells ({ frames := 1, cells := 0, slots := 0, locals := 14 } : Room).slots) := by
  refine MetFree.of_bodySF (plainFor_of_name pn_0) hisR ?_
  intro p e s m args below meth c s₁ Bd hml0 hP hK
  obtain ⟨rfl, hZ, hh⟩ := hP
  have hx := Bd.exec
  have hby := Bd.bytes
  have hml : c.maxLocals = 5 := hml0
  have hown : s.vm.findClass "com/example/shiftweave/shiftweave/engine/Dominance" = some m.cls := findClass_of_methodNamed Bd.named
  have hnm := (name_of_methodNamed Bd.named Bd.method).1
  have X0 : Stand p l e ({ frames := 1, cells := 0, slots := 0, locals := 14 } : Room) s m #[(.ref a1), (.ref a2)] below meth c s₁ [] 0 0 := Stand.of_body Bd
  have e0 : s₁.heap = h0 := by rw [← hh, Bd.state]; rfl
  have N0 := Fr.nil n0
  show oG p e below s (Q_of_02 Z a1 a2 k1 k2 q1 q2 q3 q4 w h0 n0) ({ frames := 1, cells := 0, slots := 0, locals := 14 } : Room).cells ({ frames := 1, cells := 0, slots := 0, locals := 14 } : Room).slots _
  refine oS (fun t k => castTop (ef_1_rr m a1 a2) k) ?_
  show oG _ _ _ _ _ _ _ (s₁.setTop (mkF m 0 #[.val (.ref a1), .val (.ref a2), .unset, .unset, .unset] []))
  refine oS (fun t k => XS.aloadN X0.here hx rfl (hb hby d1_0) rfl rfl k) ?_
  obtain ⟨cl1, Ar1, -, Sz1, Ng1, -, -⟩ := id V_a1
  refine oS (S' := (s₁.setTop (mkF m 2 #[.val (.ref a1), .val (.ref a2), .unset, .unset, .unset] [(.int 2)]))) (fun t k => X0.arraylength hx (by rw [e0]; exact Ar1.1) (State.isArrayOf_alike hZ.alike Ar1.2.1) (g := (mkF m 1 #[.val (.ref a1), .val (.ref a2), .unset, .unset, .unset] [(.ref a1)])) rfl rfl (hb hby d1_1) t (by rw [len_of Sz1 Ng1]; exact k)) ?_
  refine oS (fun t k => XS.aloadN X0.here hx rfl (hb hby d1_2) rfl rfl k) ?_
  obtain ⟨cl2, Ar2, -, Sz2, Ng2, -, -⟩ := id V_a2
  refine oS (S' := (s₁.setTop (mkF m 4 #[.val (.ref a1), .val (.ref a2), .unset, .unset, .unset] [(.int 2), (.int 2)]))) (fun t k => X0.arraylength hx (by rw [e0]; exact Ar2.1) (State.isArrayOf_alike hZ.alike Ar2.2.1) (g := (mkF m 3 #[.val (.ref a1), .val (.ref a2), .unset, .unset, .unset] [(.ref a2), (.int 2)])) rfl rfl (hb hby d1_3) t (by rw [len_of Sz2 Ng2]; exact k)) ?_
  obtain ⟨_, _, ⟨T3, L3, k3, n3⟩, -, X3, ⟨Lc3, hQ3, l3, y3, z3⟩, st3⟩ := Jvm.LawKit.callS X0 hx (y := mY1) hown (mvT hZ (oW hw 5 rfl)) (mvT hZ (oW hw 6 rfl)) (mvT hZ (oW hw 3 rfl)) (mvT hZ (oW hw 7 rfl)) (by decide) (backOf (W := 0) (rm_chk l Z a0 hw []   h0 n0 O0  ) hZ (oW hw 7 rfl) (oW hw 3 rfl) (by decide) (by decide)) (g := (mkF m 4 #[.val (.ref a1), .val (.ref a2), .unset, .unset, .unset] [(.int 2), (.int 2)])) rfl (by rw [hml]; rfl) (argsL := [(.int 2), (.int 2)]) (rest := []) (lenOf pd_0 rfl) rfl (by show 2 * 0 + _ ≤ _; exact Nat.le_of_eq rfl) (hb hby d1_4) (fun _ _ => ⟨rfl, e0, (by decide : 0 + 0 ≤ _), (by decide : 0 + 0 ≤ _)⟩)
  dsimp only [Pt.U, Pt.locs, Pt.cells, Pt.slots] at X3 l3 y3 z3 st3 hQ3
  subst l3 y3 z3
  obtain ⟨rfl, Nq3, e3⟩ := hQ3
  have N3 := Fr.app N0 Nq3
  refine oS (fun t k => st3 t k) ?_
  show oG _ _ _ _ _ _ _ (T3.setTop (mkF m 7 #[.val (.ref a1), .val (.ref a2), .unset, .unset, .unset] []))
  try clear st3
  refine oS (fun t k => oIc li_0 X3.here hx rfl (hb hby d1_7) k) ?_
  refine oS (fun t k => XS.istoreN X3.here hx rfl (hb hby d1_8) rfl (l' := #[.val (.ref a1), .val (.ref a2), .val (.int 0), .unset, .unset]) rfl k) ?_
  refine oS (fun t k => oIc li_0 X3.here hx rfl (hb hby d1_9) k) ?_
  refine oS (fun t k => XS.istoreN X3.here hx rfl (hb hby d1_10) rfl (l' := #[.val (.ref a1), .val (.ref a2), .val (.int 0), .val (.int 0), .unset]) rfl k) ?_
  refine oS (fun t k => oIc li_0 X3.here hx rfl (hb hby d1_11) k) ?_
  refine oS (fun t k => XS.istore X3.here hx rfl (hb hby d1_12) rfl (l' := #[.val (.ref a1), .val (.ref a2), .val (.int 0), .val (.int 0), .val (.int 0)]) rfl k) ?_
  refine oS (fun t k => XS.iload X3.here hx rfl (hb hby d1_14) rfl k) ?_
  refine oS (fun t k => XS.aloadN X3.here hx rfl (hb hby d1_16) rfl rfl k) ?_
  obtain ⟨cl4, Ar4, -, Sz4, Ng4, -, -⟩ := id V_a1
  refine oS (S' := (T3.setTop (mkF m 18 #[.val (.ref a1), .val (.ref a2), .val (.int 0), .val (.int 0), .val (.int 0)] [(.int 2), (.int 0)]))) (fun t k => X3.arraylength hx (by rw [e3]; exact Ar4.1) (State.isArrayOf_alike hZ.alike Ar4.2.1) (g := (mkF m 17 #[.val (.ref a1), .val (.ref a2), .val (.int 0), .val (.int 0), .val (.int 0)] [(.ref a1), (.int 0)])) rfl rfl (hb hby d1_17) t (by rw [len_of Sz4 Ng4]; exact k)) ?_
  refine oS (fun t k => XS.icmpNo X3.here hx rfl (hb hby d1_18) rfl (tlt (by decide)).2.1 k) ?_
  show oG _ _ _ _ _ _ _ (T3.setTop (mkF m 21 #[.val (.ref a1), .val (.ref a2), .val (.int 0), .val (.int 0), .val (.int 0)] []))
  refine oS (fun t k => XS.iloadN X3.here hx rfl (hb hby d1_21) rfl k) ?_
  refine oS (fun t k => XS.aloadN X3.here hx rfl (hb hby d1_22) rfl rfl k) ?_
  refine oS (fun t k => XS.iload X3.here hx rfl (hb hby d1_23) rfl k) ?_
  obtain ⟨cl5, Ar5, qk5, Sz5, Ng5, Ha5, Gf5⟩ := id V_a1
  have hin5 : ¬ ((0 : Int32) < 0 ∨ cl5.slots.size ≤ ((0 : Int32)).toNatClampNeg) := (inb_of Sz5 ⟨by decide, by decide⟩)
  have hat5 : cl5.slots[((0 : Int32)).toNatClampNeg]? = some (.long q1) := Ha5.at hin5 rfl
  refine oS (fun t k => X3.laload hx (j := (0 : Int32)) (v := (.long q1)) (by rw [e3]; exact Ar5.1) (State.isArrayOf_alike hZ.alike Ar5.2.1) Ar5.2.2 hin5 hat5 (g := (mkF m 25 #[.val (.ref a1), .val (.ref a2), .val (.int 0), .val (.int 0), .val (.int 0)] [(.int 0), (.ref a1), (.int 0)])) rfl rfl (hb hby d1_25) t k) ?_
  refine oS (fun t k => XS.aloadN X3.here hx rfl (hb hby d1_26) rfl rfl k) ?_
  refine oS (fun t k => XS.iload X3.here hx rfl (hb hby d1_27) rfl k) ?_
  obtain ⟨cl6, Ar6, qk6, Sz6, Ng6, Ha6, Gf6⟩ := id V_a2
  have hin6 : ¬ ((0 : Int32) < 0 ∨ cl6.slots.size ≤ ((0 : Int32)).toNatClampNeg) := (inb_of Sz6 ⟨by decide, by decide⟩)
  have hat6 : cl6.slots[((0 : Int32)).toNatClampNeg]? = some (.long q3) := Ha6.at hin6 rfl
  refine oS (fun t k => X3.laload hx (j := (0 : Int32)) (v := (.long q3)) (by rw [e3]; exact Ar6.1) (State.isArrayOf_alike hZ.alike Ar6.2.1) Ar6.2.2 hin6 hat6 (g := (mkF m 29 #[.val (.ref a1), .val (.ref a2), .val (.int 0), .val (.int 0), .val (.int 0)] [(.int 0), (.ref a2), (.long q1), (.int 0)])) rfl rfl (hb hby d1_29) t k) ?_
  refine oS (fun t k => XS.lcmp X3.here hx rfl (hb hby d1_30) rfl k) ?_
  refine oS (fun t k => XS.ifNo X3.here hx rfl (hb hby d1_31) rfl ((if0 _ _).trans (tlt ((lw_lt q1 q3).mpr l1)).2.1) k) ?_
  refine oS (fun t k => oIc li_1 X3.here hx rfl (hb hby d1_34) k) ?_
  show oG _ _ _ _ _ _ _ (T3.setTop (mkF m 35 #[.val (.ref a1), .val (.ref a2), .val (.int 0), .val (.int 0), .val (.int 0)] [(.int 1), (.int 0)]))
  refine oS (fun t k => XS.goto X3.here hx rfl (pc0 := 35) (pc' := 39) rfl (hb hby d1_35) (by decide) (by decide) k) ?_
  refine oS (S' := (T3.setTop (mkF m 40 #[.val (.ref a1), .val (.ref a2), .val (.int 0), .val (.int 0), .val (.int 0)] [(.int 1)]))) (fun t k => XS.ior X3.here hx rfl (hb hby d1_39) rfl (by rw [show (0 : Int32) ||| (1 : Int32) = (1 : Int32) from by decide]; exact k)) ?_
  refine oS (fun t k => XS.istoreN X3.here hx rfl (hb hby d1_40) rfl (l' := #[.val (.ref a1), .val (.ref a2), .val (.int 1), .val (.int 0), .val (.int 0)]) rfl k) ?_
  refine oS (fun t k => XS.iloadN X3.here hx rfl (hb hby d1_41) rfl k) ?_
  refine oS (fun t k => XS.aloadN X3.here hx rfl (hb hby d1_42) rfl rfl k) ?_
  refine oS (fun t k => XS.iload X3.here hx rfl (hb hby d1_43) rfl k) ?_
  obtain ⟨cl7, Ar7, qk7, Sz7, Ng7, Ha7, Gf7⟩ := id V_a1
  have hin7 : ¬ ((0 : Int32) < 0 ∨ cl7.slots.size ≤ ((0 : Int32)).toNatClampNeg) := (inb_of Sz7 ⟨by decide, by decide⟩)
  have hat7 : cl7.slots[((0 : Int32)).toNatClampNeg]? = some (.long q1) := Ha7.at hin7 rfl
  refine oS (fun t k => X3.laload hx (j := (0 : Int32)) (v := (.long q1)) (by rw [e3]; exact Ar7.1) (State.isArrayOf_alike hZ.alike Ar7.2.1) Ar7.2.2 hin7 hat7 (g := (mkF m 45 #[.val (.ref a1), .val (.ref a2), .val (.int 1), .val (.int 0), .val (.int 0)] [(.int 0), (.ref a1), (.int 0)])) rfl rfl (hb hby d1_45) t k) ?_
  refine oS (fun t k => XS.aloadN X3.here hx rfl (hb hby d1_46) rfl rfl k) ?_
  refine oS (fun t k => XS.iload X3.here hx rfl (hb hby d1_47) rfl k) ?_
  obtain ⟨cl8, Ar8, qk8, Sz8, Ng8, Ha8, Gf8⟩ := id V_a2
  have hin8 : ¬ ((0 : Int32) < 0 ∨ cl8.slots.size ≤ ((0 : Int32)).toNatClampNeg) := (inb_of Sz8 ⟨by decide, by decide⟩)
  have hat8 : cl8.slots[((0 : Int32)).toNatClampNeg]? = some (.long q3) := Ha8.at hin8 rfl
  refine oS (fun t k => X3.laload hx (j := (0 : Int32)) (v := (.long q3)) (by rw [e3]; exact Ar8.1) (State.isArrayOf_alike hZ.alike Ar8.2.1) Ar8.2.2 hin8 hat8 (g := (mkF m 49 #[.val (.ref a1), .val (.ref a2), .val (.int 1), .val (.int 0), .val (.int 0)] [(.int 0), (.ref a2), (.long q1), (.int 0)])) rfl rfl (hb hby d1_49) t k) ?_
  show oG _ _ _ _ _ _ _ (T3.setTop (mkF m 50 #[.val (.ref a1), .val (.ref a2), .val (.int 1), .val (.int 0), .val (.int 0)] [(.long q3), (.long q1), (.int 0)]))
  refine oS (fun t k => XS.lcmp X3.here hx rfl (hb hby d1_50) rfl k) ?_
  refine oS (fun t k => XS.ifYes X3.here hx rfl (pc0 := 51) (pc' := 58) rfl (hb hby d1_51) rfl ((if0 _ _).trans (flt (fun q => g1 ((lw_gt q1 q3).mp q))).2.2.2) (by decide) (by decide) k) ?_
  refine oS (fun t k => oIc li_0 X3.here hx rfl (hb hby d1_58) k) ?_
  refine oS (S' := (T3.setTop (mkF m 60 #[.val (.ref a1), .val (.ref a2), .val (.int 1), .val (.int 0), .val (.int 0)] [(.int 0)]))) (fun t k => XS.ior X3.here hx rfl (hb hby d1_59) rfl (by rw [show (0 : Int32) ||| (0 : Int32) = (0 : Int32) from by decide]; exact k)) ?_
  refine oS (fun t k => XS.istoreN X3.here hx rfl (hb hby d1_60) rfl (l' := #[.val (.ref a1), .val (.ref a2), .val (.int 1), .val (.int 0), .val (.int 0)]) rfl k) ?_
  refine oS (fun t k => XS.iinc X3.here hx rfl (hb hby d1_61) rfl (l' := #[.val (.ref a1), .val (.ref a2), .val (.int 1), .val (.int 0), .val (.int 1)]) rfl k) ?_
  show oG _ _ _ _ _ _ _ (T3.setTop (mkF m 64 #[.val (.ref a1), .val (.ref a2), .val (.int 1), .val (.int 0), .val (.int 1)] []))
  refine oS (fun t k => XS.goto X3.here hx rfl (pc0 := 64) (pc' := 14) rfl (hb hby d1_64) (by decide) (by decide) k) ?_
  refine oS (fun t k => XS.iload X3.here hx rfl (hb hby d1_14) rfl k) ?_
  refine oS (fun t k => XS.aloadN X3.here hx rfl (hb hby d1_16) rfl rfl k) ?_
  obtain ⟨cl9, Ar9, -, Sz9, Ng9, -, -⟩ := id V_a1
  refine oS (S' := (T3.setTop (mkF m 18 #[.val (.ref a1), .val (.ref a2), .val (.int 1), .val (.int 0), .val (.int 1)] [(.int 2), (.int 1)]))) (fun t k => X3.arraylength hx (by rw [e3]; exact Ar9.1) (State.isArrayOf_alike hZ.alike Ar9.2.1) (g := (mkF m 17 #[.val (.ref a1), .val (.ref a2), .val (.int 1), .val (.int 0), .val (.int 1)] [(.ref a1), (.int 1)])) rfl rfl (hb hby d1_17) t (by rw [len_of Sz9 Ng9]; exact k)) ?_
  refine oS (fun t k => XS.icmpNo X3.here hx rfl (hb hby d1_18) rfl (tlt (by decide)).2.1 k) ?_
  refine oS (fun t k => XS.iloadN X3.here hx rfl (hb hby d1_21) rfl k) ?_
  refine oS (fun t k => XS.aloadN X3.here hx rfl (hb hby d1_22) rfl rfl k) ?_
  refine oS (fun t k => XS.iload X3.here hx rfl (hb hby d1_23) rfl k) ?_
  obtain ⟨cl10, Ar10, qk10, Sz10, Ng10, Ha10, Gf10⟩ := id V_a1
  have hin10 : ¬ ((1 : Int32) < 0 ∨ cl10.slots.size ≤ ((1 : Int32)).toNatClampNeg) := (inb_of Sz10 ⟨by decide, by decide⟩)
  have hat10 : cl10.slots[((1 : Int32)).toNatClampNeg]? = some (.long q2) := Ha10.at hin10 rfl
  refine oS (fun t k => X3.laload hx (j := (1 : Int32)) (v := (.long q2)) (by rw [e3]; exact Ar10.1) (State.isArrayOf_alike hZ.alike Ar10.2.1) Ar10.2.2 hin10 hat10 (g := (mkF m 25 #[.val (.ref a1), .val (.ref a2), .val (.int 1), .val (.int 0), .val (.int 1)] [(.int 1), (.ref a1), (.int 1)])) rfl rfl (hb hby d1_25) t k) ?_
  refine oS (fun t k => XS.aloadN X3.here hx rfl (hb hby d1_26) rfl rfl k) ?_
  show oG _ _ _ _ _ _ _ (T3.setTop (mkF m 27 #[.val (.ref a1), .val (.ref a2), .val (.int 1), .val (.int 0), .val (.int 1)] [(.ref a2), (.long q2), (.int 1)]))
  refine oS (fun t k => XS.iload X3.here hx rfl (hb hby d1_27) rfl k) ?_
  obtain ⟨cl11, Ar11, qk11, Sz11, Ng11, Ha11, Gf11⟩ := id V_a2
  have hin11 : ¬ ((1 : Int32) < 0 ∨ cl11.slots.size ≤ ((1 : Int32)).toNatClampNeg) := (inb_of Sz11 ⟨by decide, by decide⟩)
  have hat11 : cl11.slots[((1 : Int32)).toNatClampNeg]? = some (.long q4) := Ha11.at hin11 rfl
  refine oS (fun t k => X3.laload hx (j := (1 : Int32)) (v := (.long q4)) (by rw [e3]; exact Ar11.1) (State.isArrayOf_alike hZ.alike Ar11.2.1) Ar11.2.2 hin11 hat11 (g := (mkF m 29 #[.val (.ref a1), .val (.ref a2), .val (.int 1), .val (.int 0), .val (.int 1)] [(.int 1), (.ref a2), (.long q2), (.int 1)])) rfl rfl (hb hby d1_29) t k) ?_
  refine oS (fun t k => XS.lcmp X3.here hx rfl (hb hby d1_30) rfl k) ?_
  refine oS (fun t k => XS.ifYes X3.here hx rfl (pc0 := 31) (pc' := 38) rfl (hb hby d1_31) rfl ((if0 _ _).trans (flt (fun q => l2 ((lw_lt q2 q4).mp q))).2.1) (by decide) (by decide) k) ?_
  refine oS (fun t k => oIc li_0 X3.here hx rfl (hb hby d1_38) k) ?_
  refine oS (S' := (T3.setTop (mkF m 40 #[.val (.ref a1), .val (.ref a2), .val (.int 1), .val (.int 0), .val (.int 1)] [(.int 1)]))) (fun t k => XS.ior X3.here hx rfl (hb hby d1_39) rfl (by rw [show (1 : Int32) ||| (0 : Int32) = (1 : Int32) from by decide]; exact k)) ?_
  refine oS (fun t k => XS.istoreN X3.here hx rfl (hb hby d1_40) rfl (l' := #[.val (.ref a1), .val (.ref a2), .val (.int 1), .val (.int 0), .val (.int 1)]) rfl k) ?_
  refine oS (fun t k => XS.iloadN X3.here hx rfl (hb hby d1_41) rfl k) ?_
  refine oS (fun t k => XS.aloadN X3.here hx rfl (hb hby d1_42) rfl rfl k) ?_
  refine oS (fun t k => XS.iload X3.here hx rfl (hb hby d1_43) rfl k) ?_
  show oG _ _ _ _ _ _ _ (T3.setTop (mkF m 45 #[.val (.ref a1), .val (.ref a2), .val (.int 1), .val (.int 0), .val (.int 1)] [(.int 1), (.ref a1), (.int 0)]))
  obtain ⟨cl12, Ar12, qk12, Sz12, Ng12, Ha12, Gf12⟩ := id V_a1
  have hin12 : ¬ ((1 : Int32) < 0 ∨ cl12.slots.size ≤ ((1 : Int32)).toNatClampNeg) := (inb_of Sz12 ⟨by decide, by decide⟩)
  have hat12 : cl12.slots[((1 : Int32)).toNatClampNeg]? = some (.long q2) := Ha12.at hin12 rfl
  refine oS (fun t k => X3.laload hx (j := (1 : Int32)) (v := (.long q2)) (by rw [e3]; exact Ar12.1) (State.isArrayOf_alike hZ.alike Ar12.2.1) Ar12.2.2 hin12 hat12 (g := (mkF m 45 #[.val (.ref a1), .val (.ref a2), .val (.int 1), .val (.int 0), .val (.int 1)] [(.int 1), (.ref a1), (.int 0)])) rfl rfl (hb hby d1_45) t k) ?_
  refine oS (fun t k => XS.aloadN X3.here hx rfl (hb hby d1_46) rfl rfl k) ?_
  refine oS (fun t k => XS.iload X3.here hx rfl (hb hby d1_47) rfl k) ?_
  obtain ⟨cl13, Ar13, qk13, Sz13, Ng13, Ha13, Gf13⟩ := id V_a2
  have hin13 : ¬ ((1 : Int32) < 0 ∨ cl13.slots.size ≤ ((1 : Int32)).toNatClampNeg) := (inb_of Sz13 ⟨by decide, by decide⟩)
  have hat13 : cl13.slots[((1 : Int32)).toNatClampNeg]? = some (.long q4) := Ha13.at hin13 rfl
  refine oS (fun t k => X3.laload hx (j := (1 : Int32)) (v := (.long q4)) (by rw [e3]; exact Ar13.1) (State.isArrayOf_alike hZ.alike Ar13.2.1) Ar13.2.2 hin13 hat13 (g := (mkF m 49 #[.val (.ref a1), .val (.ref a2), .val (.int 1), .val (.int 0), .val (.int 1)] [(.int 1), (.ref a2), (.long q2), (.int 0)])) rfl rfl (hb hby d1_49) t k) ?_
  refine oS (fun t k => XS.lcmp X3.here hx rfl (hb hby d1_50) rfl k) ?_
  refine oS (fun t k => XS.ifYes X3.here hx rfl (pc0 := 51) (pc' := 58) rfl (hb hby d1_51) rfl ((if0 _ _).trans (flt (fun q => g2 ((lw_gt q2 q4).mp q))).2.2.2) (by decide) (by decide) k) ?_
  refine oS (fun t k => oIc li_0 X3.here hx rfl (hb hby d1_58) k) ?_
  refine oS (S' := (T3.setTop (mkF m 60 #[.val (.ref a1), .val (.ref a2), .val (.int 1), .val (.int 0), .val (.int 1)] [(.int 0)]))) (fun t k => XS.ior X3.here hx rfl (hb hby d1_59) rfl (by rw [show (0 : Int32) ||| (0 : Int32) = (0 : Int32) from by decide]; exact k)) ?_
  refine oS (fun t k => XS.istoreN X3.here hx rfl (hb hby d1_60) rfl (l' := #[.val (.ref a1), .val (.ref a2), .val (.int 1), .val (.int 0), .val (.int 1)]) rfl k) ?_
  refine oS (fun t k => XS.iinc X3.here hx rfl (hb hby d1_61) rfl (l' := #[.val (.ref a1), .val (.ref a2), .val (.int 1), .val (.int 0), .val (.int 2)]) rfl k) ?_
  show oG _ _ _ _ _ _ _ (T3.setTop (mkF m 64 #[.val (.ref a1), .val (.ref a2), .val (.int 1), .val (.int 0), .val (.int 2)] []))
  refine oS (fun t k => XS.goto X3.here hx rfl (pc0 := 64) (pc' := 14) rfl (hb hby d1_64) (by decide) (by decide) k) ?_
  refine oS (fun t k => XS.iload X3.here hx rfl (hb hby d1_14) rfl k) ?_
  refine oS (fun t k => XS.aloadN X3.here hx rfl (hb hby d1_16) rfl rfl k) ?_
  obtain ⟨cl14, Ar14, -, Sz14, Ng14, -, -⟩ := id V_a1
  refine oS (S' := (T3.setTop (mkF m 18 #[.val (.ref a1), .val (.ref a2), .val (.int 1), .val (.int 0), .val (.int 2)] [(.int 2), (.int 2)]))) (fun t k => X3.arraylength hx (by rw [e3]; exact Ar14.1) (State.isArrayOf_alike hZ.alike Ar14.2.1) (g := (mkF m 17 #[.val (.ref a1), .val (.ref a2), .val (.int 1), .val (.int 0), .val (.int 2)] [(.ref a1), (.int 2)])) rfl rfl (hb hby d1_17) t (by rw [len_of Sz14 Ng14]; exact k)) ?_
  refine oS (fun t k => XS.icmpYes X3.here hx rfl (pc0 := 18) (pc' := 67) rfl (hb hby d1_18) rfl (flt (by decide)).2.1 (by decide) (by decide) k) ?_
  refine oS (fun t k => XS.iloadN X3.here hx rfl (hb hby d1_67) rfl k) ?_
  refine oS (fun t k => XS.iloadN X3.here hx rfl (hb hby d1_68) rfl k) ?_
  obtain ⟨_, _, ⟨T15, L15, k15, n15⟩, -, X15, ⟨Lc15, hQ15, l15, y15, z15⟩, st15⟩ := Jvm.LawKit.callS X3 hx (y := mY0) hown (mvT hZ (oW hw 8 rfl)) (mvT hZ (oW hw 9 rfl)) (mvT hZ (oW hw 3 rfl)) (mvT hZ (oW hw 10 rfl)) (by decide) (backOf (W := 0) (rm_zz_10 l Z a0 hw []  w h0 n0 O0 W ) hZ (oW hw 10 rfl) (oW hw 3 rfl) (by decide) (by decide)) (g := (mkF m 69 #[.val (.ref a1), .val (.ref a2), .val (.int 1), .val (.int 0), .val (.int 2)] [(.int 0), (.int 1)])) rfl (by rw [hml]; rfl) (argsL := [(.int 1), (.int 0)]) (rest := []) (lenOf pd_1 rfl) rfl (by show 2 * 0 + _ ≤ _; exact Nat.le_of_eq rfl) (hb hby d1_69) (fun _ _ => ⟨rfl, e3, (by decide : 0 + 0 ≤ _), (by decide : 0 + 0 ≤ _)⟩)
  dsimp only [Pt.U, Pt.locs, Pt.cells, Pt.slots] at X15 l15 y15 z15 st15 hQ15
  subst l15 y15 z15
  obtain ⟨rfl, Nq15, e15⟩ := hQ15
  have N15 := Fr.app N3 Nq15
  refine oS (fun t k => st15 t k) ?_
  show oG _ _ _ _ _ _ _ (T15.setTop (mkF m 72 #[.val (.ref a1), .val (.ref a2), .val (.int 1), .val (.int 0), .val (.int 2)] [(.ref (w 1))]))
  try clear st15 X3 e3
  exact own_ret (v := some (.ref (w 1))) X15 (fun h => by rw [Bd.returns] at h; cases h) Bd.notSynchronized (fun fs hr => retOut X15 hx (t := (.object "com/example/shiftweave/shiftweave/engine/Dominance")) Bd.returns rfl (Or.inr (Or.inr (Or.inr (Or.inr ⟨rfl, rfl, rfl⟩)))) (hb hby d1_72) hr) (by rw [e15]; exact ⟨rfl, N15, rfl⟩) (by decide) (by decide)
def Q_of_10 (Z : State) (a1 : Addr) (a2 : Addr) (k1 : ClassId) (k2 : ClassId) (q1 : Int64) (q2 : Int64) (q3 : Int64) (q4 : Int64) (w : Nat → Addr) (h0 : Heap) (n0 : Nat) (v : Option Value) (h : Heap) (L : List Loc) : Prop := v = some (.ref (w 0)) ∧ Fr n0 L ∧ h = h0
set_option maxRecDepth 65536 in
set_option maxHeartbeats 40000000 in
theorem rm_of_10 (l : Launch) (Z : State) (a0 : Array Value) (hw : ∀ d ∈ tables_1, d.before a0 Z = true) (ws : List Jvm.Cond) (a1 : Addr) (a2 : Addr) (k1 : ClassId) (k2 : ClassId) (q1 : Int64) (q2 : Int64) (q3 : Int64) (q4 : Int64) (w : Nat → Addr) (h0 : Heap) (n0 : Nat) (O0 : Old Z n0 h0) (W : own_World Z w) (V_a1 : Arv Z h0 a1 k1 .long (2 : Int32) [(.long q1), (.long q2)] (.long (0 : Int64))) (V_a2 : Arv Z h0 a2 k2 .long (2 : Int32) [(.long q3), (.long q4)] (.long (0 : Int64))) (l1 : ¬ (q1 < q3)) (g1 : q3 < q1) (l2 : q2 < q4) (g2 : ¬ (q4 < q2)) :
    MetFree l mY3 (head1 (Jvm.Cond.code mY3 prog_24_method_4_code 5 (some (.object "com/example/shiftweave/shiftweave/engine/Dominance")) :: ws) ({ frames := 1, cells := 0, slots := 0, locals := 14 } : Room)) (fun a U => a = #[(.ref a1), (.ref a2)] ∧ Z.Warmed39 U.vm ∧ U.heap = h0) (fun _ _ _ _ _ => True) (fun _ U o U' => ∃ v L, o = .returned v ∧ Q_of_10 Z a1 a2 k1 k2 q1 q2 q3 q4 w h0 n0 v U'.heap L ∧ FrameEnd U o U' L ({ frames := 1, cells := 0, slots := 0, locals := 14 } : Room).cells ({ frames := 1, cells := 0, slots := 0, locals := 14 } : Room).slots) := by
  refine MetFree.of_bodySF (plainFor_of_name pn_0) hisR ?_
  intro p e s m args below meth c s₁ Bd hml0 hP hK
  obtain ⟨rfl, hZ, hh⟩ := hP
  have hx := Bd.exec
  have hby := Bd.bytes
  have hml : c.maxLocals = 5 := hml0
  have hown : s.vm.findClass "com/example/shiftweave/shiftweave/engine/Dominance" = some m.cls := findClass_of_methodNamed Bd.named
  have hnm := (name_of_methodNamed Bd.named Bd.method).1
  have X0 : Stand p l e ({ frames := 1, cells := 0, slots := 0, locals := 14 } : Room) s m #[(.ref a1), (.ref a2)] below meth c s₁ [] 0 0 := Stand.of_body Bd
  have e0 : s₁.heap = h0 := by rw [← hh, Bd.state]; rfl
  have N0 := Fr.nil n0
  show oG p e below s (Q_of_10 Z a1 a2 k1 k2 q1 q2 q3 q4 w h0 n0) ({ frames := 1, cells := 0, slots := 0, locals := 14 } : Room).cells ({ frames := 1, cells := 0, slots := 0, locals := 14 } : Room).slots _
  refine oS (fun t k => castTop (ef_1_rr m a1 a2) k) ?_
  show oG _ _ _ _ _ _ _ (s₁.setTop (mkF m 0 #[.val (.ref a1), .val (.ref a2), .unset, .unset, .unset] []))
  refine oS (fun t k => XS.aloadN X0.here hx rfl (hb hby d1_0) rfl rfl k) ?_
  obtain ⟨cl1, Ar1, -, Sz1, Ng1, -, -⟩ := id V_a1
  refine oS (S' := (s₁.setTop (mkF m 2 #[.val (.ref a1), .val (.ref a2), .unset, .unset, .unset] [(.int 2)]))) (fun t k => X0.arraylength hx (by rw [e0]; exact Ar1.1) (State.isArrayOf_alike hZ.alike Ar1.2.1) (g := (mkF m 1 #[.val (.ref a1), .val (.ref a2), .unset, .unset, .unset] [(.ref a1)])) rfl rfl (hb hby d1_1) t (by rw [len_of Sz1 Ng1]; exact k)) ?_
  refine oS (fun t k => XS.aloadN X0.here hx rfl (hb hby d1_2) rfl rfl k) ?_
  obtain ⟨cl2, Ar2, -, Sz2, Ng2, -, -⟩ := id V_a2
  refine oS (S' := (s₁.setTop (mkF m 4 #[.val (.ref a1), .val (.ref a2), .unset, .unset, .unset] [(.int 2), (.int 2)]))) (fun t k => X0.arraylength hx (by rw [e0]; exact Ar2.1) (State.isArrayOf_alike hZ.alike Ar2.2.1) (g := (mkF m 3 #[.val (.ref a1), .val (.ref a2), .unset, .unset, .unset] [(.ref a2), (.int 2)])) rfl rfl (hb hby d1_3) t (by rw [len_of Sz2 Ng2]; exact k)) ?_
  obtain ⟨_, _, ⟨T3, L3, k3, n3⟩, -, X3, ⟨Lc3, hQ3, l3, y3, z3⟩, st3⟩ := Jvm.LawKit.callS X0 hx (y := mY1) hown (mvT hZ (oW hw 5 rfl)) (mvT hZ (oW hw 6 rfl)) (mvT hZ (oW hw 3 rfl)) (mvT hZ (oW hw 7 rfl)) (by decide) (backOf (W := 0) (rm_chk l Z a0 hw []   h0 n0 O0  ) hZ (oW hw 7 rfl) (oW hw 3 rfl) (by decide) (by decide)) (g := (mkF m 4 #[.val (.ref a1), .val (.ref a2), .unset, .unset, .unset] [(.int 2), (.int 2)])) rfl (by rw [hml]; rfl) (argsL := [(.int 2), (.int 2)]) (rest := []) (lenOf pd_0 rfl) rfl (by show 2 * 0 + _ ≤ _; exact Nat.le_of_eq rfl) (hb hby d1_4) (fun _ _ => ⟨rfl, e0, (by decide : 0 + 0 ≤ _), (by decide : 0 + 0 ≤ _)⟩)
  dsimp only [Pt.U, Pt.locs, Pt.cells, Pt.slots] at X3 l3 y3 z3 st3 hQ3
  subst l3 y3 z3
  obtain ⟨rfl, Nq3, e3⟩ := hQ3
  have N3 := Fr.app N0 Nq3
  refine oS (fun t k => st3 t k) ?_
  show oG _ _ _ _ _ _ _ (T3.setTop (mkF m 7 #[.val (.ref a1), .val (.ref a2), .unset, .unset, .unset] []))
  try clear st3
  refine oS (fun t k => oIc li_0 X3.here hx rfl (hb hby d1_7) k) ?_
  refine oS (fun t k => XS.istoreN X3.here hx rfl (hb hby d1_8) rfl (l' := #[.val (.ref a1), .val (.ref a2), .val (.int 0), .unset, .unset]) rfl k) ?_
  refine oS (fun t k => oIc li_0 X3.here hx rfl (hb hby d1_9) k) ?_
  refine oS (fun t k => XS.istoreN X3.here hx rfl (hb hby d1_10) rfl (l' := #[.val (.ref a1), .val (.ref a2), .val (.int 0), .val (.int 0), .unset]) rfl k) ?_
  refine oS (fun t k => oIc li_0 X3.here hx rfl (hb hby d1_11) k) ?_
  refine oS (fun t k => XS.istore X3.here hx rfl (hb hby d1_12) rfl (l' := #[.val (.ref a1), .val (.ref a2), .val (.int 0), .val (.int 0), .val (.int 0)]) rfl k) ?_
  refine oS (fun t k => XS.iload X3.here hx rfl (hb hby d1_14) rfl k) ?_
  refine oS (fun t k => XS.aloadN X3.here hx rfl (hb hby d1_16) rfl rfl k) ?_
  obtain ⟨cl4, Ar4, -, Sz4, Ng4, -, -⟩ := id V_a1
  refine oS (S' := (T3.setTop (mkF m 18 #[.val (.ref a1), .val (.ref a2), .val (.int 0), .val (.int 0), .val (.int 0)] [(.int 2), (.int 0)]))) (fun t k => X3.arraylength hx (by rw [e3]; exact Ar4.1) (State.isArrayOf_alike hZ.alike Ar4.2.1) (g := (mkF m 17 #[.val (.ref a1), .val (.ref a2), .val (.int 0), .val (.int 0), .val (.int 0)] [(.ref a1), (.int 0)])) rfl rfl (hb hby d1_17) t (by rw [len_of Sz4 Ng4]; exact k)) ?_
  refine oS (fun t k => XS.icmpNo X3.here hx rfl (hb hby d1_18) rfl (tlt (by decide)).2.1 k) ?_
  show oG _ _ _ _ _ _ _ (T3.setTop (mkF m 21 #[.val (.ref a1), .val (.ref a2), .val (.int 0), .val (.int 0), .val (.int 0)] []))
  refine oS (fun t k => XS.iloadN X3.here hx rfl (hb hby d1_21) rfl k) ?_
  refine oS (fun t k => XS.aloadN X3.here hx rfl (hb hby d1_22) rfl rfl k) ?_
  refine oS (fun t k => XS.iload X3.here hx rfl (hb hby d1_23) rfl k) ?_
  obtain ⟨cl5, Ar5, qk5, Sz5, Ng5, Ha5, Gf5⟩ := id V_a1
  have hin5 : ¬ ((0 : Int32) < 0 ∨ cl5.slots.size ≤ ((0 : Int32)).toNatClampNeg) := (inb_of Sz5 ⟨by decide, by decide⟩)
  have hat5 : cl5.slots[((0 : Int32)).toNatClampNeg]? = some (.long q1) := Ha5.at hin5 rfl
  refine oS (fun t k => X3.laload hx (j := (0 : Int32)) (v := (.long q1)) (by rw [e3]; exact Ar5.1) (State.isArrayOf_alike hZ.alike Ar5.2.1) Ar5.2.2 hin5 hat5 (g := (mkF m 25 #[.val (.ref a1), .val (.ref a2), .val (.int 0), .val (.int 0), .val (.int 0)] [(.int 0), (.ref a1), (.int 0)])) rfl rfl (hb hby d1_25) t k) ?_
  refine oS (fun t k => XS.aloadN X3.here hx rfl (hb hby d1_26) rfl rfl k) ?_
  refine oS (fun t k => XS.iload X3.here hx rfl (hb hby d1_27) rfl k) ?_
  obtain ⟨cl6, Ar6, qk6, Sz6, Ng6, Ha6, Gf6⟩ := id V_a2
  have hin6 : ¬ ((0 : Int32) < 0 ∨ cl6.slots.size ≤ ((0 : Int32)).toNatClampNeg) := (inb_of Sz6 ⟨by decide, by decide⟩)
  have hat6 : cl6.slots[((0 : Int32)).toNatClampNeg]? = some (.long q3) := Ha6.at hin6 rfl
  refine oS (fun t k => X3.laload hx (j := (0 : Int32)) (v := (.long q3)) (by rw [e3]; exact Ar6.1) (State.isArrayOf_alike hZ.alike Ar6.2.1) Ar6.2.2 hin6 hat6 (g := (mkF m 29 #[.val (.ref a1), .val (.ref a2), .val (.int 0), .val (.int 0), .val (.int 0)] [(.int 0), (.ref a2), (.long q1), (.int 0)])) rfl rfl (hb hby d1_29) t k) ?_
  refine oS (fun t k => XS.lcmp X3.here hx rfl (hb hby d1_30) rfl k) ?_
  refine oS (fun t k => XS.ifYes X3.here hx rfl (pc0 := 31) (pc' := 38) rfl (hb hby d1_31) rfl ((if0 _ _).trans (flt (fun q => l1 ((lw_lt q1 q3).mp q))).2.1) (by decide) (by decide) k) ?_
  refine oS (fun t k => oIc li_0 X3.here hx rfl (hb hby d1_38) k) ?_
  show oG _ _ _ _ _ _ _ (T3.setTop (mkF m 39 #[.val (.ref a1), .val (.ref a2), .val (.int 0), .val (.int 0), .val (.int 0)] [(.int 0), (.int 0)]))
  refine oS (S' := (T3.setTop (mkF m 40 #[.val (.ref a1), .val (.ref a2), .val (.int 0), .val (.int 0), .val (.int 0)] [(.int 0)]))) (fun t k => XS.ior X3.here hx rfl (hb hby d1_39) rfl (by rw [show (0 : Int32) ||| (0 : Int32) = (0 : Int32) from by decide]; exact k)) ?_
  refine oS (fun t k => XS.istoreN X3.here hx rfl (hb hby d1_40) rfl (l' := #[.val (.ref a1), .val (.ref a2), .val (.int 0), .val (.int 0), .val (.int 0)]) rfl k) ?_
  refine oS (fun t k => XS.iloadN X3.here hx rfl (hb hby d1_41) rfl k) ?_
  refine oS (fun t k => XS.aloadN X3.here hx rfl (hb hby d1_42) rfl rfl k) ?_
  refine oS (fun t k => XS.iload X3.here hx rfl (hb hby d1_43) rfl k) ?_
  obtain ⟨cl7, Ar7, qk7, Sz7, Ng7, Ha7, Gf7⟩ := id V_a1
  have hin7 : ¬ ((0 : Int32) < 0 ∨ cl7.slots.size ≤ ((0 : Int32)).toNatClampNeg) := (inb_of Sz7 ⟨by decide, by decide⟩)
  have hat7 : cl7.slots[((0 : Int32)).toNatClampNeg]? = some (.long q1) := Ha7.at hin7 rfl
  refine oS (fun t k => X3.laload hx (j := (0 : Int32)) (v := (.long q1)) (by rw [e3]; exact Ar7.1) (State.isArrayOf_alike hZ.alike Ar7.2.1) Ar7.2.2 hin7 hat7 (g := (mkF m 45 #[.val (.ref a1), .val (.ref a2), .val (.int 0), .val (.int 0), .val (.int 0)] [(.int 0), (.ref a1), (.int 0)])) rfl rfl (hb hby d1_45) t k) ?_
  refine oS (fun t k => XS.aloadN X3.here hx rfl (hb hby d1_46) rfl rfl k) ?_
  refine oS (fun t k => XS.iload X3.here hx rfl (hb hby d1_47) rfl k) ?_
  obtain ⟨cl8, Ar8, qk8, Sz8, Ng8, Ha8, Gf8⟩ := id V_a2
  have hin8 : ¬ ((0 : Int32) < 0 ∨ cl8.slots.size ≤ ((0 : Int32)).toNatClampNeg) := (inb_of Sz8 ⟨by decide, by decide⟩)
  have hat8 : cl8.slots[((0 : Int32)).toNatClampNeg]? = some (.long q3) := Ha8.at hin8 rfl
  refine oS (fun t k => X3.laload hx (j := (0 : Int32)) (v := (.long q3)) (by rw [e3]; exact Ar8.1) (State.isArrayOf_alike hZ.alike Ar8.2.1) Ar8.2.2 hin8 hat8 (g := (mkF m 49 #[.val (.ref a1), .val (.ref a2), .val (.int 0), .val (.int 0), .val (.int 0)] [(.int 0), (.ref a2), (.long q1), (.int 0)])) rfl rfl (hb hby d1_49) t k) ?_
  refine oS (fun t k => XS.lcmp X3.here hx rfl (hb hby d1_50) rfl k) ?_
  show oG _ _ _ _ _ _ _ (T3.setTop (mkF m 51 #[.val (.ref a1), .val (.ref a2), .val (.int 0), .val (.int 0), .val (.int 0)] [(.int (lcmpW q1 q3)), (.int 0)]))
  refine oS (fun t k => XS.ifNo X3.here hx rfl (hb hby d1_51) rfl ((if0 _ _).trans (tlt ((lw_gt q1 q3).mpr g1)).2.2.2) k) ?_
  refine oS (fun t k => oIc li_1 X3.here hx rfl (hb hby d1_54) k) ?_
  refine oS (fun t k => XS.goto X3.here hx rfl (pc0 := 55) (pc' := 59) rfl (hb hby d1_55) (by decide) (by decide) k) ?_
  refine oS (S' := (T3.setTop (mkF m 60 #[.val (.ref a1), .val (.ref a2), .val (.int 0), .val (.int 0), .val (.int 0)] [(.int 1)]))) (fun t k => XS.ior X3.here hx rfl (hb hby d1_59) rfl (by rw [show (0 : Int32) ||| (1 : Int32) = (1 : Int32) from by decide]; exact k)) ?_
  refine oS (fun t k => XS.istoreN X3.here hx rfl (hb hby d1_60) rfl (l' := #[.val (.ref a1), .val (.ref a2), .val (.int 0), .val (.int 1), .val (.int 0)]) rfl k) ?_
  refine oS (fun t k => XS.iinc X3.here hx rfl (hb hby d1_61) rfl (l' := #[.val (.ref a1), .val (.ref a2), .val (.int 0), .val (.int 1), .val (.int 1)]) rfl k) ?_
  show oG _ _ _ _ _ _ _ (T3.setTop (mkF m 64 #[.val (.ref a1), .val (.ref a2), .val (.int 0), .val (.int 1), .val (.int 1)] []))
  refine oS (fun t k => XS.goto X3.here hx rfl (pc0 := 64) (pc' := 14) rfl (hb hby d1_64) (by decide) (by decide) k) ?_
  refine oS (fun t k => XS.iload X3.here hx rfl (hb hby d1_14) rfl k) ?_
  refine oS (fun t k => XS.aloadN X3.here hx rfl (hb hby d1_16) rfl rfl k) ?_
  obtain ⟨cl9, Ar9, -, Sz9, Ng9, -, -⟩ := id V_a1
  refine oS (S' := (T3.setTop (mkF m 18 #[.val (.ref a1), .val (.ref a2), .val (.int 0), .val (.int 1), .val (.int 1)] [(.int 2), (.int 1)]))) (fun t k => X3.arraylength hx (by rw [e3]; exact Ar9.1) (State.isArrayOf_alike hZ.alike Ar9.2.1) (g := (mkF m 17 #[.val (.ref a1), .val (.ref a2), .val (.int 0), .val (.int 1), .val (.int 1)] [(.ref a1), (.int 1)])) rfl rfl (hb hby d1_17) t (by rw [len_of Sz9 Ng9]; exact k)) ?_
  refine oS (fun t k => XS.icmpNo X3.here hx rfl (hb hby d1_18) rfl (tlt (by decide)).2.1 k) ?_
  refine oS (fun t k => XS.iloadN X3.here hx rfl (hb hby d1_21) rfl k) ?_
  refine oS (fun t k => XS.aloadN X3.here hx rfl (hb hby d1_22) rfl rfl k) ?_
  refine oS (fun t k => XS.iload X3.here hx rfl (hb hby d1_23) rfl k) ?_
  obtain ⟨cl10, Ar10, qk10, Sz10, Ng10, Ha10, Gf10⟩ := id V_a1
  have hin10 : ¬ ((1 : Int32) < 0 ∨ cl10.slots.size ≤ ((1 : Int32)).toNatClampNeg) := (inb_of Sz10 ⟨by decide, by decide⟩)
  have hat10 : cl10.slots[((1 : Int32)).toNatClampNeg]? = some (.long q2) := Ha10.at hin10 rfl
  refine oS (fun t k => X3.laload hx (j := (1 : Int32)) (v := (.long q2)) (by rw [e3]; exact Ar10.1) (State.isArrayOf_alike hZ.alike Ar10.2.1) Ar10.2.2 hin10 hat10 (g := (mkF m 25 #[.val (.ref a1), .val (.ref a2), .val (.int 0), .val (.int 1), .val (.int 1)] [(.int 1), (.ref a1), (.int 0)])) rfl rfl (hb hby d1_25) t k) ?_
  refine oS (fun t k => XS.aloadN X3.here hx rfl (hb hby d1_26) rfl rfl k) ?_
  show oG _ _ _ _ _ _ _ (T3.setTop (mkF m 27 #[.val (.ref a1), .val (.ref a2), .val (.int 0), .val (.int 1), .val (.int 1)] [(.ref a2), (.long q2), (.int 0)]))
  refine oS (fun t k => XS.iload X3.here hx rfl (hb hby d1_27) rfl k) ?_
  obtain ⟨cl11, Ar11, qk11, Sz11, Ng11, Ha11, Gf11⟩ := id V_a2
  have hin11 : ¬ ((1 : Int32) < 0 ∨ cl11.slots.size ≤ ((1 : Int32)).toNatClampNeg) := (inb_of Sz11 ⟨by decide, by decide⟩)
  have hat11 : cl11.slots[((1 : Int32)).toNatClampNeg]? = some (.long q4) := Ha11.at hin11 rfl
  refine oS (fun t k => X3.laload hx (j := (1 : Int32)) (v := (.long q4)) (by rw [e3]; exact Ar11.1) (State.isArrayOf_alike hZ.alike Ar11.2.1) Ar11.2.2 hin11 hat11 (g := (mkF m 29 #[.val (.ref a1), .val (.ref a2), .val (.int 0), .val (.int 1), .val (.int 1)] [(.int 1), (.ref a2), (.long q2), (.int 0)])) rfl rfl (hb hby d1_29) t k) ?_
  refine oS (fun t k => XS.lcmp X3.here hx rfl (hb hby d1_30) rfl k) ?_
  refine oS (fun t k => XS.ifNo X3.here hx rfl (hb hby d1_31) rfl ((if0 _ _).trans (tlt ((lw_lt q2 q4).mpr l2)).2.1) k) ?_
  refine oS (fun t k => oIc li_1 X3.here hx rfl (hb hby d1_34) k) ?_
  refine oS (fun t k => XS.goto X3.here hx rfl (pc0 := 35) (pc' := 39) rfl (hb hby d1_35) (by decide) (by decide) k) ?_
  refine oS (S' := (T3.setTop (mkF m 40 #[.val (.ref a1), .val (.ref a2), .val (.int 0), .val (.int 1), .val (.int 1)] [(.int 1)]))) (fun t k => XS.ior X3.here hx rfl (hb hby d1_39) rfl (by rw [show (0 : Int32) ||| (1 : Int32) = (1 : Int32) from by decide]; exact k)) ?_
  refine oS (fun t k => XS.istoreN X3.here hx rfl (hb hby d1_40) rfl (l' := #[.val (.ref a1), .val (.ref a2), .val (.int 1), .val (.int 1), .val (.int 1)]) rfl k) ?_
  refine oS (fun t k => XS.iloadN X3.here hx rfl (hb hby d1_41) rfl k) ?_
  refine oS (fun t k => XS.aloadN X3.here hx rfl (hb hby d1_42) rfl rfl k) ?_
  show oG _ _ _ _ _ _ _ (T3.setTop (mkF m 43 #[.val (.ref a1), .val (.ref a2), .val (.int 1), .val (.int 1), .val (.int 1)] [(.ref a1), (.int 1)]))
  refine oS (fun t k => XS.iload X3.here hx rfl (hb hby d1_43) rfl k) ?_
  obtain ⟨cl12, Ar12, qk12, Sz12, Ng12, Ha12, Gf12⟩ := id V_a1
  have hin12 : ¬ ((1 : Int32) < 0 ∨ cl12.slots.size ≤ ((1 : Int32)).toNatClampNeg) := (inb_of Sz12 ⟨by decide, by decide⟩)
  have hat12 : cl12.slots[((1 : Int32)).toNatClampNeg]? = some (.long q2) := Ha12.at hin12 rfl
  refine oS (fun t k => X3.laload hx (j := (1 : Int32)) (v := (.long q2)) (by rw [e3]; exact Ar12.1) (State.isArrayOf_alike hZ.alike Ar12.2.1) Ar12.2.2 hin12 hat12 (g := (mkF m 45 #[.val (.ref a1), .val (.ref a2), .val (.int 1), .val (.int 1), .val (.int 1)] [(.int 1), (.ref a1), (.int 1)])) rfl rfl (hb hby d1_45) t k) ?_
  refine oS (fun t k => XS.aloadN X3.here hx rfl (hb hby d1_46) rfl rfl k) ?_
  refine oS (fun t k => XS.iload X3.here hx rfl (hb hby d1_47) rfl k) ?_
  obtain ⟨cl13, Ar13, qk13, Sz13, Ng13, Ha13, Gf13⟩ := id V_a2
  have hin13 : ¬ ((1 : Int32) < 0 ∨ cl13.slots.size ≤ ((1 : Int32)).toNatClampNeg) := (inb_of Sz13 ⟨by decide, by decide⟩)
  have hat13 : cl13.slots[((1 : Int32)).toNatClampNeg]? = some (.long q4) := Ha13.at hin13 rfl
  refine oS (fun t k => X3.laload hx (j := (1 : Int32)) (v := (.long q4)) (by rw [e3]; exact Ar13.1) (State.isArrayOf_alike hZ.alike Ar13.2.1) Ar13.2.2 hin13 hat13 (g := (mkF m 49 #[.val (.ref a1), .val (.ref a2), .val (.int 1), .val (.int 1), .val (.int 1)] [(.int 1), (.ref a2), (.long q2), (.int 1)])) rfl rfl (hb hby d1_49) t k) ?_
  refine oS (fun t k => XS.lcmp X3.here hx rfl (hb hby d1_50) rfl k) ?_
  refine oS (fun t k => XS.ifYes X3.here hx rfl (pc0 := 51) (pc' := 58) rfl (hb hby d1_51) rfl ((if0 _ _).trans (flt (fun q => g2 ((lw_gt q2 q4).mp q))).2.2.2) (by decide) (by decide) k) ?_
  refine oS (fun t k => oIc li_0 X3.here hx rfl (hb hby d1_58) k) ?_
  refine oS (S' := (T3.setTop (mkF m 60 #[.val (.ref a1), .val (.ref a2), .val (.int 1), .val (.int 1), .val (.int 1)] [(.int 1)]))) (fun t k => XS.ior X3.here hx rfl (hb hby d1_59) rfl (by rw [show (1 : Int32) ||| (0 : Int32) = (1 : Int32) from by decide]; exact k)) ?_
  refine oS (fun t k => XS.istoreN X3.here hx rfl (hb hby d1_60) rfl (l' := #[.val (.ref a1), .val (.ref a2), .val (.int 1), .val (.int 1), .val (.int 1)]) rfl k) ?_
  show oG _ _ _ _ _ _ _ (T3.setTop (mkF m 61 #[.val (.ref a1), .val (.ref a2), .val (.int 1), .val (.int 1), .val (.int 1)] []))
  refine oS (fun t k => XS.iinc X3.here hx rfl (hb hby d1_61) rfl (l' := #[.val (.ref a1), .val (.ref a2), .val (.int 1), .val (.int 1), .val (.int 2)]) rfl k) ?_
  show oG _ _ _ _ _ _ _ (T3.setTop (mkF m 64 #[.val (.ref a1), .val (.ref a2), .val (.int 1), .val (.int 1), .val (.int 2)] []))
  refine oS (fun t k => XS.goto X3.here hx rfl (pc0 := 64) (pc' := 14) rfl (hb hby d1_64) (by decide) (by decide) k) ?_
  refine oS (fun t k => XS.iload X3.here hx rfl (hb hby d1_14) rfl k) ?_
  refine oS (fun t k => XS.aloadN X3.here hx rfl (hb hby d1_16) rfl rfl k) ?_
  obtain ⟨cl14, Ar14, -, Sz14, Ng14, -, -⟩ := id V_a1
  refine oS (S' := (T3.setTop (mkF m 18 #[.val (.ref a1), .val (.ref a2), .val (.int 1), .val (.int 1), .val (.int 2)] [(.int 2), (.int 2)]))) (fun t k => X3.arraylength hx (by rw [e3]; exact Ar14.1) (State.isArrayOf_alike hZ.alike Ar14.2.1) (g := (mkF m 17 #[.val (.ref a1), .val (.ref a2), .val (.int 1), .val (.int 1), .val (.int 2)] [(.ref a1), (.int 2)])) rfl rfl (hb hby d1_17) t (by rw [len_of Sz14 Ng14]; exact k)) ?_
  refine oS (fun t k => XS.icmpYes X3.here hx rfl (pc0 := 18) (pc' := 67) rfl (hb hby d1_18) rfl (flt (by decide)).2.1 (by decide) (by decide) k) ?_
  refine oS (fun t k => XS.iloadN X3.here hx rfl (hb hby d1_67) rfl k) ?_
  refine oS (fun t k => XS.iloadN X3.here hx rfl (hb hby d1_68) rfl k) ?_
  obtain ⟨_, _, ⟨T15, L15, k15, n15⟩, -, X15, ⟨Lc15, hQ15, l15, y15, z15⟩, st15⟩ := Jvm.LawKit.callS X3 hx (y := mY0) hown (mvT hZ (oW hw 8 rfl)) (mvT hZ (oW hw 9 rfl)) (mvT hZ (oW hw 3 rfl)) (mvT hZ (oW hw 10 rfl)) (by decide) (backOf (W := 0) (rm_zz_11 l Z a0 hw []  w h0 n0 O0 W ) hZ (oW hw 10 rfl) (oW hw 3 rfl) (by decide) (by decide)) (g := (mkF m 69 #[.val (.ref a1), .val (.ref a2), .val (.int 1), .val (.int 1), .val (.int 2)] [(.int 1), (.int 1)])) rfl (by rw [hml]; rfl) (argsL := [(.int 1), (.int 1)]) (rest := []) (lenOf pd_1 rfl) rfl (by show 2 * 0 + _ ≤ _; exact Nat.le_of_eq rfl) (hb hby d1_69) (fun _ _ => ⟨rfl, e3, (by decide : 0 + 0 ≤ _), (by decide : 0 + 0 ≤ _)⟩)
  dsimp only [Pt.U, Pt.locs, Pt.cells, Pt.slots] at X15 l15 y15 z15 st15 hQ15
  subst l15 y15 z15
  obtain ⟨rfl, Nq15, e15⟩ := hQ15
  have N15 := Fr.app N3 Nq15
  refine oS (fun t k => st15 t k) ?_
  show oG _ _ _ _ _ _ _ (T15.setTop (mkF m 72 #[.val (.ref a1), .val (.ref a2), .val (.int 1), .val (.int 1), .val (.int 2)] [(.ref (w 0))]))
  try clear st15 X3 e3
  exact own_ret (v := some (.ref (w 0))) X15 (fun h => by rw [Bd.returns] at h; cases h) Bd.notSynchronized (fun fs hr => retOut X15 hx (t := (.object "com/example/shiftweave/shiftweave/engine/Dominance")) Bd.returns rfl (Or.inr (Or.inr (Or.inr (Or.inr ⟨rfl, rfl, rfl⟩)))) (hb hby d1_72) hr) (by rw [e15]; exact ⟨rfl, N15, rfl⟩) (by decide) (by decide)
def Q_of_11 (Z : State) (a1 : Addr) (a2 : Addr) (k1 : ClassId) (k2 : ClassId) (q1 : Int64) (q2 : Int64) (q3 : Int64) (q4 : Int64) (w : Nat → Addr) (h0 : Heap) (n0 : Nat) (v : Option Value) (h : Heap) (L : List Loc) : Prop := v = some (.ref (w 3)) ∧ Fr n0 L ∧ h = h0
set_option maxRecDepth 65536 in
set_option maxHeartbeats 40000000 in
theorem rm_of_11 (l : Launch) (Z : State) (a0 : Array Value) (hw : ∀ d ∈ tables_1, d.before a0 Z = true) (ws : List Jvm.Cond) (a1 : Addr) (a2 : Addr) (k1 : ClassId) (k2 : ClassId) (q1 : Int64) (q2 : Int64) (q3 : Int64) (q4 : Int64) (w : Nat → Addr) (h0 : Heap) (n0 : Nat) (O0 : Old Z n0 h0) (W : own_World Z w) (V_a1 : Arv Z h0 a1 k1 .long (2 : Int32) [(.long q1), (.long q2)] (.long (0 : Int64))) (V_a2 : Arv Z h0 a2 k2 .long (2 : Int32) [(.long q3), (.long q4)] (.long (0 : Int64))) (l1 : ¬ (q1 < q3)) (g1 : q3 < q1) (l2 : ¬ (q2 < q4)) (g2 : q4 < q2) :
    MetFree l mY3 (head1 (Jvm.Cond.code mY3 prog_24_method_4_code 5 (some (.object "com/example/shiftweave/shiftweave/engine/Dominance")) :: ws) ({ frames := 1, cells := 0, slots := 0, locals := 14 } : Room)) (fun a U => a = #[(.ref a1), (.ref a2)] ∧ Z.Warmed39 U.vm ∧ U.heap = h0) (fun _ _ _ _ _ => True) (fun _ U o U' => ∃ v L, o = .returned v ∧ Q_of_11 Z a1 a2 k1 k2 q1 q2 q3 q4 w h0 n0 v U'.heap L ∧ FrameEnd U o U' L ({ frames := 1, cells := 0, slots := 0, locals := 14 } : Room).cells ({ frames := 1, cells := 0, slots := 0, locals := 14 } : Room).slots) := by
  refine MetFree.of_bodySF (plainFor_of_name pn_0) hisR ?_
  intro p e s m args below meth c s₁ Bd hml0 hP hK
  obtain ⟨rfl, hZ, hh⟩ := hP
  have hx := Bd.exec
  have hby := Bd.bytes
  have hml : c.maxLocals = 5 := hml0
  have hown : s.vm.findClass "com/example/shiftweave/shiftweave/engine/Dominance" = some m.cls := findClass_of_methodNamed Bd.named
  have hnm := (name_of_methodNamed Bd.named Bd.method).1
  have X0 : Stand p l e ({ frames := 1, cells := 0, slots := 0, locals := 14 } : Room) s m #[(.ref a1), (.ref a2)] below meth c s₁ [] 0 0 := Stand.of_body Bd
  have e0 : s₁.heap = h0 := by rw [← hh, Bd.state]; rfl
  have N0 := Fr.nil n0
  show oG p e below s (Q_of_11 Z a1 a2 k1 k2 q1 q2 q3 q4 w h0 n0) ({ frames := 1, cells := 0, slots := 0, locals := 14 } : Room).cells ({ frames := 1, cells := 0, slots := 0, locals := 14 } : Room).slots _
  refine oS (fun t k => castTop (ef_1_rr m a1 a2) k) ?_
  show oG _ _ _ _ _ _ _ (s₁.setTop (mkF m 0 #[.val (.ref a1), .val (.ref a2), .unset, .unset, .unset] []))
  refine oS (fun t k => XS.aloadN X0.here hx rfl (hb hby d1_0) rfl rfl k) ?_
  obtain ⟨cl1, Ar1, -, Sz1, Ng1, -, -⟩ := id V_a1
  refine oS (S' := (s₁.setTop (mkF m 2 #[.val (.ref a1), .val (.ref a2), .unset, .unset, .unset] [(.int 2)]))) (fun t k => X0.arraylength hx (by rw [e0]; exact Ar1.1) (State.isArrayOf_alike hZ.alike Ar1.2.1) (g := (mkF m 1 #[.val (.ref a1), .val (.ref a2), .unset, .unset, .unset] [(.ref a1)])) rfl rfl (hb hby d1_1) t (by rw [len_of Sz1 Ng1]; exact k)) ?_
  refine oS (fun t k => XS.aloadN X0.here hx rfl (hb hby d1_2) rfl rfl k) ?_
  obtain ⟨cl2, Ar2, -, Sz2, Ng2, -, -⟩ := id V_a2
  refine oS (S' := (s₁.setTop (mkF m 4 #[.val (.ref a1), .val (.ref a2), .unset, .unset, .unset] [(.int 2), (.int 2)]))) (fun t k => X0.arraylength hx (by rw [e0]; exact Ar2.1) (State.isArrayOf_alike hZ.alike Ar2.2.1) (g := (mkF m 3 #[.val (.ref a1), .val (.ref a2), .unset, .unset, .unset] [(.ref a2), (.int 2)])) rfl rfl (hb hby d1_3) t (by rw [len_of Sz2 Ng2]; exact k)) ?_
  obtain ⟨_, _, ⟨T3, L3, k3, n3⟩, -, X3, ⟨Lc3, hQ3, l3, y3, z3⟩, st3⟩ := Jvm.LawKit.callS X0 hx (y := mY1) hown (mvT hZ (oW hw 5 rfl)) (mvT hZ (oW hw 6 rfl)) (mvT hZ (oW hw 3 rfl)) (mvT hZ (oW hw 7 rfl)) (by decide) (backOf (W := 0) (rm_chk l Z a0 hw []   h0 n0 O0  ) hZ (oW hw 7 rfl) (oW hw 3 rfl) (by decide) (by decide)) (g := (mkF m 4 #[.val (.ref a1), .val (.ref a2), .unset, .unset, .unset] [(.int 2), (.int 2)])) rfl (by rw [hml]; rfl) (argsL := [(.int 2), (.int 2)]) (rest := []) (lenOf pd_0 rfl) rfl (by show 2 * 0 + _ ≤ _; exact Nat.le_of_eq rfl) (hb hby d1_4) (fun _ _ => ⟨rfl, e0, (by decide : 0 + 0 ≤ _), (by decide : 0 + 0 ≤ _)⟩)
  dsimp only [Pt.U, Pt.locs, Pt.cells, Pt.slots] at X3 l3 y3 z3 st3 hQ3
  subst l3 y3 z3
  obtain ⟨rfl, Nq3, e3⟩ := hQ3
  have N3 := Fr.app N0 Nq3
  refine oS (fun t k => st3 t k) ?_
  show oG _ _ _ _ _ _ _ (T3.setTop (mkF m 7 #[.val (.ref a1), .val (.ref a2), .unset, .unset, .unset] []))
  try clear st3
  refine oS (fun t k => oIc li_0 X3.here hx rfl (hb hby d1_7) k) ?_
  refine oS (fun t k => XS.istoreN X3.here hx rfl (hb hby d1_8) rfl (l' := #[.val (.ref a1), .val (.ref a2), .val (.int 0), .unset, .unset]) rfl k) ?_
  refine oS (fun t k => oIc li_0 X3.here hx rfl (hb hby d1_9) k) ?_
  refine oS (fun t k => XS.istoreN X3.here hx rfl (hb hby d1_10) rfl (l' := #[.val (.ref a1), .val (.ref a2), .val (.int 0), .val (.int 0), .unset]) rfl k) ?_
  refine oS (fun t k => oIc li_0 X3.here hx rfl (hb hby d1_11) k) ?_
  refine oS (fun t k => XS.istore X3.here hx rfl (hb hby d1_12) rfl (l' := #[.val (.ref a1), .val (.ref a2), .val (.int 0), .val (.int 0), .val (.int 0)]) rfl k) ?_
  refine oS (fun t k => XS.iload X3.here hx rfl (hb hby d1_14) rfl k) ?_
  refine oS (fun t k => XS.aloadN X3.here hx rfl (hb hby d1_16) rfl rfl k) ?_
  obtain ⟨cl4, Ar4, -, Sz4, Ng4, -, -⟩ := id V_a1
  refine oS (S' := (T3.setTop (mkF m 18 #[.val (.ref a1), .val (.ref a2), .val (.int 0), .val (.int 0), .val (.int 0)] [(.int 2), (.int 0)]))) (fun t k => X3.arraylength hx (by rw [e3]; exact Ar4.1) (State.isArrayOf_alike hZ.alike Ar4.2.1) (g := (mkF m 17 #[.val (.ref a1), .val (.ref a2), .val (.int 0), .val (.int 0), .val (.int 0)] [(.ref a1), (.int 0)])) rfl rfl (hb hby d1_17) t (by rw [len_of Sz4 Ng4]; exact k)) ?_
  refine oS (fun t k => XS.icmpNo X3.here hx rfl (hb hby d1_18) rfl (tlt (by decide)).2.1 k) ?_
  show oG _ _ _ _ _ _ _ (T3.setTop (mkF m 21 #[.val (.ref a1), .val (.ref a2), .val (.int 0), .val (.int 0), .val (.int 0)] []))
  refine oS (fun t k => XS.iloadN X3.here hx rfl (hb hby d1_21) rfl k) ?_
  refine oS (fun t k => XS.aloadN X3.here hx rfl (hb hby d1_22) rfl rfl k) ?_
  refine oS (fun t k => XS.iload X3.here hx rfl (hb hby d1_23) rfl k) ?_
  obtain ⟨cl5, Ar5, qk5, Sz5, Ng5, Ha5, Gf5⟩ := id V_a1
  have hin5 : ¬ ((0 : Int32) < 0 ∨ cl5.slots.size ≤ ((0 : Int32)).toNatClampNeg) := (inb_of Sz5 ⟨by decide, by decide⟩)
  have hat5 : cl5.slots[((0 : Int32)).toNatClampNeg]? = some (.long q1) := Ha5.at hin5 rfl
  refine oS (fun t k => X3.laload hx (j := (0 : Int32)) (v := (.long q1)) (by rw [e3]; exact Ar5.1) (State.isArrayOf_alike hZ.alike Ar5.2.1) Ar5.2.2 hin5 hat5 (g := (mkF m 25 #[.val (.ref a1), .val (.ref a2), .val (.int 0), .val (.int 0), .val (.int 0)] [(.int 0), (.ref a1), (.int 0)])) rfl rfl (hb hby d1_25) t k) ?_
  refine oS (fun t k => XS.aloadN X3.here hx rfl (hb hby d1_26) rfl rfl k) ?_
  refine oS (fun t k => XS.iload X3.here hx rfl (hb hby d1_27) rfl k) ?_
  obtain ⟨cl6, Ar6, qk6, Sz6, Ng6, Ha6, Gf6⟩ := id V_a2
  have hin6 : ¬ ((0 : Int32) < 0 ∨ cl6.slots.size ≤ ((0 : Int32)).toNatClampNeg) := (inb_of Sz6 ⟨by decide, by decide⟩)
  have hat6 : cl6.slots[((0 : Int32)).toNatClampNeg]? = some (.long q3) := Ha6.at hin6 rfl
  refine oS (fun t k => X3.laload hx (j := (0 : Int32)) (v := (.long q3)) (by rw [e3]; exact Ar6.1) (State.isArrayOf_alike hZ.alike Ar6.2.1) Ar6.2.2 hin6 hat6 (g := (mkF m 29 #[.val (.ref a1), .val (.ref a2), .val (.int 0), .val (.int 0), .val (.int 0)] [(.int 0), (.ref a2), (.long q1), (.int 0)])) rfl rfl (hb hby d1_29) t k) ?_
  refine oS (fun t k => XS.lcmp X3.here hx rfl (hb hby d1_30) rfl k) ?_
  refine oS (fun t k => XS.ifYes X3.here hx rfl (pc0 := 31) (pc' := 38) rfl (hb hby d1_31) rfl ((if0 _ _).trans (flt (fun q => l1 ((lw_lt q1 q3).mp q))).2.1) (by decide) (by decide) k) ?_
  refine oS (fun t k => oIc li_0 X3.here hx rfl (hb hby d1_38) k) ?_
  show oG _ _ _ _ _ _ _ (T3.setTop (mkF m 39 #[.val (.ref a1), .val (.ref a2), .val (.int 0), .val (.int 0), .val (.int 0)] [(.int 0), (.int 0)]))
  refine oS (S' := (T3.setTop (mkF m 40 #[.val (.ref a1), .val (.ref a2), .val (.int 0), .val (.int 0), .val (.int 0)] [(.int 0)]))) (fun t k => XS.ior X3.here hx rfl (hb hby d1_39) rfl (by rw [show (0 : Int32) ||| (0 : Int32) = (0 : Int32) from by decide]; exact k)) ?_
  refine oS (fun t k => XS.istoreN X3.here hx rfl (hb hby d1_40) rfl (l' := #[.val (.ref a1), .val (.ref a2), .val (.int 0), .val (.int 0), .val (.int 0)]) rfl k) ?_
  refine oS (fun t k => XS.iloadN X3.here hx rfl (hb hby d1_41) rfl k) ?_
  refine oS (fun t k => XS.aloadN X3.here hx rfl (hb hby d1_42) rfl rfl k) ?_
  refine oS (fun t k => XS.iload X3.here hx rfl (hb hby d1_43) rfl k) ?_
  obtain ⟨cl7, Ar7, qk7, Sz7, Ng7, Ha7, Gf7⟩ := id V_a1
  have hin7 : ¬ ((0 : Int32) < 0 ∨ cl7.slots.size ≤ ((0 : Int32)).toNatClampNeg) := (inb_of Sz7 ⟨by decide, by decide⟩)
  have hat7 : cl7.slots[((0 : Int32)).toNatClampNeg]? = some (.long q1) := Ha7.at hin7 rfl
  refine oS (fun t k => X3.laload hx (j := (0 : Int32)) (v := (.long q1)) (by rw [e3]; exact Ar7.1) (State.isArrayOf_alike hZ.alike Ar7.2.1) Ar7.2.2 hin7 hat7 (g := (mkF m 45 #[.val (.ref a1), .val (.ref a2), .val (.int 0), .val (.int 0), .val (.int 0)] [(.int 0), (.ref a1), (.int 0)])) rfl rfl (hb hby d1_45) t k) ?_
  refine oS (fun t k => XS.aloadN X3.here hx rfl (hb hby d1_46) rfl rfl k) ?_
  refine oS (fun t k => XS.iload X3.here hx rfl (hb hby d1_47) rfl k) ?_
  obtain ⟨cl8, Ar8, qk8, Sz8, Ng8, Ha8, Gf8⟩ := id V_a2
  have hin8 : ¬ ((0 : Int32) < 0 ∨ cl8.slots.size ≤ ((0 : Int32)).toNatClampNeg) := (inb_of Sz8 ⟨by decide, by decide⟩)
  have hat8 : cl8.slots[((0 : Int32)).toNatClampNeg]? = some (.long q3) := Ha8.at hin8 rfl
  refine oS (fun t k => X3.laload hx (j := (0 : Int32)) (v := (.long q3)) (by rw [e3]; exact Ar8.1) (State.isArrayOf_alike hZ.alike Ar8.2.1) Ar8.2.2 hin8 hat8 (g := (mkF m 49 #[.val (.ref a1), .val (.ref a2), .val (.int 0), .val (.int 0), .val (.int 0)] [(.int 0), (.ref a2), (.long q1), (.int 0)])) rfl rfl (hb hby d1_49) t k) ?_
  refine oS (fun t k => XS.lcmp X3.here hx rfl (hb hby d1_50) rfl k) ?_
  show oG _ _ _ _ _ _ _ (T3.setTop (mkF m 51 #[.val (.ref a1), .val (.ref a2), .val (.int 0), .val (.int 0), .val (.int 0)] [(.int (lcmpW q1 q3)), (.int 0)]))
  refine oS (fun t k => XS.ifNo X3.here hx rfl (hb hby d1_51) rfl ((if0 _ _).trans (tlt ((lw_gt q1 q3).mpr g1)).2.2.2) k) ?_
  refine oS (fun t k => oIc li_1 X3.here hx rfl (hb hby d1_54) k) ?_
  refine oS (fun t k => XS.goto X3.here hx rfl (pc0 := 55) (pc' := 59) rfl (hb hby d1_55) (by decide) (by decide) k) ?_
  refine oS (S' := (T3.setTop (mkF m 60 #[.val (.ref a1), .val (.ref a2), .val (.int 0), .val (.int 0), .val (.int 0)] [(.int 1)]))) (fun t k => XS.ior X3.here hx rfl (hb hby d1_59) rfl (by rw [show (0 : Int32) ||| (1 : Int32) = (1 : Int32) from by decide]; exact k)) ?_
  refine oS (fun t k => XS.istoreN X3.here hx rfl (hb hby d1_60) rfl (l' := #[.val (.ref a1), .val (.ref a2), .val (.int 0), .val (.int 1), .val (.int 0)]) rfl k) ?_
  refine oS (fun t k => XS.iinc X3.here hx rfl (hb hby d1_61) rfl (l' := #[.val (.ref a1), .val (.ref a2), .val (.int 0), .val (.int 1), .val (.int 1)]) rfl k) ?_
  show oG _ _ _ _ _ _ _ (T3.setTop (mkF m 64 #[.val (.ref a1), .val (.ref a2), .val (.int 0), .val (.int 1), .val (.int 1)] []))
  refine oS (fun t k => XS.goto X3.here hx rfl (pc0 := 64) (pc' := 14) rfl (hb hby d1_64) (by decide) (by decide) k) ?_
  refine oS (fun t k => XS.iload X3.here hx rfl (hb hby d1_14) rfl k) ?_
  refine oS (fun t k => XS.aloadN X3.here hx rfl (hb hby d1_16) rfl rfl k) ?_
  obtain ⟨cl9, Ar9, -, Sz9, Ng9, -, -⟩ := id V_a1
  refine oS (S' := (T3.setTop (mkF m 18 #[.val (.ref a1), .val (.ref a2), .val (.int 0), .val (.int 1), .val (.int 1)] [(.int 2), (.int 1)]))) (fun t k => X3.arraylength hx (by rw [e3]; exact Ar9.1) (State.isArrayOf_alike hZ.alike Ar9.2.1) (g := (mkF m 17 #[.val (.ref a1), .val (.ref a2), .val (.int 0), .val (.int 1), .val (.int 1)] [(.ref a1), (.int 1)])) rfl rfl (hb hby d1_17) t (by rw [len_of Sz9 Ng9]; exact k)) ?_
  refine oS (fun t k => XS.icmpNo X3.here hx rfl (hb hby d1_18) rfl (tlt (by decide)).2.1 k) ?_
  refine oS (fun t k => XS.iloadN X3.here hx rfl (hb hby d1_21) rfl k) ?_
  refine oS (fun t k => XS.aloadN X3.here hx rfl (hb hby d1_22) rfl rfl k) ?_
  refine oS (fun t k => XS.iload X3.here hx rfl (hb hby d1_23) rfl k) ?_
  obtain ⟨cl10, Ar10, qk10, Sz10, Ng10, Ha10, Gf10⟩ := id V_a1
  have hin10 : ¬ ((1 : Int32) < 0 ∨ cl10.slots.size ≤ ((1 : Int32)).toNatClampNeg) := (inb_of Sz10 ⟨by decide, by decide⟩)
  have hat10 : cl10.slots[((1 : Int32)).toNatClampNeg]? = some (.long q2) := Ha10.at hin10 rfl
  refine oS (fun t k => X3.laload hx (j := (1 : Int32)) (v := (.long q2)) (by rw [e3]; exact Ar10.1) (State.isArrayOf_alike hZ.alike Ar10.2.1) Ar10.2.2 hin10 hat10 (g := (mkF m 25 #[.val (.ref a1), .val (.ref a2), .val (.int 0), .val (.int 1), .val (.int 1)] [(.int 1), (.ref a1), (.int 0)])) rfl rfl (hb hby d1_25) t k) ?_
  refine oS (fun t k => XS.aloadN X3.here hx rfl (hb hby d1_26) rfl rfl k) ?_
  show oG _ _ _ _ _ _ _ (T3.setTop (mkF m 27 #[.val (.ref a1), .val (.ref a2), .val (.int 0), .val (.int 1), .val (.int 1)] [(.ref a2), (.long q2), (.int 0)]))
  refine oS (fun t k => XS.iload X3.here hx rfl (hb hby d1_27) rfl k) ?_
  obtain ⟨cl11, Ar11, qk11, Sz11, Ng11, Ha11, Gf11⟩ := id V_a2
  have hin11 : ¬ ((1 : Int32) < 0 ∨ cl11.slots.size ≤ ((1 : Int32)).toNatClampNeg) := (inb_of Sz11 ⟨by decide, by decide⟩)
  have hat11 : cl11.slots[((1 : Int32)).toNatClampNeg]? = some (.long q4) := Ha11.at hin11 rfl
  refine oS (fun t k => X3.laload hx (j := (1 : Int32)) (v := (.long q4)) (by rw [e3]; exact Ar11.1) (State.isArrayOf_alike hZ.alike Ar11.2.1) Ar11.2.2 hin11 hat11 (g := (mkF m 29 #[.val (.ref a1), .val (.ref a2), .val (.int 0), .val (.int 1), .val (.int 1)] [(.int 1), (.ref a2), (.long q2), (.int 0)])) rfl rfl (hb hby d1_29) t k) ?_
  refine oS (fun t k => XS.lcmp X3.here hx rfl (hb hby d1_30) rfl k) ?_
  refine oS (fun t k => XS.ifYes X3.here hx rfl (pc0 := 31) (pc' := 38) rfl (hb hby d1_31) rfl ((if0 _ _).trans (flt (fun q => l2 ((lw_lt q2 q4).mp q))).2.1) (by decide) (by decide) k) ?_
  refine oS (fun t k => oIc li_0 X3.here hx rfl (hb hby d1_38) k) ?_
  refine oS (S' := (T3.setTop (mkF m 40 #[.val (.ref a1), .val (.ref a2), .val (.int 0), .val (.int 1), .val (.int 1)] [(.int 0)]))) (fun t k => XS.ior X3.here hx rfl (hb hby d1_39) rfl (by rw [show (0 : Int32) ||| (0 : Int32) = (0 : Int32) from by decide]; exact k)) ?_
  refine oS (fun t k => XS.istoreN X3.here hx rfl (hb hby d1_40) rfl (l' := #[.val (.ref a1), .val (.ref a2), .val (.int 0), .val (.int 1), .val (.int 1)]) rfl k) ?_
  refine oS (fun t k => XS.iloadN X3.here hx rfl (hb hby d1_41) rfl k) ?_
  refine oS (fun t k => XS.aloadN X3.here hx rfl (hb hby d1_42) rfl rfl k) ?_
  refine oS (fun t k => XS.iload X3.here hx rfl (hb hby d1_43) rfl k) ?_
  show oG _ _ _ _ _ _ _ (T3.setTop (mkF m 45 #[.val (.ref a1), .val (.ref a2), .val (.int 0), .val (.int 1), .val (.int 1)] [(.int 1), (.ref a1), (.int 1)]))
  obtain ⟨cl12, Ar12, qk12, Sz12, Ng12, Ha12, Gf12⟩ := id V_a1
  have hin12 : ¬ ((1 : Int32) < 0 ∨ cl12.slots.size ≤ ((1 : Int32)).toNatClampNeg) := (inb_of Sz12 ⟨by decide, by decide⟩)
  have hat12 : cl12.slots[((1 : Int32)).toNatClampNeg]? = some (.long q2) := Ha12.at hin12 rfl
  refine oS (fun t k => X3.laload hx (j := (1 : Int32)) (v := (.long q2)) (by rw [e3]; exact Ar12.1) (State.isArrayOf_alike hZ.alike Ar12.2.1) Ar12.2.2 hin12 hat12 (g := (mkF m 45 #[.val (.ref a1), .val (.ref a2), .val (.int 0), .val (.int 1), .val (.int 1)] [(.int 1), (.ref a1), (.int 1)])) rfl rfl (hb hby d1_45) t k) ?_
  refine oS (fun t k => XS.aloadN X3.here hx rfl (hb hby d1_46) rfl rfl k) ?_
  refine oS (fun t k => XS.iload X3.here hx rfl (hb hby d1_47) rfl k) ?_
  obtain ⟨cl13, Ar13, qk13, Sz13, Ng13, Ha13, Gf13⟩ := id V_a2
  have hin13 : ¬ ((1 : Int32) < 0 ∨ cl13.slots.size ≤ ((1 : Int32)).toNatClampNeg) := (inb_of Sz13 ⟨by decide, by decide⟩)
  have hat13 : cl13.slots[((1 : Int32)).toNatClampNeg]? = some (.long q4) := Ha13.at hin13 rfl
  refine oS (fun t k => X3.laload hx (j := (1 : Int32)) (v := (.long q4)) (by rw [e3]; exact Ar13.1) (State.isArrayOf_alike hZ.alike Ar13.2.1) Ar13.2.2 hin13 hat13 (g := (mkF m 49 #[.val (.ref a1), .val (.ref a2), .val (.int 0), .val (.int 1), .val (.int 1)] [(.int 1), (.ref a2), (.long q2), (.int 1)])) rfl rfl (hb hby d1_49) t k) ?_
  refine oS (fun t k => XS.lcmp X3.here hx rfl (hb hby d1_50) rfl k) ?_
  refine oS (fun t k => XS.ifNo X3.here hx rfl (hb hby d1_51) rfl ((if0 _ _).trans (tlt ((lw_gt q2 q4).mpr g2)).2.2.2) k) ?_
  refine oS (fun t k => oIc li_1 X3.here hx rfl (hb hby d1_54) k) ?_
  refine oS (fun t k => XS.goto X3.here hx rfl (pc0 := 55) (pc' := 59) rfl (hb hby d1_55) (by decide) (by decide) k) ?_
  refine oS (S' := (T3.setTop (mkF m 60 #[.val (.ref a1), .val (.ref a2), .val (.int 0), .val (.int 1), .val (.int 1)] [(.int 1)]))) (fun t k => XS.ior X3.here hx rfl (hb hby d1_59) rfl (by rw [show (1 : Int32) ||| (1 : Int32) = (1 : Int32) from by decide]; exact k)) ?_
  refine oS (fun t k => XS.istoreN X3.here hx rfl (hb hby d1_60) rfl (l' := #[.val (.ref a1), .val (.ref a2), .val (.int 0), .val (.int 1), .val (.int 1)]) rfl k) ?_
  show oG _ _ _ _ _ _ _ (T3.setTop (mkF m 61 #[.val (.ref a1), .val (.ref a2), .val (.int 0), .val (.int 1), .val (.int 1)] []))
  refine oS (fun t k => XS.iinc X3.here hx rfl (hb hby d1_61) rfl (l' := #[.val (.ref a1), .val (.ref a2), .val (.int 0), .val (.int 1), .val (.int 2)]) rfl k) ?_
  show oG _ _ _ _ _ _ _ (T3.setTop (mkF m 64 #[.val (.ref a1), .val (.ref a2), .val (.int 0), .val (.int 1), .val (.int 2)] []))
  refine oS (fun t k => XS.goto X3.here hx rfl (pc0 := 64) (pc' := 14) rfl (hb hby d1_64) (by decide) (by decide) k) ?_
  refine oS (fun t k => XS.iload X3.here hx rfl (hb hby d1_14) rfl k) ?_
  refine oS (fun t k => XS.aloadN X3.here hx rfl (hb hby d1_16) rfl rfl k) ?_
  obtain ⟨cl14, Ar14, -, Sz14, Ng14, -, -⟩ := id V_a1
  refine oS (S' := (T3.setTop (mkF m 18 #[.val (.ref a1), .val (.ref a2), .val (.int 0), .val (.int 1), .val (.int 2)] [(.int 2), (.int 2)]))) (fun t k => X3.arraylength hx (by rw [e3]; exact Ar14.1) (State.isArrayOf_alike hZ.alike Ar14.2.1) (g := (mkF m 17 #[.val (.ref a1), .val (.ref a2), .val (.int 0), .val (.int 1), .val (.int 2)] [(.ref a1), (.int 2)])) rfl rfl (hb hby d1_17) t (by rw [len_of Sz14 Ng14]; exact k)) ?_
  refine oS (fun t k => XS.icmpYes X3.here hx rfl (pc0 := 18) (pc' := 67) rfl (hb hby d1_18) rfl (flt (by decide)).2.1 (by decide) (by decide) k) ?_
  refine oS (fun t k => XS.iloadN X3.here hx rfl (hb hby d1_67) rfl k) ?_
  refine oS (fun t k => XS.iloadN X3.here hx rfl (hb hby d1_68) rfl k) ?_
  obtain ⟨_, _, ⟨T15, L15, k15, n15⟩, -, X15, ⟨Lc15, hQ15, l15, y15, z15⟩, st15⟩ := Jvm.LawKit.callS X3 hx (y := mY0) hown (mvT hZ (oW hw 8 rfl)) (mvT hZ (oW hw 9 rfl)) (mvT hZ (oW hw 3 rfl)) (mvT hZ (oW hw 10 rfl)) (by decide) (backOf (W := 0) (rm_zz_01 l Z a0 hw []  w h0 n0 O0 W ) hZ (oW hw 10 rfl) (oW hw 3 rfl) (by decide) (by decide)) (g := (mkF m 69 #[.val (.ref a1), .val (.ref a2), .val (.int 0), .val (.int 1), .val (.int 2)] [(.int 1), (.int 0)])) rfl (by rw [hml]; rfl) (argsL := [(.int 0), (.int 1)]) (rest := []) (lenOf pd_1 rfl) rfl (by show 2 * 0 + _ ≤ _; exact Nat.le_of_eq rfl) (hb hby d1_69) (fun _ _ => ⟨rfl, e3, (by decide : 0 + 0 ≤ _), (by decide : 0 + 0 ≤ _)⟩)
  dsimp only [Pt.U, Pt.locs, Pt.cells, Pt.slots] at X15 l15 y15 z15 st15 hQ15
  subst l15 y15 z15
  obtain ⟨rfl, Nq15, e15⟩ := hQ15
  have N15 := Fr.app N3 Nq15
  refine oS (fun t k => st15 t k) ?_
  show oG _ _ _ _ _ _ _ (T15.setTop (mkF m 72 #[.val (.ref a1), .val (.ref a2), .val (.int 0), .val (.int 1), .val (.int 2)] [(.ref (w 3))]))
  try clear st15 X3 e3
  exact own_ret (v := some (.ref (w 3))) X15 (fun h => by rw [Bd.returns] at h; cases h) Bd.notSynchronized (fun fs hr => retOut X15 hx (t := (.object "com/example/shiftweave/shiftweave/engine/Dominance")) Bd.returns rfl (Or.inr (Or.inr (Or.inr (Or.inr ⟨rfl, rfl, rfl⟩)))) (hb hby d1_72) hr) (by rw [e15]; exact ⟨rfl, N15, rfl⟩) (by decide) (by decide)
def Q_of_12 (Z : State) (a1 : Addr) (a2 : Addr) (k1 : ClassId) (k2 : ClassId) (q1 : Int64) (q2 : Int64) (q3 : Int64) (q4 : Int64) (w : Nat → Addr) (h0 : Heap) (n0 : Nat) (v : Option Value) (h : Heap) (L : List Loc) : Prop := v = some (.ref (w 3)) ∧ Fr n0 L ∧ h = h0
set_option maxRecDepth 65536 in
set_option maxHeartbeats 40000000 in
theorem rm_of_12 (l : Launch) (Z : State) (a0 : Array Value) (hw : ∀ d ∈ tables_1, d.before a0 Z = true) (ws : List Jvm.Cond) (a1 : Addr) (a2 : Addr) (k1 : ClassId) (k2 : ClassId) (q1 : Int64) (q2 : Int64) (q3 : Int64) (q4 : Int64) (w : Nat → Addr) (h0 : Heap) (n0 : Nat) (O0 : Old Z n0 h0) (W : own_World Z w) (V_a1 : Arv Z h0 a1 k1 .long (2 : Int32) [(.long q1), (.long q2)] (.long (0 : Int64))) (V_a2 : Arv Z h0 a2 k2 .long (2 : Int32) [(.long q3), (.long q4)] (.long (0 : Int64))) (l1 : ¬ (q1 < q3)) (g1 : q3 < q1) (l2 : ¬ (q2 < q4)) (g2 : ¬ (q4 < q2)) :
    MetFree l mY3 (head1 (Jvm.Cond.code mY3 prog_24_method_4_code 5 (some (.object "com/example/shiftweave/shiftweave/engine/Dominance")) :: ws) ({ frames := 1, cells := 0, slots := 0, locals := 14 } : Room)) (fun a U => a = #[(.ref a1), (.ref a2)] ∧ Z.Warmed39 U.vm ∧ U.heap = h0) (fun _ _ _ _ _ => True) (fun _ U o U' => ∃ v L, o = .returned v ∧ Q_of_12 Z a1 a2 k1 k2 q1 q2 q3 q4 w h0 n0 v U'.heap L ∧ FrameEnd U o U' L ({ frames := 1, cells := 0, slots := 0, locals := 14 } : Room).cells ({ frames := 1, cells := 0, slots := 0, locals := 14 } : Room).slots) := by
  refine MetFree.of_bodySF (plainFor_of_name pn_0) hisR ?_
  intro p e s m args below meth c s₁ Bd hml0 hP hK
  obtain ⟨rfl, hZ, hh⟩ := hP
  have hx := Bd.exec
  have hby := Bd.bytes
  have hml : c.maxLocals = 5 := hml0
  have hown : s.vm.findClass "com/example/shiftweave/shiftweave/engine/Dominance" = some m.cls := findClass_of_methodNamed Bd.named
  have hnm := (name_of_methodNamed Bd.named Bd.method).1
  have X0 : Stand p l e ({ frames := 1, cells := 0, slots := 0, locals := 14 } : Room) s m #[(.ref a1), (.ref a2)] below meth c s₁ [] 0 0 := Stand.of_body Bd
  have e0 : s₁.heap = h0 := by rw [← hh, Bd.state]; rfl
  have N0 := Fr.nil n0
  show oG p e below s (Q_of_12 Z a1 a2 k1 k2 q1 q2 q3 q4 w h0 n0) ({ frames := 1, cells := 0, slots := 0, locals := 14 } : Room).cells ({ frames := 1, cells := 0, slots := 0, locals := 14 } : Room).slots _
  refine oS (fun t k => castTop (ef_1_rr m a1 a2) k) ?_
  show oG _ _ _ _ _ _ _ (s₁.setTop (mkF m 0 #[.val (.ref a1), .val (.ref a2), .unset, .unset, .unset] []))
  refine oS (fun t k => XS.aloadN X0.here hx rfl (hb hby d1_0) rfl rfl k) ?_
  obtain ⟨cl1, Ar1, -, Sz1, Ng1, -, -⟩ := id V_a1
  refine oS (S' := (s₁.setTop (mkF m 2 #[.val (.ref a1), .val (.ref a2), .unset, .unset, .unset] [(.int 2)]))) (fun t k => X0.arraylength hx (by rw [e0]; exact Ar1.1) (State.isArrayOf_alike hZ.alike Ar1.2.1) (g := (mkF m 1 #[.val (.ref a1), .val (.ref a2), .unset, .unset, .unset] [(.ref a1)])) rfl rfl (hb hby d1_1) t (by rw [len_of Sz1 Ng1]; exact k)) ?_
  refine oS (fun t k => XS.aloadN X0.here hx rfl (hb hby d1_2) rfl rfl k) ?_
  obtain ⟨cl2, Ar2, -, Sz2, Ng2, -, -⟩ := id V_a2
  refine oS (S' := (s₁.setTop (mkF m 4 #[.val (.ref a1), .val (.ref a2), .unset, .unset, .unset] [(.int 2), (.int 2)]))) (fun t k => X0.arraylength hx (by rw [e0]; exact Ar2.1) (State.isArrayOf_alike hZ.alike Ar2.2.1) (g := (mkF m 3 #[.val (.ref a1), .val (.ref a2), .unset, .unset, .unset] [(.ref a2), (.int 2)])) rfl rfl (hb hby d1_3) t (by rw [len_of Sz2 Ng2]; exact k)) ?_
  obtain ⟨_, _, ⟨T3, L3, k3, n3⟩, -, X3, ⟨Lc3, hQ3, l3, y3, z3⟩, st3⟩ := Jvm.LawKit.callS X0 hx (y := mY1) hown (mvT hZ (oW hw 5 rfl)) (mvT hZ (oW hw 6 rfl)) (mvT hZ (oW hw 3 rfl)) (mvT hZ (oW hw 7 rfl)) (by decide) (backOf (W := 0) (rm_chk l Z a0 hw []   h0 n0 O0  ) hZ (oW hw 7 rfl) (oW hw 3 rfl) (by decide) (by decide)) (g := (mkF m 4 #[.val (.ref a1), .val (.ref a2), .unset, .unset, .unset] [(.int 2), (.int 2)])) rfl (by rw [hml]; rfl) (argsL := [(.int 2), (.int 2)]) (rest := []) (lenOf pd_0 rfl) rfl (by show 2 * 0 + _ ≤ _; exact Nat.le_of_eq rfl) (hb hby d1_4) (fun _ _ => ⟨rfl, e0, (by decide : 0 + 0 ≤ _), (by decide : 0 + 0 ≤ _)⟩)
  dsimp only [Pt.U, Pt.locs, Pt.cells, Pt.slots] at X3 l3 y3 z3 st3 hQ3
  subst l3 y3 z3
  obtain ⟨rfl, Nq3, e3⟩ := hQ3
  have N3 := Fr.app N0 Nq3
  refine oS (fun t k => st3 t k) ?_
  show oG _ _ _ _ _ _ _ (T3.setTop (mkF m 7 #[.val (.ref a1), .val (.ref a2), .unset, .unset, .unset] []))
  try clear st3
  refine oS (fun t k => oIc li_0 X3.here hx rfl (hb hby d1_7) k) ?_
  refine oS (fun t k => XS.istoreN X3.here hx rfl (hb hby d1_8) rfl (l' := #[.val (.ref a1), .val (.ref a2), .val (.int 0), .unset, .unset]) rfl k) ?_
  refine oS (fun t k => oIc li_0 X3.here hx rfl (hb hby d1_9) k) ?_
  refine oS (fun t k => XS.istoreN X3.here hx rfl (hb hby d1_10) rfl (l' := #[.val (.ref a1), .val (.ref a2), .val (.int 0), .val (.int 0), .unset]) rfl k) ?_
  refine oS (fun t k => oIc li_0 X3.here hx rfl (hb hby d1_11) k) ?_
  refine oS (fun t k => XS.istore X3.here hx rfl (hb hby d1_12) rfl (l' := #[.val (.ref a1), .val (.ref a2), .val (.int 0), .val (.int 0), .val (.int 0)]) rfl k) ?_
  refine oS (fun t k => XS.iload X3.here hx rfl (hb hby d1_14) rfl k) ?_
  refine oS (fun t k => XS.aloadN X3.here hx rfl (hb hby d1_16) rfl rfl k) ?_
  obtain ⟨cl4, Ar4, -, Sz4, Ng4, -, -⟩ := id V_a1
  refine oS (S' := (T3.setTop (mkF m 18 #[.val (.ref a1), .val (.ref a2), .val (.int 0), .val (.int 0), .val (.int 0)] [(.int 2), (.int 0)]))) (fun t k => X3.arraylength hx (by rw [e3]; exact Ar4.1) (State.isArrayOf_alike hZ.alike Ar4.2.1) (g := (mkF m 17 #[.val (.ref a1), .val (.ref a2), .val (.int 0), .val (.int 0), .val (.int 0)] [(.ref a1), (.int 0)])) rfl rfl (hb hby d1_17) t (by rw [len_of Sz4 Ng4]; exact k)) ?_
  refine oS (fun t k => XS.icmpNo X3.here hx rfl (hb hby d1_18) rfl (tlt (by decide)).2.1 k) ?_
  show oG _ _ _ _ _ _ _ (T3.setTop (mkF m 21 #[.val (.ref a1), .val (.ref a2), .val (.int 0), .val (.int 0), .val (.int 0)] []))
  refine oS (fun t k => XS.iloadN X3.here hx rfl (hb hby d1_21) rfl k) ?_
  refine oS (fun t k => XS.aloadN X3.here hx rfl (hb hby d1_22) rfl rfl k) ?_
  refine oS (fun t k => XS.iload X3.here hx rfl (hb hby d1_23) rfl k) ?_
  obtain ⟨cl5, Ar5, qk5, Sz5, Ng5, Ha5, Gf5⟩ := id V_a1
  have hin5 : ¬ ((0 : Int32) < 0 ∨ cl5.slots.size ≤ ((0 : Int32)).toNatClampNeg) := (inb_of Sz5 ⟨by decide, by decide⟩)
  have hat5 : cl5.slots[((0 : Int32)).toNatClampNeg]? = some (.long q1) := Ha5.at hin5 rfl
  refine oS (fun t k => X3.laload hx (j := (0 : Int32)) (v := (.long q1)) (by rw [e3]; exact Ar5.1) (State.isArrayOf_alike hZ.alike Ar5.2.1) Ar5.2.2 hin5 hat5 (g := (mkF m 25 #[.val (.ref a1), .val (.ref a2), .val (.int 0), .val (.int 0), .val (.int 0)] [(.int 0), (.ref a1), (.int 0)])) rfl rfl (hb hby d1_25) t k) ?_
  refine oS (fun t k => XS.aloadN X3.here hx rfl (hb hby d1_26) rfl rfl k) ?_
  refine oS (fun t k => XS.iload X3.here hx rfl (hb hby d1_27) rfl k) ?_
  obtain ⟨cl6, Ar6, qk6, Sz6, Ng6, Ha6, Gf6⟩ := id V_a2
  have hin6 : ¬ ((0 : Int32) < 0 ∨ cl6.slots.size ≤ ((0 : Int32)).toNatClampNeg) := (inb_of Sz6 ⟨by decide, by decide⟩)
  have hat6 : cl6.slots[((0 : Int32)).toNatClampNeg]? = some (.long q3) := Ha6.at hin6 rfl
  refine oS (fun t k => X3.laload hx (j := (0 : Int32)) (v := (.long q3)) (by rw [e3]; exact Ar6.1) (State.isArrayOf_alike hZ.alike Ar6.2.1) Ar6.2.2 hin6 hat6 (g := (mkF m 29 #[.val (.ref a1), .val (.ref a2), .val (.int 0), .val (.int 0), .val (.int 0)] [(.int 0), (.ref a2), (.long q1), (.int 0)])) rfl rfl (hb hby d1_29) t k) ?_
  refine oS (fun t k => XS.lcmp X3.here hx rfl (hb hby d1_30) rfl k) ?_
  refine oS (fun t k => XS.ifYes X3.here hx rfl (pc0 := 31) (pc' := 38) rfl (hb hby d1_31) rfl ((if0 _ _).trans (flt (fun q => l1 ((lw_lt q1 q3).mp q))).2.1) (by decide) (by decide) k) ?_
  refine oS (fun t k => oIc li_0 X3.here hx rfl (hb hby d1_38) k) ?_
  show oG _ _ _ _ _ _ _ (T3.setTop (mkF m 39 #[.val (.ref a1), .val (.ref a2), .val (.int 0), .val (.int 0), .val (.int 0)] [(.int 0), (.int 0)]))
  refine oS (S' := (T3.setTop (mkF m 40 #[.val (.ref a1), .val (.ref a2), .val (.int 0), .val (.int 0), .val (.int 0)] [(.int 0)]))) (fun t k => XS.ior X3.here hx rfl (hb hby d1_39) rfl (by rw [show (0 : Int32) ||| (0 : Int32) = (0 : Int32) from by decide]; exact k)) ?_
  refine oS (fun t k => XS.istoreN X3.here hx rfl (hb hby d1_40) rfl (l' := #[.val (.ref a1), .val (.ref a2), .val (.int 0), .val (.int 0), .val (.int 0)]) rfl k) ?_
  refine oS (fun t k => XS.iloadN X3.here hx rfl (hb hby d1_41) rfl k) ?_
  refine oS (fun t k => XS.aloadN X3.here hx rfl (hb hby d1_42) rfl rfl k) ?_
  refine oS (fun t k => XS.iload X3.here hx rfl (hb hby d1_43) rfl k) ?_
  obtain ⟨cl7, Ar7, qk7, Sz7, Ng7, Ha7, Gf7⟩ := id V_a1
  have hin7 : ¬ ((0 : Int32) < 0 ∨ cl7.slots.size ≤ ((0 : Int32)).toNatClampNeg) := (inb_of Sz7 ⟨by decide, by decide⟩)
  have hat7 : cl7.slots[((0 : Int32)).toNatClampNeg]? = some (.long q1) := Ha7.at hin7 rfl
  refine oS (fun t k => X3.laload hx (j := (0 : Int32)) (v := (.long q1)) (by rw [e3]; exact Ar7.1) (State.isArrayOf_alike hZ.alike Ar7.2.1) Ar7.2.2 hin7 hat7 (g := (mkF m 45 #[.val (.ref a1), .val (.ref a2), .val (.int 0), .val (.int 0), .val (.int 0)] [(.int 0), (.ref a1), (.int 0)])) rfl rfl (hb hby d1_45) t k) ?_
  refine oS (fun t k => XS.aloadN X3.here hx rfl (hb hby d1_46) rfl rfl k) ?_
  refine oS (fun t k => XS.iload X3.here hx rfl (hb hby d1_47) rfl k) ?_
  obtain ⟨cl8, Ar8, qk8, Sz8, Ng8, Ha8, Gf8⟩ := id V_a2
  have hin8 : ¬ ((0 : Int32) < 0 ∨ cl8.slots.size ≤ ((0 : Int32)).toNatClampNeg) := (inb_of Sz8 ⟨by decide, by decide⟩)
  have hat8 : cl8.slots[((0 : Int32)).toNatClampNeg]? = some (.long q3) := Ha8.at hin8 rfl
  refine oS (fun t k => X3.laload hx (j := (0 : Int32)) (v := (.long q3)) (by rw [e3]; exact Ar8.1) (State.isArrayOf_alike hZ.alike Ar8.2.1) Ar8.2.2 hin8 hat8 (g := (mkF m 49 #[.val (.ref a1), .val (.ref a2), .val (.int 0), .val (.int 0), .val (.int 0)] [(.int 0), (.ref a2), (.long q1), (.int 0)])) rfl rfl (hb hby d1_49) t k) ?_
  refine oS (fun t k => XS.lcmp X3.here hx rfl (hb hby d1_50) rfl k) ?_
  show oG _ _ _ _ _ _ _ (T3.setTop (mkF m 51 #[.val (.ref a1), .val (.ref a2), .val (.int 0), .val (.int 0), .val (.int 0)] [(.int (lcmpW q1 q3)), (.int 0)]))
  refine oS (fun t k => XS.ifNo X3.here hx rfl (hb hby d1_51) rfl ((if0 _ _).trans (tlt ((lw_gt q1 q3).mpr g1)).2.2.2) k) ?_
  refine oS (fun t k => oIc li_1 X3.here hx rfl (hb hby d1_54) k) ?_
  refine oS (fun t k => XS.goto X3.here hx rfl (pc0 := 55) (pc' := 59) rfl (hb hby d1_55) (by decide) (by decide) k) ?_
  refine oS (S' := (T3.setTop (mkF m 60 #[.val (.ref a1), .val (.ref a2), .val (.int 0), .val (.int 0), .val (.int 0)] [(.int 1)]))) (fun t k => XS.ior X3.here hx rfl (hb hby d1_59) rfl (by rw [show (0 : Int32) ||| (1 : Int32) = (1 : Int32) from by decide]; exact k)) ?_
  refine oS (fun t k => XS.istoreN X3.here hx rfl (hb hby d1_60) rfl (l' := #[.val (.ref a1), .val (.ref a2), .val (.int 0), .val (.int 1), .val (.int 0)]) rfl k) ?_
  refine oS (fun t k => XS.iinc X3.here hx rfl (hb hby d1_61) rfl (l' := #[.val (.ref a1), .val (.ref a2), .val (.int 0), .val (.int 1), .val (.int 1)]) rfl k) ?_
  show oG _ _ _ _ _ _ _ (T3.setTop (mkF m 64 #[.val (.ref a1), .val (.ref a2), .val (.int 0), .val (.int 1), .val (.int 1)] []))
  refine oS (fun t k => XS.goto X3.here hx rfl (pc0 := 64) (pc' := 14) rfl (hb hby d1_64) (by decide) (by decide) k) ?_
  refine oS (fun t k => XS.iload X3.here hx rfl (hb hby d1_14) rfl k) ?_
  refine oS (fun t k => XS.aloadN X3.here hx rfl (hb hby d1_16) rfl rfl k) ?_
  obtain ⟨cl9, Ar9, -, Sz9, Ng9, -, -⟩ := id V_a1
  refine oS (S' := (T3.setTop (mkF m 18 #[.val (.ref a1), .val (.ref a2), .val (.int 0), .val (.int 1), .val (.int 1)] [(.int 2), (.int 1)]))) (fun t k => X3.arraylength hx (by rw [e3]; exact Ar9.1) (State.isArrayOf_alike hZ.alike Ar9.2.1) (g := (mkF m 17 #[.val (.ref a1), .val (.ref a2), .val (.int 0), .val (.int 1), .val (.int 1)] [(.ref a1), (.int 1)])) rfl rfl (hb hby d1_17) t (by rw [len_of Sz9 Ng9]; exact k)) ?_
  refine oS (fun t k => XS.icmpNo X3.here hx rfl (hb hby d1_18) rfl (tlt (by decide)).2.1 k) ?_
  refine oS (fun t k => XS.iloadN X3.here hx rfl (hb hby d1_21) rfl k) ?_
  refine oS (fun t k => XS.aloadN X3.here hx rfl (hb hby d1_22) rfl rfl k) ?_
  refine oS (fun t k => XS.iload X3.here hx rfl (hb hby d1_23) rfl k) ?_
  obtain ⟨cl10, Ar10, qk10, Sz10, Ng10, Ha10, Gf10⟩ := id V_a1
  have hin10 : ¬ ((1 : Int32) < 0 ∨ cl10.slots.size ≤ ((1 : Int32)).toNatClampNeg) := (inb_of Sz10 ⟨by decide, by decide⟩)
  have hat10 : cl10.slots[((1 : Int32)).toNatClampNeg]? = some (.long q2) := Ha10.at hin10 rfl
  refine oS (fun t k => X3.laload hx (j := (1 : Int32)) (v := (.long q2)) (by rw [e3]; exact Ar10.1) (State.isArrayOf_alike hZ.alike Ar10.2.1) Ar10.2.2 hin10 hat10 (g := (mkF m 25 #[.val (.ref a1), .val (.ref a2), .val (.int 0), .val (.int 1), .val (.int 1)] [(.int 1), (.ref a1), (.int 0)])) rfl rfl (hb hby d1_25) t k) ?_
  refine oS (fun t k => XS.aloadN X3.here hx rfl (hb hby d1_26) rfl rfl k) ?_
  show oG _ _ _ _ _ _ _ (T3.setTop (mkF m 27 #[.val (.ref a1), .val (.ref a2), .val (.int 0), .val (.int 1), .val (.int 1)] [(.ref a2), (.long q2), (.int 0)]))
  refine oS (fun t k => XS.iload X3.here hx rfl (hb hby d1_27) rfl k) ?_
  obtain ⟨cl11, Ar11, qk11, Sz11, Ng11, Ha11, Gf11⟩ := id V_a2
  have hin11 : ¬ ((1 : Int32) < 0 ∨ cl11.slots.size ≤ ((1 : Int32)).toNatClampNeg) := (inb_of Sz11 ⟨by decide, by decide⟩)
  have hat11 : cl11.slots[((1 : Int32)).toNatClampNeg]? = some (.long q4) := Ha11.at hin11 rfl
  refine oS (fun t k => X3.laload hx (j := (1 : Int32)) (v := (.long q4)) (by rw [e3]; exact Ar11.1) (State.isArrayOf_alike hZ.alike Ar11.2.1) Ar11.2.2 hin11 hat11 (g := (mkF m 29 #[.val (.ref a1), .val (.ref a2), .val (.int 0), .val (.int 1), .val (.int 1)] [(.int 1), (.ref a2), (.long q2), (.int 0)])) rfl rfl (hb hby d1_29) t k) ?_
  refine oS (fun t k => XS.lcmp X3.here hx rfl (hb hby d1_30) rfl k) ?_
  refine oS (fun t k => XS.ifYes X3.here hx rfl (pc0 := 31) (pc' := 38) rfl (hb hby d1_31) rfl ((if0 _ _).trans (flt (fun q => l2 ((lw_lt q2 q4).mp q))).2.1) (by decide) (by decide) k) ?_
  refine oS (fun t k => oIc li_0 X3.here hx rfl (hb hby d1_38) k) ?_
  refine oS (S' := (T3.setTop (mkF m 40 #[.val (.ref a1), .val (.ref a2), .val (.int 0), .val (.int 1), .val (.int 1)] [(.int 0)]))) (fun t k => XS.ior X3.here hx rfl (hb hby d1_39) rfl (by rw [show (0 : Int32) ||| (0 : Int32) = (0 : Int32) from by decide]; exact k)) ?_
  refine oS (fun t k => XS.istoreN X3.here hx rfl (hb hby d1_40) rfl (l' := #[.val (.ref a1), .val (.ref a2), .val (.int 0), .val (.int 1), .val (.int 1)]) rfl k) ?_
  refine oS (fun t k => XS.iloadN X3.here hx rfl (hb hby d1_41) rfl k) ?_
  refine oS (fun t k => XS.aloadN X3.here hx rfl (hb hby d1_42) rfl rfl k) ?_
  refine oS (fun t k => XS.iload X3.here hx rfl (hb hby d1_43) rfl k) ?_
  show oG _ _ _ _ _ _ _ (T3.setTop (mkF m 45 #[.val (.ref a1), .val (.ref a2), .val (.int 0), .val (.int 1), .val (.int 1)] [(.int 1), (.ref a1), (.int 1)]))
  obtain ⟨cl12, Ar12, qk12, Sz12, Ng12, Ha12, Gf12⟩ := id V_a1
  have hin12 : ¬ ((1 : Int32) < 0 ∨ cl12.slots.size ≤ ((1 : Int32)).toNatClampNeg) := (inb_of Sz12 ⟨by decide, by decide⟩)
  have hat12 : cl12.slots[((1 : Int32)).toNatClampNeg]? = some (.long q2) := Ha12.at hin12 rfl
  refine oS (fun t k => X3.laload hx (j := (1 : Int32)) (v := (.long q2)) (by rw [e3]; exact Ar12.1) (State.isArrayOf_alike hZ.alike Ar12.2.1) Ar12.2.2 hin12 hat12 (g := (mkF m 45 #[.val (.ref a1), .val (.ref a2), .val (.int 0), .val (.int 1), .val (.int 1)] [(.int 1), (.ref a1), (.int 1)])) rfl rfl (hb hby d1_45) t k) ?_
  refine oS (fun t k => XS.aloadN X3.here hx rfl (hb hby d1_46) rfl rfl k) ?_
  refine oS (fun t k => XS.iload X3.here hx rfl (hb hby d1_47) rfl k) ?_
  obtain ⟨cl13, Ar13, qk13, Sz13, Ng13, Ha13, Gf13⟩ := id V_a2
  have hin13 : ¬ ((1 : Int32) < 0 ∨ cl13.slots.size ≤ ((1 : Int32)).toNatClampNeg) := (inb_of Sz13 ⟨by decide, by decide⟩)
  have hat13 : cl13.slots[((1 : Int32)).toNatClampNeg]? = some (.long q4) := Ha13.at hin13 rfl
  refine oS (fun t k => X3.laload hx (j := (1 : Int32)) (v := (.long q4)) (by rw [e3]; exact Ar13.1) (State.isArrayOf_alike hZ.alike Ar13.2.1) Ar13.2.2 hin13 hat13 (g := (mkF m 49 #[.val (.ref a1), .val (.ref a2), .val (.int 0), .val (.int 1), .val (.int 1)] [(.int 1), (.ref a2), (.long q2), (.int 1)])) rfl rfl (hb hby d1_49) t k) ?_
  refine oS (fun t k => XS.lcmp X3.here hx rfl (hb hby d1_50) rfl k) ?_
  refine oS (fun t k => XS.ifYes X3.here hx rfl (pc0 := 51) (pc' := 58) rfl (hb hby d1_51) rfl ((if0 _ _).trans (flt (fun q => g2 ((lw_gt q2 q4).mp q))).2.2.2) (by decide) (by decide) k) ?_
  refine oS (fun t k => oIc li_0 X3.here hx rfl (hb hby d1_58) k) ?_
  refine oS (S' := (T3.setTop (mkF m 60 #[.val (.ref a1), .val (.ref a2), .val (.int 0), .val (.int 1), .val (.int 1)] [(.int 1)]))) (fun t k => XS.ior X3.here hx rfl (hb hby d1_59) rfl (by rw [show (1 : Int32) ||| (0 : Int32) = (1 : Int32) from by decide]; exact k)) ?_
  refine oS (fun t k => XS.istoreN X3.here hx rfl (hb hby d1_60) rfl (l' := #[.val (.ref a1), .val (.ref a2), .val (.int 0), .val (.int 1), .val (.int 1)]) rfl k) ?_
  refine oS (fun t k => XS.iinc X3.here hx rfl (hb hby d1_61) rfl (l' := #[.val (.ref a1), .val (.ref a2), .val (.int 0), .val (.int 1), .val (.int 2)]) rfl k) ?_
  show oG _ _ _ _ _ _ _ (T3.setTop (mkF m 64 #[.val (.ref a1), .val (.ref a2), .val (.int 0), .val (.int 1), .val (.int 2)] []))
  refine oS (fun t k => XS.goto X3.here hx rfl (pc0 := 64) (pc' := 14) rfl (hb hby d1_64) (by decide) (by decide) k) ?_
  refine oS (fun t k => XS.iload X3.here hx rfl (hb hby d1_14) rfl k) ?_
  refine oS (fun t k => XS.aloadN X3.here hx rfl (hb hby d1_16) rfl rfl k) ?_
  obtain ⟨cl14, Ar14, -, Sz14, Ng14, -, -⟩ := id V_a1
  refine oS (S' := (T3.setTop (mkF m 18 #[.val (.ref a1), .val (.ref a2), .val (.int 0), .val (.int 1), .val (.int 2)] [(.int 2), (.int 2)]))) (fun t k => X3.arraylength hx (by rw [e3]; exact Ar14.1) (State.isArrayOf_alike hZ.alike Ar14.2.1) (g := (mkF m 17 #[.val (.ref a1), .val (.ref a2), .val (.int 0), .val (.int 1), .val (.int 2)] [(.ref a1), (.int 2)])) rfl rfl (hb hby d1_17) t (by rw [len_of Sz14 Ng14]; exact k)) ?_
  refine oS (fun t k => XS.icmpYes X3.here hx rfl (pc0 := 18) (pc' := 67) rfl (hb hby d1_18) rfl (flt (by decide)).2.1 (by decide) (by decide) k) ?_
  refine oS (fun t k => XS.iloadN X3.here hx rfl (hb hby d1_67) rfl k) ?_
  refine oS (fun t k => XS.iloadN X3.here hx rfl (hb hby d1_68) rfl k) ?_
  obtain ⟨_, _, ⟨T15, L15, k15, n15⟩, -, X15, ⟨Lc15, hQ15, l15, y15, z15⟩, st15⟩ := Jvm.LawKit.callS X3 hx (y := mY0) hown (mvT hZ (oW hw 8 rfl)) (mvT hZ (oW hw 9 rfl)) (mvT hZ (oW hw 3 rfl)) (mvT hZ (oW hw 10 rfl)) (by decide) (backOf (W := 0) (rm_zz_01 l Z a0 hw []  w h0 n0 O0 W ) hZ (oW hw 10 rfl) (oW hw 3 rfl) (by decide) (by decide)) (g := (mkF m 69 #[.val (.ref a1), .val (.ref a2), .val (.int 0), .val (.int 1), .val (.int 2)] [(.int 1), (.int 0)])) rfl (by rw [hml]; rfl) (argsL := [(.int 0), (.int 1)]) (rest := []) (lenOf pd_1 rfl) rfl (by show 2 * 0 + _ ≤ _; exact Nat.le_of_eq rfl) (hb hby d1_69) (fun _ _ => ⟨rfl, e3, (by decide : 0 + 0 ≤ _), (by decide : 0 + 0 ≤ _)⟩)
  dsimp only [Pt.U, Pt.locs, Pt.cells, Pt.slots] at X15 l15 y15 z15 st15 hQ15
  subst l15 y15 z15
  obtain ⟨rfl, Nq15, e15⟩ := hQ15
  have N15 := Fr.app N3 Nq15
  refine oS (fun t k => st15 t k) ?_
  show oG _ _ _ _ _ _ _ (T15.setTop (mkF m 72 #[.val (.ref a1), .val (.ref a2), .val (.int 0), .val (.int 1), .val (.int 2)] [(.ref (w 3))]))
  try clear st15 X3 e3
  exact own_ret (v := some (.ref (w 3))) X15 (fun h => by rw [Bd.returns] at h; cases h) Bd.notSynchronized (fun fs hr => retOut X15 hx (t := (.object "com/example/shiftweave/shiftweave/engine/Dominance")) Bd.returns rfl (Or.inr (Or.inr (Or.inr (Or.inr ⟨rfl, rfl, rfl⟩)))) (hb hby d1_72) hr) (by rw [e15]; exact ⟨rfl, N15, rfl⟩) (by decide) (by decide)
def Q_of_20 (Z : State) (a1 : Addr) (a2 : Addr) (k1 : ClassId) (k2 : ClassId) (q1 : Int64) (q2 : Int64) (q3 : Int64) (q4 : Int64) (w : Nat → Addr) (h0 : Heap) (n0 : Nat) (v : Option Value) (h : Heap) (L : List Loc) : Prop := v = some (.ref (w 1)) ∧ Fr n0 L ∧ h = h0
set_option maxRecDepth 65536 in
set_option maxHeartbeats 40000000 in
theorem rm_of_20 (l : Launch) (Z : State) (a0 : Array Value) (hw : ∀ d ∈ tables_1, d.before a0 Z = true) (ws : List Jvm.Cond) (a1 : Addr) (a2 : Addr) (k1 : ClassId) (k2 : ClassId) (q1 : Int64) (q2 : Int64) (q3 : Int64) (q4 : Int64) (w : Nat → Addr) (h0 : Heap) (n0 : Nat) (O0 : Old Z n0 h0) (W : own_World Z w) (V_a1 : Arv Z h0 a1 k1 .long (2 : Int32) [(.long q1), (.long q2)] (.long (0 : Int64))) (V_a2 : Arv Z h0 a2 k2 .long (2 : Int32) [(.long q3), (.long q4)] (.long (0 : Int64))) (l1 : ¬ (q1 < q3)) (g1 : ¬ (q3 < q1)) (l2 : q2 < q4) (g2 : ¬ (q4 < q2)) :
    MetFree l mY3 (head1 (Jvm.Cond.code mY3 prog_24_method_4_code 5 (some (.object "com/example/shiftweave/shiftweave/engine/Dominance")) :: ws) ({ frames := 1, cells := 0, slots := 0, locals := 14 } : Room)) (fun a U => a = #[(.ref a1), (.ref a2)] ∧ Z.Warmed39 U.vm ∧ U.heap = h0) (fun _ _ _ _ _ => True) (fun _ U o U' => ∃ v L, o = .returned v ∧ Q_of_20 Z a1 a2 k1 k2 q1 q2 q3 q4 w h0 n0 v U'.heap L ∧ FrameEnd U o U' L ({ frames := 1, cells := 0, slots := 0, locals := 14 } : Room).cells ({ frames := 1, cells := 0, slots := 0, locals := 14 } : Room).slots) := by
  refine MetFree.of_bodySF (plainFor_of_name pn_0) hisR ?_
  intro p e s m args below meth c s₁ Bd hml0 hP hK
  obtain ⟨rfl, hZ, hh⟩ := hP
  have hx := Bd.exec
  have hby := Bd.bytes
  have hml : c.maxLocals = 5 := hml0
  have hown : s.vm.findClass "com/example/shiftweave/shiftweave/engine/Dominance" = some m.cls := findClass_of_methodNamed Bd.named
  have hnm := (name_of_methodNamed Bd.named Bd.method).1
  have X0 : Stand p l e ({ frames := 1, cells := 0, slots := 0, locals := 14 } : Room) s m #[(.ref a1), (.ref a2)] below meth c s₁ [] 0 0 := Stand.of_body Bd
  have e0 : s₁.heap = h0 := by rw [← hh, Bd.state]; rfl
  have N0 := Fr.nil n0
  show oG p e below s (Q_of_20 Z a1 a2 k1 k2 q1 q2 q3 q4 w h0 n0) ({ frames := 1, cells := 0, slots := 0, locals := 14 } : Room).cells ({ frames := 1, cells := 0, slots := 0, locals := 14 } : Room).slots _
  refine oS (fun t k => castTop (ef_1_rr m a1 a2) k) ?_
  show oG _ _ _ _ _ _ _ (s₁.setTop (mkF m 0 #[.val (.ref a1), .val (.ref a2), .unset, .unset, .unset] []))
  refine oS (fun t k => XS.aloadN X0.here hx rfl (hb hby d1_0) rfl rfl k) ?_
  obtain ⟨cl1, Ar1, -, Sz1, Ng1, -, -⟩ := id V_a1
  refine oS (S' := (s₁.setTop (mkF m 2 #[.val (.ref a1), .val (.ref a2), .unset, .unset, .unset] [(.int 2)]))) (fun t k => X0.arraylength hx (by rw [e0]; exact Ar1.1) (State.isArrayOf_alike hZ.alike Ar1.2.1) (g := (mkF m 1 #[.val (.ref a1), .val (.ref a2), .unset, .unset, .unset] [(.ref a1)])) rfl rfl (hb hby d1_1) t (by rw [len_of Sz1 Ng1]; exact k)) ?_
  refine oS (fun t k => XS.aloadN X0.here hx rfl (hb hby d1_2) rfl rfl k) ?_
  obtain ⟨cl2, Ar2, -, Sz2, Ng2, -, -⟩ := id V_a2
  refine oS (S' := (s₁.setTop (mkF m 4 #[.val (.ref a1), .val (.ref a2), .unset, .unset, .unset] [(.int 2), (.int 2)]))) (fun t k => X0.arraylength hx (by rw [e0]; exact Ar2.1) (State.isArrayOf_alike hZ.alike Ar2.2.1) (g := (mkF m 3 #[.val (.ref a1), .val (.ref a2), .unset, .unset, .unset] [(.ref a2), (.int 2)])) rfl rfl (hb hby d1_3) t (by rw [len_of Sz2 Ng2]; exact k)) ?_
  obtain ⟨_, _, ⟨T3, L3, k3, n3⟩, -, X3, ⟨Lc3, hQ3, l3, y3, z3⟩, st3⟩ := Jvm.LawKit.callS X0 hx (y := mY1) hown (mvT hZ (oW hw 5 rfl)) (mvT hZ (oW hw 6 rfl)) (mvT hZ (oW hw 3 rfl)) (mvT hZ (oW hw 7 rfl)) (by decide) (backOf (W := 0) (rm_chk l Z a0 hw []   h0 n0 O0  ) hZ (oW hw 7 rfl) (oW hw 3 rfl) (by decide) (by decide)) (g := (mkF m 4 #[.val (.ref a1), .val (.ref a2), .unset, .unset, .unset] [(.int 2), (.int 2)])) rfl (by rw [hml]; rfl) (argsL := [(.int 2), (.int 2)]) (rest := []) (lenOf pd_0 rfl) rfl (by show 2 * 0 + _ ≤ _; exact Nat.le_of_eq rfl) (hb hby d1_4) (fun _ _ => ⟨rfl, e0, (by decide : 0 + 0 ≤ _), (by decide : 0 + 0 ≤ _)⟩)
  dsimp only [Pt.U, Pt.locs, Pt.cells, Pt.slots] at X3 l3 y3 z3 st3 hQ3
  subst l3 y3 z3
  obtain ⟨rfl, Nq3, e3⟩ := hQ3
  have N3 := Fr.app N0 Nq3
  refine oS (fun t k => st3 t k) ?_
  show oG _ _ _ _ _ _ _ (T3.setTop (mkF m 7 #[.val (.ref a1), .val (.ref a2), .unset, .unset, .unset] []))
  try clear st3
  refine oS (fun t k => oIc li_0 X3.here hx rfl (hb hby d1_7) k) ?_
  refine oS (fun t k => XS.istoreN X3.here hx rfl (hb hby d1_8) rfl (l' := #[.val (.ref a1), .val (.ref a2), .val (.int 0), .unset, .unset]) rfl k) ?_
  refine oS (fun t k => oIc li_0 X3.here hx rfl (hb hby d1_9) k) ?_
  refine oS (fun t k => XS.istoreN X3.here hx rfl (hb hby d1_10) rfl (l' := #[.val (.ref a1), .val (.ref a2), .val (.int 0), .val (.int 0), .unset]) rfl k) ?_
  refine oS (fun t k => oIc li_0 X3.here hx rfl (hb hby d1_11) k) ?_
  refine oS (fun t k => XS.istore X3.here hx rfl (hb hby d1_12) rfl (l' := #[.val (.ref a1), .val (.ref a2), .val (.int 0), .val (.int 0), .val (.int 0)]) rfl k) ?_
  refine oS (fun t k => XS.iload X3.here hx rfl (hb hby d1_14) rfl k) ?_
  refine oS (fun t k => XS.aloadN X3.here hx rfl (hb hby d1_16) rfl rfl k) ?_
  obtain ⟨cl4, Ar4, -, Sz4, Ng4, -, -⟩ := id V_a1
  refine oS (S' := (T3.setTop (mkF m 18 #[.val (.ref a1), .val (.ref a2), .val (.int 0), .val (.int 0), .val (.int 0)] [(.int 2), (.int 0)]))) (fun t k => X3.arraylength hx (by rw [e3]; exact Ar4.1) (State.isArrayOf_alike hZ.alike Ar4.2.1) (g := (mkF m 17 #[.val (.ref a1), .val (.ref a2), .val (.int 0), .val (.int 0), .val (.int 0)] [(.ref a1), (.int 0)])) rfl rfl (hb hby d1_17) t (by rw [len_of Sz4 Ng4]; exact k)) ?_
  refine oS (fun t k => XS.icmpNo X3.here hx rfl (hb hby d1_18) rfl (tlt (by decide)).2.1 k) ?_
  show oG _ _ _ _ _ _ _ (T3.setTop (mkF m 21 #[.val (.ref a1), .val (.ref a2), .val (.int 0), .val (.int 0), .val (.int 0)] []))
  refine oS (fun t k => XS.iloadN X3.here hx rfl (hb hby d1_21) rfl k) ?_
  refine oS (fun t k => XS.aloadN X3.here hx rfl (hb hby d1_22) rfl rfl k) ?_
  refine oS (fun t k => XS.iload X3.here hx rfl (hb hby d1_23) rfl k) ?_
  obtain ⟨cl5, Ar5, qk5, Sz5, Ng5, Ha5, Gf5⟩ := id V_a1
  have hin5 : ¬ ((0 : Int32) < 0 ∨ cl5.slots.size ≤ ((0 : Int32)).toNatClampNeg) := (inb_of Sz5 ⟨by decide, by decide⟩)
  have hat5 : cl5.slots[((0 : Int32)).toNatClampNeg]? = some (.long q1) := Ha5.at hin5 rfl
  refine oS (fun t k => X3.laload hx (j := (0 : Int32)) (v := (.long q1)) (by rw [e3]; exact Ar5.1) (State.isArrayOf_alike hZ.alike Ar5.2.1) Ar5.2.2 hin5 hat5 (g := (mkF m 25 #[.val (.ref a1), .val (.ref a2), .val (.int 0), .val (.int 0), .val (.int 0)] [(.int 0), (.ref a1), (.int 0)])) rfl rfl (hb hby d1_25) t k) ?_
  refine oS (fun t k => XS.aloadN X3.here hx rfl (hb hby d1_26) rfl rfl k) ?_
  refine oS (fun t k => XS.iload X3.here hx rfl (hb hby d1_27) rfl k) ?_
  obtain ⟨cl6, Ar6, qk6, Sz6, Ng6, Ha6, Gf6⟩ := id V_a2
  have hin6 : ¬ ((0 : Int32) < 0 ∨ cl6.slots.size ≤ ((0 : Int32)).toNatClampNeg) := (inb_of Sz6 ⟨by decide, by decide⟩)
  have hat6 : cl6.slots[((0 : Int32)).toNatClampNeg]? = some (.long q3) := Ha6.at hin6 rfl
  refine oS (fun t k => X3.laload hx (j := (0 : Int32)) (v := (.long q3)) (by rw [e3]; exact Ar6.1) (State.isArrayOf_alike hZ.alike Ar6.2.1) Ar6.2.2 hin6 hat6 (g := (mkF m 29 #[.val (.ref a1), .val (.ref a2), .val (.int 0), .val (.int 0), .val (.int 0)] [(.int 0), (.ref a2), (.long q1), (.int 0)])) rfl rfl (hb hby d1_29) t k) ?_
  refine oS (fun t k => XS.lcmp X3.here hx rfl (hb hby d1_30) rfl k) ?_
  refine oS (fun t k => XS.ifYes X3.here hx rfl (pc0 := 31) (pc' := 38) rfl (hb hby d1_31) rfl ((if0 _ _).trans (flt (fun q => l1 ((lw_lt q1 q3).mp q))).2.1) (by decide) (by decide) k) ?_
  refine oS (fun t k => oIc li_0 X3.here hx rfl (hb hby d1_38) k) ?_
  show oG _ _ _ _ _ _ _ (T3.setTop (mkF m 39 #[.val (.ref a1), .val (.ref a2), .val (.int 0), .val (.int 0), .val (.int 0)] [(.int 0), (.int 0)]))
  refine oS (S' := (T3.setTop (mkF m 40 #[.val (.ref a1), .val (.ref a2), .val (.int 0), .val (.int 0), .val (.int 0)] [(.int 0)]))) (fun t k => XS.ior X3.here hx rfl (hb hby d1_39) rfl (by rw [show (0 : Int32) ||| (0 : Int32) = (0 : Int32) from by decide]; exact k)) ?_
  refine oS (fun t k => XS.istoreN X3.here hx rfl (hb hby d1_40) rfl (l' := #[.val (.ref a1), .val (.ref a2), .val (.int 0), .val (.int 0), .val (.int 0)]) rfl k) ?_
  refine oS (fun t k => XS.iloadN X3.here hx rfl (hb hby d1_41) rfl k) ?_
  refine oS (fun t k => XS.aloadN X3.here hx rfl (hb hby d1_42) rfl rfl k) ?_
  refine oS (fun t k => XS.iload X3.here hx rfl (hb hby d1_43) rfl k) ?_
  obtain ⟨cl7, Ar7, qk7, Sz7, Ng7, Ha7, Gf7⟩ := id V_a1
  have hin7 : ¬ ((0 : Int32) < 0 ∨ cl7.slots.size ≤ ((0 : Int32)).toNatClampNeg) := (inb_of Sz7 ⟨by decide, by decide⟩)
  have hat7 : cl7.slots[((0 : Int32)).toNatClampNeg]? = some (.long q1) := Ha7.at hin7 rfl
  refine oS (fun t k => X3.laload hx (j := (0 : Int32)) (v := (.long q1)) (by rw [e3]; exact Ar7.1) (State.isArrayOf_alike hZ.alike Ar7.2.1) Ar7.2.2 hin7 hat7 (g := (mkF m 45 #[.val (.ref a1), .val (.ref a2), .val (.int 0), .val (.int 0), .val (.int 0)] [(.int 0), (.ref a1), (.int 0)])) rfl rfl (hb hby d1_45) t k) ?_
  refine oS (fun t k => XS.aloadN X3.here hx rfl (hb hby d1_46) rfl rfl k) ?_
  refine oS (fun t k => XS.iload X3.here hx rfl (hb hby d1_47) rfl k) ?_
  obtain ⟨cl8, Ar8, qk8, Sz8, Ng8, Ha8, Gf8⟩ := id V_a2
  have hin8 : ¬ ((0 : Int32) < 0 ∨ cl8.slots.size ≤ ((0 : Int32)).toNatClampNeg) := (inb_of Sz8 ⟨by decide, by decide⟩)
  have hat8 : cl8.slots[((0 : Int32)).toNatClampNeg]? = some (.long q3) := Ha8.at hin8 rfl
  refine oS (fun t k => X3.laload hx (j := (0 : Int32)) (v := (.long q3)) (by rw [e3]; exact Ar8.1) (State.isArrayOf_alike hZ.alike Ar8.2.1) Ar8.2.2 hin8 hat8 (g := (mkF m 49 #[.val (.ref a1), .val (.ref a2), .val (.int 0), .val (.int 0), .val (.int 0)] [(.int 0), (.ref a2), (.long q1), (.int 0)])) rfl rfl (hb hby d1_49) t k) ?_
  refine oS (fun t k => XS.lcmp X3.here hx rfl (hb hby d1_50) rfl k) ?_
  show oG _ _ _ _ _ _ _ (T3.setTop (mkF m 51 #[.val (.ref a1), .val (.ref a2), .val (.int 0), .val (.int 0), .val (.int 0)] [(.int (lcmpW q1 q3)), (.int 0)]))
  refine oS (fun t k => XS.ifYes X3.here hx rfl (pc0 := 51) (pc' := 58) rfl (hb hby d1_51) rfl ((if0 _ _).trans (flt (fun q => g1 ((lw_gt q1 q3).mp q))).2.2.2) (by decide) (by decide) k) ?_
  refine oS (fun t k => oIc li_0 X3.here hx rfl (hb hby d1_58) k) ?_
  refine oS (S' := (T3.setTop (mkF m 60 #[.val (.ref a1), .val (.ref a2), .val (.int 0), .val (.int 0), .val (.int 0)] [(.int 0)]))) (fun t k => XS.ior X3.here hx rfl (hb hby d1_59) rfl (by rw [show (0 : Int32) ||| (0 : Int32) = (0 : Int32) from by decide]; exact k)) ?_
  refine oS (fun t k => XS.istoreN X3.here hx rfl (hb hby d1_60) rfl (l' := #[.val (.ref a1), .val (.ref a2), .val (.int 0), .val (.int 0), .val (.int 0)]) rfl k) ?_
  refine oS (fun t k => XS.iinc X3.here hx rfl (hb hby d1_61) rfl (l' := #[.val (.ref a1), .val (.ref a2), .val (.int 0), .val (.int 0), .val (.int 1)]) rfl k) ?_
  show oG _ _ _ _ _ _ _ (T3.setTop (mkF m 64 #[.val (.ref a1), .val (.ref a2), .val (.int 0), .val (.int 0), .val (.int 1)] []))
  refine oS (fun t k => XS.goto X3.here hx rfl (pc0 := 64) (pc' := 14) rfl (hb hby d1_64) (by decide) (by decide) k) ?_
  refine oS (fun t k => XS.iload X3.here hx rfl (hb hby d1_14) rfl k) ?_
  refine oS (fun t k => XS.aloadN X3.here hx rfl (hb hby d1_16) rfl rfl k) ?_
  obtain ⟨cl9, Ar9, -, Sz9, Ng9, -, -⟩ := id V_a1
  refine oS (S' := (T3.setTop (mkF m 18 #[.val (.ref a1), .val (.ref a2), .val (.int 0), .val (.int 0), .val (.int 1)] [(.int 2), (.int 1)]))) (fun t k => X3.arraylength hx (by rw [e3]; exact Ar9.1) (State.isArrayOf_alike hZ.alike Ar9.2.1) (g := (mkF m 17 #[.val (.ref a1), .val (.ref a2), .val (.int 0), .val (.int 0), .val (.int 1)] [(.ref a1), (.int 1)])) rfl rfl (hb hby d1_17) t (by rw [len_of Sz9 Ng9]; exact k)) ?_
  refine oS (fun t k => XS.icmpNo X3.here hx rfl (hb hby d1_18) rfl (tlt (by decide)).2.1 k) ?_
  refine oS (fun t k => XS.iloadN X3.here hx rfl (hb hby d1_21) rfl k) ?_
  refine oS (fun t k => XS.aloadN X3.here hx rfl (hb hby d1_22) rfl rfl k) ?_
  refine oS (fun t k => XS.iload X3.here hx rfl (hb hby d1_23) rfl k) ?_
  obtain ⟨cl10, Ar10, qk10, Sz10, Ng10, Ha10, Gf10⟩ := id V_a1
  have hin10 : ¬ ((1 : Int32) < 0 ∨ cl10.slots.size ≤ ((1 : Int32)).toNatClampNeg) := (inb_of Sz10 ⟨by decide, by decide⟩)
  have hat10 : cl10.slots[((1 : Int32)).toNatClampNeg]? = some (.long q2) := Ha10.at hin10 rfl
  refine oS (fun t k => X3.laload hx (j := (1 : Int32)) (v := (.long q2)) (by rw [e3]; exact Ar10.1) (State.isArrayOf_alike hZ.alike Ar10.2.1) Ar10.2.2 hin10 hat10 (g := (mkF m 25 #[.val (.ref a1), .val (.ref a2), .val (.int 0), .val (.int 0), .val (.int 1)] [(.int 1), (.ref a1), (.int 0)])) rfl rfl (hb hby d1_25) t k) ?_
  refine oS (fun t k => XS.aloadN X3.here hx rfl (hb hby d1_26) rfl rfl k) ?_
  show oG _ _ _ _ _ _ _ (T3.setTop (mkF m 27 #[.val (.ref a1), .val (.ref a2), .val (.int 0), .val (.int 0), .val (.int 1)] [(.ref a2), (.long q2), (.int 0)]))
  refine oS (fun t k => XS.iload X3.here hx rfl (hb hby d1_27) rfl k) ?_
  obtain ⟨cl11, Ar11, qk11, Sz11, Ng11, Ha11, Gf11⟩ := id V_a2
  have hin11 : ¬ ((1 : Int32) < 0 ∨ cl11.slots.size ≤ ((1 : Int32)).toNatClampNeg) := (inb_of Sz11 ⟨by decide, by decide⟩)
  have hat11 : cl11.slots[((1 : Int32)).toNatClampNeg]? = some (.long q4) := Ha11.at hin11 rfl
  refine oS (fun t k => X3.laload hx (j := (1 : Int32)) (v := (.long q4)) (by rw [e3]; exact Ar11.1) (State.isArrayOf_alike hZ.alike Ar11.2.1) Ar11.2.2 hin11 hat11 (g := (mkF m 29 #[.val (.ref a1), .val (.ref a2), .val (.int 0), .val (.int 0), .val (.int 1)] [(.int 1), (.ref a2), (.long q2), (.int 0)])) rfl rfl (hb hby d1_29) t k) ?_
  refine oS (fun t k => XS.lcmp X3.here hx rfl (hb hby d1_30) rfl k) ?_
  refine oS (fun t k => XS.ifNo X3.here hx rfl (hb hby d1_31) rfl ((if0 _ _).trans (tlt ((lw_lt q2 q4).mpr l2)).2.1) k) ?_
  refine oS (fun t k => oIc li_1 X3.here hx rfl (hb hby d1_34) k) ?_
  refine oS (fun t k => XS.goto X3.here hx rfl (pc0 := 35) (pc' := 39) rfl (hb hby d1_35) (by decide) (by decide) k) ?_
  refine oS (S' := (T3.setTop (mkF m 40 #[.val (.ref a1), .val (.ref a2), .val (.int 0), .val (.int 0), .val (.int 1)] [(.int 1)]))) (fun t k => XS.ior X3.here hx rfl (hb hby d1_39) rfl (by rw [show (0 : Int32) ||| (1 : Int32) = (1 : Int32) from by decide]; exact k)) ?_
  refine oS (fun t k => XS.istoreN X3.here hx rfl (hb hby d1_40) rfl (l' := #[.val (.ref a1), .val (.ref a2), .val (.int 1), .val (.int 0), .val (.int 1)]) rfl k) ?_
  refine oS (fun t k => XS.iloadN X3.here hx rfl (hb hby d1_41) rfl k) ?_
  refine oS (fun t k => XS.aloadN X3.here hx rfl (hb hby d1_42) rfl rfl k) ?_
  show oG _ _ _ _ _ _ _ (T3.setTop (mkF m 43 #[.val (.ref a1), .val (.ref a2), .val (.int 1), .val (.int 0), .val (.int 1)] [(.ref a1), (.int 0)]))
  refine oS (fun t k => XS.iload X3.here hx rfl (hb hby d1_43) rfl k) ?_
  obtain ⟨cl12, Ar12, qk12, Sz12, Ng12, Ha12, Gf12⟩ := id V_a1
  have hin12 : ¬ ((1 : Int32) < 0 ∨ cl12.slots.size ≤ ((1 : Int32)).toNatClampNeg) := (inb_of Sz12 ⟨by decide, by decide⟩)
  have hat12 : cl12.slots[((1 : Int32)).toNatClampNeg]? = some (.long q2) := Ha12.at hin12 rfl
  refine oS (fun t k => X3.laload hx (j := (1 : Int32)) (v := (.long q2)) (by rw [e3]; exact Ar12.1) (State.isArrayOf_alike hZ.alike Ar12.2.1) Ar12.2.2 hin12 hat12 (g := (mkF m 45 #[.val (.ref a1), .val (.ref a2), .val (.int 1), .val (.int 0), .val (.int 1)] [(.int 1), (.ref a1), (.int 0)])) rfl rfl (hb hby d1_45) t k) ?_
  refine oS (fun t k => XS.aloadN X3.here hx rfl (hb hby d1_46) rfl rfl k) ?_
  refine oS (fun t k => XS.iload X3.here hx rfl (hb hby d1_47) rfl k) ?_
  obtain ⟨cl13, Ar13, qk13, Sz13, Ng13, Ha13, Gf13⟩ := id V_a2
  have hin13 : ¬ ((1 : Int32) < 0 ∨ cl13.slots.size ≤ ((1 : Int32)).toNatClampNeg) := (inb_of Sz13 ⟨by decide, by decide⟩)
  have hat13 : cl13.slots[((1 : Int32)).toNatClampNeg]? = some (.long q4) := Ha13.at hin13 rfl
  refine oS (fun t k => X3.laload hx (j := (1 : Int32)) (v := (.long q4)) (by rw [e3]; exact Ar13.1) (State.isArrayOf_alike hZ.alike Ar13.2.1) Ar13.2.2 hin13 hat13 (g := (mkF m 49 #[.val (.ref a1), .val (.ref a2), .val (.int 1), .val (.int 0), .val (.int 1)] [(.int 1), (.ref a2), (.long q2), (.int 0)])) rfl rfl (hb hby d1_49) t k) ?_
  refine oS (fun t k => XS.lcmp X3.here hx rfl (hb hby d1_50) rfl k) ?_
  refine oS (fun t k => XS.ifYes X3.here hx rfl (pc0 := 51) (pc' := 58) rfl (hb hby d1_51) rfl ((if0 _ _).trans (flt (fun q => g2 ((lw_gt q2 q4).mp q))).2.2.2) (by decide) (by decide) k) ?_
  refine oS (fun t k => oIc li_0 X3.here hx rfl (hb hby d1_58) k) ?_
  refine oS (S' := (T3.setTop (mkF m 60 #[.val (.ref a1), .val (.ref a2), .val (.int 1), .val (.int 0), .val (.int 1)] [(.int 0)]))) (fun t k => XS.ior X3.here hx rfl (hb hby d1_59) rfl (by rw [show (0 : Int32) ||| (0 : Int32) = (0 : Int32) from by decide]; exact k)) ?_
  refine oS (fun t k => XS.istoreN X3.here hx rfl (hb hby d1_60) rfl (l' := #[.val (.ref a1), .val (.ref a2), .val (.int 1), .val (.int 0), .val (.int 1)]) rfl k) ?_
  show oG _ _ _ _ _ _ _ (T3.setTop (mkF m 61 #[.val (.ref a1), .val (.ref a2), .val (.int 1), .val (.int 0), .val (.int 1)] []))
  refine oS (fun t k => XS.iinc X3.here hx rfl (hb hby d1_61) rfl (l' := #[.val (.ref a1), .val (.ref a2), .val (.int 1), .val (.int 0), .val (.int 2)]) rfl k) ?_
  show oG _ _ _ _ _ _ _ (T3.setTop (mkF m 64 #[.val (.ref a1), .val (.ref a2), .val (.int 1), .val (.int 0), .val (.int 2)] []))
  refine oS (fun t k => XS.goto X3.here hx rfl (pc0 := 64) (pc' := 14) rfl (hb hby d1_64) (by decide) (by decide) k) ?_
  refine oS (fun t k => XS.iload X3.here hx rfl (hb hby d1_14) rfl k) ?_
  refine oS (fun t k => XS.aloadN X3.here hx rfl (hb hby d1_16) rfl rfl k) ?_
  obtain ⟨cl14, Ar14, -, Sz14, Ng14, -, -⟩ := id V_a1
  refine oS (S' := (T3.setTop (mkF m 18 #[.val (.ref a1), .val (.ref a2), .val (.int 1), .val (.int 0), .val (.int 2)] [(.int 2), (.int 2)]))) (fun t k => X3.arraylength hx (by rw [e3]; exact Ar14.1) (State.isArrayOf_alike hZ.alike Ar14.2.1) (g := (mkF m 17 #[.val (.ref a1), .val (.ref a2), .val (.int 1), .val (.int 0), .val (.int 2)] [(.ref a1), (.int 2)])) rfl rfl (hb hby d1_17) t (by rw [len_of Sz14 Ng14]; exact k)) ?_
  refine oS (fun t k => XS.icmpYes X3.here hx rfl (pc0 := 18) (pc' := 67) rfl (hb hby d1_18) rfl (flt (by decide)).2.1 (by decide) (by decide) k) ?_
  refine oS (fun t k => XS.iloadN X3.here hx rfl (hb hby d1_67) rfl k) ?_
  refine oS (fun t k => XS.iloadN X3.here hx rfl (hb hby d1_68) rfl k) ?_
  obtain ⟨_, _, ⟨T15, L15, k15, n15⟩, -, X15, ⟨Lc15, hQ15, l15, y15, z15⟩, st15⟩ := Jvm.LawKit.callS X3 hx (y := mY0) hown (mvT hZ (oW hw 8 rfl)) (mvT hZ (oW hw 9 rfl)) (mvT hZ (oW hw 3 rfl)) (mvT hZ (oW hw 10 rfl)) (by decide) (backOf (W := 0) (rm_zz_10 l Z a0 hw []  w h0 n0 O0 W ) hZ (oW hw 10 rfl) (oW hw 3 rfl) (by decide) (by decide)) (g := (mkF m 69 #[.val (.ref a1), .val (.ref a2), .val (.int 1), .val (.int 0), .val (.int 2)] [(.int 0), (.int 1)])) rfl (by rw [hml]; rfl) (argsL := [(.int 1), (.int 0)]) (rest := []) (lenOf pd_1 rfl) rfl (by show 2 * 0 + _ ≤ _; exact Nat.le_of_eq rfl) (hb hby d1_69) (fun _ _ => ⟨rfl, e3, (by decide : 0 + 0 ≤ _), (by decide : 0 + 0 ≤ _)⟩)
  dsimp only [Pt.U, Pt.locs, Pt.cells, Pt.slots] at X15 l15 y15 z15 st15 hQ15
  subst l15 y15 z15
  obtain ⟨rfl, Nq15, e15⟩ := hQ15
  have N15 := Fr.app N3 Nq15
  refine oS (fun t k => st15 t k) ?_
  show oG _ _ _ _ _ _ _ (T15.setTop (mkF m 72 #[.val (.ref a1), .val (.ref a2), .val (.int 1), .val (.int 0), .val (.int 2)] [(.ref (w 1))]))
  try clear st15 X3 e3
  exact own_ret (v := some (.ref (w 1))) X15 (fun h => by rw [Bd.returns] at h; cases h) Bd.notSynchronized (fun fs hr => retOut X15 hx (t := (.object "com/example/shiftweave/shiftweave/engine/Dominance")) Bd.returns rfl (Or.inr (Or.inr (Or.inr (Or.inr ⟨rfl, rfl, rfl⟩)))) (hb hby d1_72) hr) (by rw [e15]; exact ⟨rfl, N15, rfl⟩) (by decide) (by decide)
def Q_of_21 (Z : State) (a1 : Addr) (a2 : Addr) (k1 : ClassId) (k2 : ClassId) (q1 : Int64) (q2 : Int64) (q3 : Int64) (q4 : Int64) (w : Nat → Addr) (h0 : Heap) (n0 : Nat) (v : Option Value) (h : Heap) (L : List Loc) : Prop := v = some (.ref (w 3)) ∧ Fr n0 L ∧ h = h0
set_option maxRecDepth 65536 in
set_option maxHeartbeats 40000000 in
theorem rm_of_21 (l : Launch) (Z : State) (a0 : Array Value) (hw : ∀ d ∈ tables_1, d.before a0 Z = true) (ws : List Jvm.Cond) (a1 : Addr) (a2 : Addr) (k1 : ClassId) (k2 : ClassId) (q1 : Int64) (q2 : Int64) (q3 : Int64) (q4 : Int64) (w : Nat → Addr) (h0 : Heap) (n0 : Nat) (O0 : Old Z n0 h0) (W : own_World Z w) (V_a1 : Arv Z h0 a1 k1 .long (2 : Int32) [(.long q1), (.long q2)] (.long (0 : Int64))) (V_a2 : Arv Z h0 a2 k2 .long (2 : Int32) [(.long q3), (.long q4)] (.long (0 : Int64))) (l1 : ¬ (q1 < q3)) (g1 : ¬ (q3 < q1)) (l2 : ¬ (q2 < q4)) (g2 : q4 < q2) :
    MetFree l mY3 (head1 (Jvm.Cond.code mY3 prog_24_method_4_code 5 (some (.object "com/example/shiftweave/shiftweave/engine/Dominance")) :: ws) ({ frames := 1, cells := 0, slots := 0, locals := 14 } : Room)) (fun a U => a = #[(.ref a1), (.ref a2)] ∧ Z.Warmed39 U.vm ∧ U.heap = h0) (fun _ _ _ _ _ => True) (fun _ U o U' => ∃ v L, o = .returned v ∧ Q_of_21 Z a1 a2 k1 k2 q1 q2 q3 q4 w h0 n0 v U'.heap L ∧ FrameEnd U o U' L ({ frames := 1, cells := 0, slots := 0, locals := 14 } : Room).cells ({ frames := 1, cells := 0, slots := 0, locals := 14 } : Room).slots) := by
  refine MetFree.of_bodySF (plainFor_of_name pn_0) hisR ?_
  intro p e s m args below meth c s₁ Bd hml0 hP hK
  obtain ⟨rfl, hZ, hh⟩ := hP
  have hx := Bd.exec
  have hby := Bd.bytes
  have hml : c.maxLocals = 5 := hml0
  have hown : s.vm.findClass "com/example/shiftweave/shiftweave/engine/Dominance" = some m.cls := findClass_of_methodNamed Bd.named
  have hnm := (name_of_methodNamed Bd.named Bd.method).1
  have X0 : Stand p l e ({ frames := 1, cells := 0, slots := 0, locals := 14 } : Room) s m #[(.ref a1), (.ref a2)] below meth c s₁ [] 0 0 := Stand.of_body Bd
  have e0 : s₁.heap = h0 := by rw [← hh, Bd.state]; rfl
  have N0 := Fr.nil n0
  show oG p e below s (Q_of_21 Z a1 a2 k1 k2 q1 q2 q3 q4 w h0 n0) ({ frames := 1, cells := 0, slots := 0, locals := 14 } : Room).cells ({ frames := 1, cells := 0, slots := 0, locals := 14 } : Room).slots _
  refine oS (fun t k => castTop (ef_1_rr m a1 a2) k) ?_
  show oG _ _ _ _ _ _ _ (s₁.setTop (mkF m 0 #[.val (.ref a1), .val (.ref a2), .unset, .unset, .unset] []))
  refine oS (fun t k => XS.aloadN X0.here hx rfl (hb hby d1_0) rfl rfl k) ?_
  obtain ⟨cl1, Ar1, -, Sz1, Ng1, -, -⟩ := id V_a1
  refine oS (S' := (s₁.setTop (mkF m 2 #[.val (.ref a1), .val (.ref a2), .unset, .unset, .unset] [(.int 2)]))) (fun t k => X0.arraylength hx (by rw [e0]; exact Ar1.1) (State.isArrayOf_alike hZ.alike Ar1.2.1) (g := (mkF m 1 #[.val (.ref a1), .val (.ref a2), .unset, .unset, .unset] [(.ref a1)])) rfl rfl (hb hby d1_1) t (by rw [len_of Sz1 Ng1]; exact k)) ?_
  refine oS (fun t k => XS.aloadN X0.here hx rfl (hb hby d1_2) rfl rfl k) ?_
  obtain ⟨cl2, Ar2, -, Sz2, Ng2, -, -⟩ := id V_a2
  refine oS (S' := (s₁.setTop (mkF m 4 #[.val (.ref a1), .val (.ref a2), .unset, .unset, .unset] [(.int 2), (.int 2)]))) (fun t k => X0.arraylength hx (by rw [e0]; exact Ar2.1) (State.isArrayOf_alike hZ.alike Ar2.2.1) (g := (mkF m 3 #[.val (.ref a1), .val (.ref a2), .unset, .unset, .unset] [(.ref a2), (.int 2)])) rfl rfl (hb hby d1_3) t (by rw [len_of Sz2 Ng2]; exact k)) ?_
  obtain ⟨_, _, ⟨T3, L3, k3, n3⟩, -, X3, ⟨Lc3, hQ3, l3, y3, z3⟩, st3⟩ := Jvm.LawKit.callS X0 hx (y := mY1) hown (mvT hZ (oW hw 5 rfl)) (mvT hZ (oW hw 6 rfl)) (mvT hZ (oW hw 3 rfl)) (mvT hZ (oW hw 7 rfl)) (by decide) (backOf (W := 0) (rm_chk l Z a0 hw []   h0 n0 O0  ) hZ (oW hw 7 rfl) (oW hw 3 rfl) (by decide) (by decide)) (g := (mkF m 4 #[.val (.ref a1), .val (.ref a2), .unset, .unset, .unset] [(.int 2), (.int 2)])) rfl (by rw [hml]; rfl) (argsL := [(.int 2), (.int 2)]) (rest := []) (lenOf pd_0 rfl) rfl (by show 2 * 0 + _ ≤ _; exact Nat.le_of_eq rfl) (hb hby d1_4) (fun _ _ => ⟨rfl, e0, (by decide : 0 + 0 ≤ _), (by decide : 0 + 0 ≤ _)⟩)
  dsimp only [Pt.U, Pt.locs, Pt.cells, Pt.slots] at X3 l3 y3 z3 st3 hQ3
  subst l3 y3 z3
  obtain ⟨rfl, Nq3, e3⟩ := hQ3
  have N3 := Fr.app N0 Nq3
  refine oS (fun t k => st3 t k) ?_
  show oG _ _ _ _ _ _ _ (T3.setTop (mkF m 7 #[.val (.ref a1), .val (.ref a2), .unset, .unset, .unset] []))
  try clear st3
  refine oS (fun t k => oIc li_0 X3.here hx rfl (hb hby d1_7) k) ?_
  refine oS (fun t k => XS.istoreN X3.here hx rfl (hb hby d1_8) rfl (l' := #[.val (.ref a1), .val (.ref a2), .val (.int 0), .unset, .unset]) rfl k) ?_
  refine oS (fun t k => oIc li_0 X3.here hx rfl (hb hby d1_9) k) ?_
  refine oS (fun t k => XS.istoreN X3.here hx rfl (hb hby d1_10) rfl (l' := #[.val (.ref a1), .val (.ref a2), .val (.int 0), .val (.int 0), .unset]) rfl k) ?_
  refine oS (fun t k => oIc li_0 X3.here hx rfl (hb hby d1_11) k) ?_
  refine oS (fun t k => XS.istore X3.here hx rfl (hb hby d1_12) rfl (l' := #[.val (.ref a1), .val (.ref a2), .val (.int 0), .val (.int 0), .val (.int 0)]) rfl k) ?_
  refine oS (fun t k => XS.iload X3.here hx rfl (hb hby d1_14) rfl k) ?_
  refine oS (fun t k => XS.aloadN X3.here hx rfl (hb hby d1_16) rfl rfl k) ?_
  obtain ⟨cl4, Ar4, -, Sz4, Ng4, -, -⟩ := id V_a1
  refine oS (S' := (T3.setTop (mkF m 18 #[.val (.ref a1), .val (.ref a2), .val (.int 0), .val (.int 0), .val (.int 0)] [(.int 2), (.int 0)]))) (fun t k => X3.arraylength hx (by rw [e3]; exact Ar4.1) (State.isArrayOf_alike hZ.alike Ar4.2.1) (g := (mkF m 17 #[.val (.ref a1), .val (.ref a2), .val (.int 0), .val (.int 0), .val (.int 0)] [(.ref a1), (.int 0)])) rfl rfl (hb hby d1_17) t (by rw [len_of Sz4 Ng4]; exact k)) ?_
  refine oS (fun t k => XS.icmpNo X3.here hx rfl (hb hby d1_18) rfl (tlt (by decide)).2.1 k) ?_
  show oG _ _ _ _ _ _ _ (T3.setTop (mkF m 21 #[.val (.ref a1), .val (.ref a2), .val (.int 0), .val (.int 0), .val (.int 0)] []))
  refine oS (fun t k => XS.iloadN X3.here hx rfl (hb hby d1_21) rfl k) ?_
  refine oS (fun t k => XS.aloadN X3.here hx rfl (hb hby d1_22) rfl rfl k) ?_
  refine oS (fun t k => XS.iload X3.here hx rfl (hb hby d1_23) rfl k) ?_
  obtain ⟨cl5, Ar5, qk5, Sz5, Ng5, Ha5, Gf5⟩ := id V_a1
  have hin5 : ¬ ((0 : Int32) < 0 ∨ cl5.slots.size ≤ ((0 : Int32)).toNatClampNeg) := (inb_of Sz5 ⟨by decide, by decide⟩)
  have hat5 : cl5.slots[((0 : Int32)).toNatClampNeg]? = some (.long q1) := Ha5.at hin5 rfl
  refine oS (fun t k => X3.laload hx (j := (0 : Int32)) (v := (.long q1)) (by rw [e3]; exact Ar5.1) (State.isArrayOf_alike hZ.alike Ar5.2.1) Ar5.2.2 hin5 hat5 (g := (mkF m 25 #[.val (.ref a1), .val (.ref a2), .val (.int 0), .val (.int 0), .val (.int 0)] [(.int 0), (.ref a1), (.int 0)])) rfl rfl (hb hby d1_25) t k) ?_
  refine oS (fun t k => XS.aloadN X3.here hx rfl (hb hby d1_26) rfl rfl k) ?_
  refine oS (fun t k => XS.iload X3.here hx rfl (hb hby d1_27) rfl k) ?_
  obtain ⟨cl6, Ar6, qk6, Sz6, Ng6, Ha6, Gf6⟩ := id V_a2
  have hin6 : ¬ ((0 : Int32) < 0 ∨ cl6.slots.size ≤ ((0 : Int32)).toNatClampNeg) := (inb_of Sz6 ⟨by decide, by decide⟩)
  have hat6 : cl6.slots[((0 : Int32)).toNatClampNeg]? = some (.long q3) := Ha6.at hin6 rfl
  refine oS (fun t k => X3.laload hx (j := (0 : Int32)) (v := (.long q3)) (by rw [e3]; exact Ar6.1) (State.isArrayOf_alike hZ.alike Ar6.2.1) Ar6.2.2 hin6 hat6 (g := (mkF m 29 #[.val (.ref a1), .val (.ref a2), .val (.int 0), .val (.int 0), .val (.int 0)] [(.int 0), (.ref a2), (.long q1), (.int 0)])) rfl rfl (hb hby d1_29) t k) ?_
  refine oS (fun t k => XS.lcmp X3.here hx rfl (hb hby d1_30) rfl k) ?_
  refine oS (fun t k => XS.ifYes X3.here hx rfl (pc0 := 31) (pc' := 38) rfl (hb hby d1_31) rfl ((if0 _ _).trans (flt (fun q => l1 ((lw_lt q1 q3).mp q))).2.1) (by decide) (by decide) k) ?_
  refine oS (fun t k => oIc li_0 X3.here hx rfl (hb hby d1_38) k) ?_
  show oG _ _ _ _ _ _ _ (T3.setTop (mkF m 39 #[.val (.ref a1), .val (.ref a2), .val (.int 0), .val (.int 0), .val (.int 0)] [(.int 0), (.int 0)]))
  refine oS (S' := (T3.setTop (mkF m 40 #[.val (.ref a1), .val (.ref a2), .val (.int 0), .val (.int 0), .val (.int 0)] [(.int 0)]))) (fun t k => XS.ior X3.here hx rfl (hb hby d1_39) rfl (by rw [show (0 : Int32) ||| (0 : Int32) = (0 : Int32) from by decide]; exact k)) ?_
  refine oS (fun t k => XS.istoreN X3.here hx rfl (hb hby d1_40) rfl (l' := #[.val (.ref a1), .val (.ref a2), .val (.int 0), .val (.int 0), .val (.int 0)]) rfl k) ?_
  refine oS (fun t k => XS.iloadN X3.here hx rfl (hb hby d1_41) rfl k) ?_
  refine oS (fun t k => XS.aloadN X3.here hx rfl (hb hby d1_42) rfl rfl k) ?_
  refine oS (fun t k => XS.iload X3.here hx rfl (hb hby d1_43) rfl k) ?_
  obtain ⟨cl7, Ar7, qk7, Sz7, Ng7, Ha7, Gf7⟩ := id V_a1
  have hin7 : ¬ ((0 : Int32) < 0 ∨ cl7.slots.size ≤ ((0 : Int32)).toNatClampNeg) := (inb_of Sz7 ⟨by decide, by decide⟩)
  have hat7 : cl7.slots[((0 : Int32)).toNatClampNeg]? = some (.long q1) := Ha7.at hin7 rfl
  refine oS (fun t k => X3.laload hx (j := (0 : Int32)) (v := (.long q1)) (by rw [e3]; exact Ar7.1) (State.isArrayOf_alike hZ.alike Ar7.2.1) Ar7.2.2 hin7 hat7 (g := (mkF m 45 #[.val (.ref a1), .val (.ref a2), .val (.int 0), .val (.int 0), .val (.int 0)] [(.int 0), (.ref a1), (.int 0)])) rfl rfl (hb hby d1_45) t k) ?_
  refine oS (fun t k => XS.aloadN X3.here hx rfl (hb hby d1_46) rfl rfl k) ?_
  refine oS (fun t k => XS.iload X3.here hx rfl (hb hby d1_47) rfl k) ?_
  obtain ⟨cl8, Ar8, qk8, Sz8, Ng8, Ha8, Gf8⟩ := id V_a2
  have hin8 : ¬ ((0 : Int32) < 0 ∨ cl8.slots.size ≤ ((0 : Int32)).toNatClampNeg) := (inb_of Sz8 ⟨by decide, by decide⟩)
  have hat8 : cl8.slots[((0 : Int32)).toNatClampNeg]? = some (.long q3) := Ha8.at hin8 rfl
  refine oS (fun t k => X3.laload hx (j := (0 : Int32)) (v := (.long q3)) (by rw [e3]; exact Ar8.1) (State.isArrayOf_alike hZ.alike Ar8.2.1) Ar8.2.2 hin8 hat8 (g := (mkF m 49 #[.val (.ref a1), .val (.ref a2), .val (.int 0), .val (.int 0), .val (.int 0)] [(.int 0), (.ref a2), (.long q1), (.int 0)])) rfl rfl (hb hby d1_49) t k) ?_
  refine oS (fun t k => XS.lcmp X3.here hx rfl (hb hby d1_50) rfl k) ?_
  show oG _ _ _ _ _ _ _ (T3.setTop (mkF m 51 #[.val (.ref a1), .val (.ref a2), .val (.int 0), .val (.int 0), .val (.int 0)] [(.int (lcmpW q1 q3)), (.int 0)]))
  refine oS (fun t k => XS.ifYes X3.here hx rfl (pc0 := 51) (pc' := 58) rfl (hb hby d1_51) rfl ((if0 _ _).trans (flt (fun q => g1 ((lw_gt q1 q3).mp q))).2.2.2) (by decide) (by decide) k) ?_
  refine oS (fun t k => oIc li_0 X3.here hx rfl (hb hby d1_58) k) ?_
  refine oS (S' := (T3.setTop (mkF m 60 #[.val (.ref a1), .val (.ref a2), .val (.int 0), .val (.int 0), .val (.int 0)] [(.int 0)]))) (fun t k => XS.ior X3.here hx rfl (hb hby d1_59) rfl (by rw [show (0 : Int32) ||| (0 : Int32) = (0 : Int32) from by decide]; exact k)) ?_
  refine oS (fun t k => XS.istoreN X3.here hx rfl (hb hby d1_60) rfl (l' := #[.val (.ref a1), .val (.ref a2), .val (.int 0), .val (.int 0), .val (.int 0)]) rfl k) ?_
  refine oS (fun t k => XS.iinc X3.here hx rfl (hb hby d1_61) rfl (l' := #[.val (.ref a1), .val (.ref a2), .val (.int 0), .val (.int 0), .val (.int 1)]) rfl k) ?_
  show oG _ _ _ _ _ _ _ (T3.setTop (mkF m 64 #[.val (.ref a1), .val (.ref a2), .val (.int 0), .val (.int 0), .val (.int 1)] []))
  refine oS (fun t k => XS.goto X3.here hx rfl (pc0 := 64) (pc' := 14) rfl (hb hby d1_64) (by decide) (by decide) k) ?_
  refine oS (fun t k => XS.iload X3.here hx rfl (hb hby d1_14) rfl k) ?_
  refine oS (fun t k => XS.aloadN X3.here hx rfl (hb hby d1_16) rfl rfl k) ?_
  obtain ⟨cl9, Ar9, -, Sz9, Ng9, -, -⟩ := id V_a1
  refine oS (S' := (T3.setTop (mkF m 18 #[.val (.ref a1), .val (.ref a2), .val (.int 0), .val (.int 0), .val (.int 1)] [(.int 2), (.int 1)]))) (fun t k => X3.arraylength hx (by rw [e3]; exact Ar9.1) (State.isArrayOf_alike hZ.alike Ar9.2.1) (g := (mkF m 17 #[.val (.ref a1), .val (.ref a2), .val (.int 0), .val (.int 0), .val (.int 1)] [(.ref a1), (.int 1)])) rfl rfl (hb hby d1_17) t (by rw [len_of Sz9 Ng9]; exact k)) ?_
  refine oS (fun t k => XS.icmpNo X3.here hx rfl (hb hby d1_18) rfl (tlt (by decide)).2.1 k) ?_
  refine oS (fun t k => XS.iloadN X3.here hx rfl (hb hby d1_21) rfl k) ?_
  refine oS (fun t k => XS.aloadN X3.here hx rfl (hb hby d1_22) rfl rfl k) ?_
  refine oS (fun t k => XS.iload X3.here hx rfl (hb hby d1_23) rfl k) ?_
  obtain ⟨cl10, Ar10, qk10, Sz10, Ng10, Ha10, Gf10⟩ := id V_a1
  have hin10 : ¬ ((1 : Int32) < 0 ∨ cl10.slots.size ≤ ((1 : Int32)).toNatClampNeg) := (inb_of Sz10 ⟨by decide, by decide⟩)
  have hat10 : cl10.slots[((1 : Int32)).toNatClampNeg]? = some (.long q2) := Ha10.at hin10 rfl
  refine oS (fun t k => X3.laload hx (j := (1 : Int32)) (v := (.long q2)) (by rw [e3]; exact Ar10.1) (State.isArrayOf_alike hZ.alike Ar10.2.1) Ar10.2.2 hin10 hat10 (g := (mkF m 25 #[.val (.ref a1), .val (.ref a2), .val (.int 0), .val (.int 0), .val (.int 1)] [(.int 1), (.ref a1), (.int 0)])) rfl rfl (hb hby d1_25) t k) ?_
  refine oS (fun t k => XS.aloadN X3.here hx rfl (hb hby d1_26) rfl rfl k) ?_
  show oG _ _ _ _ _ _ _ (T3.setTop (mkF m 27 #[.val (.ref a1), .val (.ref a2), .val (.int 0), .val (.int 0), .val (.int 1)] [(.ref a2), (.long q2), (.int 0)]))
  refine oS (fun t k => XS.iload X3.here hx rfl (hb hby d1_27) rfl k) ?_
  obtain ⟨cl11, Ar11, qk11, Sz11, Ng11, Ha11, Gf11⟩ := id V_a2
  have hin11 : ¬ ((1 : Int32) < 0 ∨ cl11.slots.size ≤ ((1 : Int32)).toNatClampNeg) := (inb_of Sz11 ⟨by decide, by decide⟩)
  have hat11 : cl11.slots[((1 : Int32)).toNatClampNeg]? = some (.long q4) := Ha11.at hin11 rfl
  refine oS (fun t k => X3.laload hx (j := (1 : Int32)) (v := (.long q4)) (by rw [e3]; exact Ar11.1) (State.isArrayOf_alike hZ.alike Ar11.2.1) Ar11.2.2 hin11 hat11 (g := (mkF m 29 #[.val (.ref a1), .val (.ref a2), .val (.int 0), .val (.int 0), .val (.int 1)] [(.int 1), (.ref a2), (.long q2), (.int 0)])) rfl rfl (hb hby d1_29) t k) ?_
  refine oS (fun t k => XS.lcmp X3.here hx rfl (hb hby d1_30) rfl k) ?_
  refine oS (fun t k => XS.ifYes X3.here hx rfl (pc0 := 31) (pc' := 38) rfl (hb hby d1_31) rfl ((if0 _ _).trans (flt (fun q => l2 ((lw_lt q2 q4).mp q))).2.1) (by decide) (by decide) k) ?_
  refine oS (fun t k => oIc li_0 X3.here hx rfl (hb hby d1_38) k) ?_
  refine oS (S' := (T3.setTop (mkF m 40 #[.val (.ref a1), .val (.ref a2), .val (.int 0), .val (.int 0), .val (.int 1)] [(.int 0)]))) (fun t k => XS.ior X3.here hx rfl (hb hby d1_39) rfl (by rw [show (0 : Int32) ||| (0 : Int32) = (0 : Int32) from by decide]; exact k)) ?_
  refine oS (fun t k => XS.istoreN X3.here hx rfl (hb hby d1_40) rfl (l' := #[.val (.ref a1), .val (.ref a2), .val (.int 0), .val (.int 0), .val (.int 1)]) rfl k) ?_
  refine oS (fun t k => XS.iloadN X3.here hx rfl (hb hby d1_41) rfl k) ?_
  refine oS (fun t k => XS.aloadN X3.here hx rfl (hb hby d1_42) rfl rfl k) ?_
  refine oS (fun t k => XS.iload X3.here hx rfl (hb hby d1_43) rfl k) ?_
  show oG _ _ _ _ _ _ _ (T3.setTop (mkF m 45 #[.val (.ref a1), .val (.ref a2), .val (.int 0), .val (.int 0), .val (.int 1)] [(.int 1), (.ref a1), (.int 0)]))
  obtain ⟨cl12, Ar12, qk12, Sz12, Ng12, Ha12, Gf12⟩ := id V_a1
  have hin12 : ¬ ((1 : Int32) < 0 ∨ cl12.slots.size ≤ ((1 : Int32)).toNatClampNeg) := (inb_of Sz12 ⟨by decide, by decide⟩)
  have hat12 : cl12.slots[((1 : Int32)).toNatClampNeg]? = some (.long q2) := Ha12.at hin12 rfl
  refine oS (fun t k => X3.laload hx (j := (1 : Int32)) (v := (.long q2)) (by rw [e3]; exact Ar12.1) (State.isArrayOf_alike hZ.alike Ar12.2.1) Ar12.2.2 hin12 hat12 (g := (mkF m 45 #[.val (.ref a1), .val (.ref a2), .val (.int 0), .val (.int 0), .val (.int 1)] [(.int 1), (.ref a1), (.int 0)])) rfl rfl (hb hby d1_45) t k) ?_
  refine oS (fun t k => XS.aloadN X3.here hx rfl (hb hby d1_46) rfl rfl k) ?_
  refine oS (fun t k => XS.iload X3.here hx rfl (hb hby d1_47) rfl k) ?_
  obtain ⟨cl13, Ar13, qk13, Sz13, Ng13, Ha13, Gf13⟩ := id V_a2
  have hin13 : ¬ ((1 : Int32) < 0 ∨ cl13.slots.size ≤ ((1 : Int32)).toNatClampNeg) := (inb_of Sz13 ⟨by decide, by decide⟩)
  have hat13 : cl13.slots[((1 : Int32)).toNatClampNeg]? = some (.long q4) := Ha13.at hin13 rfl
  refine oS (fun t k => X3.laload hx (j := (1 : Int32)) (v := (.long q4)) (by rw [e3]; exact Ar13.1) (State.isArrayOf_alike hZ.alike Ar13.2.1) Ar13.2.2 hin13 hat13 (g := (mkF m 49 #[.val (.ref a1), .val (.ref a2), .val (.int 0), .val (.int 0), .val (.int 1)] [(.int 1), (.ref a2), (.long q2), (.int 0)])) rfl rfl (hb hby d1_49) t k) ?_
  refine oS (fun t k => XS.lcmp X3.here hx rfl (hb hby d1_50) rfl k) ?_
  refine oS (fun t k => XS.ifNo X3.here hx rfl (hb hby d1_51) rfl ((if0 _ _).trans (tlt ((lw_gt q2 q4).mpr g2)).2.2.2) k) ?_
  refine oS (fun t k => oIc li_1 X3.here hx rfl (hb hby d1_54) k) ?_
  refine oS (fun t k => XS.goto X3.here hx rfl (pc0 := 55) (pc' := 59) rfl (hb hby d1_55) (by decide) (by decide) k) ?_
  refine oS (S' := (T3.setTop (mkF m 60 #[.val (.ref a1), .val (.ref a2), .val (.int 0), .val (.int 0), .val (.int 1)] [(.int 1)]))) (fun t k => XS.ior X3.here hx rfl (hb hby d1_59) rfl (by rw [show (0 : Int32) ||| (1 : Int32) = (1 : Int32) from by decide]; exact k)) ?_
  refine oS (fun t k => XS.istoreN X3.here hx rfl (hb hby d1_60) rfl (l' := #[.val (.ref a1), .val (.ref a2), .val (.int 0), .val (.int 1), .val (.int 1)]) rfl k) ?_
  show oG _ _ _ _ _ _ _ (T3.setTop (mkF m 61 #[.val (.ref a1), .val (.ref a2), .val (.int 0), .val (.int 1), .val (.int 1)] []))
  refine oS (fun t k => XS.iinc X3.here hx rfl (hb hby d1_61) rfl (l' := #[.val (.ref a1), .val (.ref a2), .val (.int 0), .val (.int 1), .val (.int 2)]) rfl k) ?_
  show oG _ _ _ _ _ _ _ (T3.setTop (mkF m 64 #[.val (.ref a1), .val (.ref a2), .val (.int 0), .val (.int 1), .val (.int 2)] []))
  refine oS (fun t k => XS.goto X3.here hx rfl (pc0 := 64) (pc' := 14) rfl (hb hby d1_64) (by decide) (by decide) k) ?_
  refine oS (fun t k => XS.iload X3.here hx rfl (hb hby d1_14) rfl k) ?_
  refine oS (fun t k => XS.aloadN X3.here hx rfl (hb hby d1_16) rfl rfl k) ?_
  obtain ⟨cl14, Ar14, -, Sz14, Ng14, -, -⟩ := id V_a1
  refine oS (S' := (T3.setTop (mkF m 18 #[.val (.ref a1), .val (.ref a2), .val (.int 0), .val (.int 1), .val (.int 2)] [(.int 2), (.int 2)]))) (fun t k => X3.arraylength hx (by rw [e3]; exact Ar14.1) (State.isArrayOf_alike hZ.alike Ar14.2.1) (g := (mkF m 17 #[.val (.ref a1), .val (.ref a2), .val (.int 0), .val (.int 1), .val (.int 2)] [(.ref a1), (.int 2)])) rfl rfl (hb hby d1_17) t (by rw [len_of Sz14 Ng14]; exact k)) ?_
  refine oS (fun t k => XS.icmpYes X3.here hx rfl (pc0 := 18) (pc' := 67) rfl (hb hby d1_18) rfl (flt (by decide)).2.1 (by decide) (by decide) k) ?_
  refine oS (fun t k => XS.iloadN X3.here hx rfl (hb hby d1_67) rfl k) ?_
  refine oS (fun t k => XS.iloadN X3.here hx rfl (hb hby d1_68) rfl k) ?_
  obtain ⟨_, _, ⟨T15, L15, k15, n15⟩, -, X15, ⟨Lc15, hQ15, l15, y15, z15⟩, st15⟩ := Jvm.LawKit.callS X3 hx (y := mY0) hown (mvT hZ (oW hw 8 rfl)) (mvT hZ (oW hw 9 rfl)) (mvT hZ (oW hw 3 rfl)) (mvT hZ (oW hw 10 rfl)) (by decide) (backOf (W := 0) (rm_zz_01 l Z a0 hw []  w h0 n0 O0 W ) hZ (oW hw 10 rfl) (oW hw 3 rfl) (by decide) (by decide)) (g := (mkF m 69 #[.val (.ref a1), .val (.ref a2), .val (.int 0), .val (.int 1), .val (.int 2)] [(.int 1), (.int 0)])) rfl (by rw [hml]; rfl) (argsL := [(.int 0), (.int 1)]) (rest := []) (lenOf pd_1 rfl) rfl (by show 2 * 0 + _ ≤ _; exact Nat.le_of_eq rfl) (hb hby d1_69) (fun _ _ => ⟨rfl, e3, (by decide : 0 + 0 ≤ _), (by decide : 0 + 0 ≤ _)⟩)
  dsimp only [Pt.U, Pt.locs, Pt.cells, Pt.slots] at X15 l15 y15 z15 st15 hQ15
  subst l15 y15 z15
  obtain ⟨rfl, Nq15, e15⟩ := hQ15
  have N15 := Fr.app N3 Nq15
  refine oS (fun t k => st15 t k) ?_
  show oG _ _ _ _ _ _ _ (T15.setTop (mkF m 72 #[.val (.ref a1), .val (.ref a2), .val (.int 0), .val (.int 1), .val (.int 2)] [(.ref (w 3))]))
  try clear st15 X3 e3
  exact own_ret (v := some (.ref (w 3))) X15 (fun h => by rw [Bd.returns] at h; cases h) Bd.notSynchronized (fun fs hr => retOut X15 hx (t := (.object "com/example/shiftweave/shiftweave/engine/Dominance")) Bd.returns rfl (Or.inr (Or.inr (Or.inr (Or.inr ⟨rfl, rfl, rfl⟩)))) (hb hby d1_72) hr) (by rw [e15]; exact ⟨rfl, N15, rfl⟩) (by decide) (by decide)
def Q_of_22 (Z : State) (a1 : Addr) (a2 : Addr) (k1 : ClassId) (k2 : ClassId) (q1 : Int64) (q2 : Int64) (q3 : Int64) (q4 : Int64) (w : Nat → Addr) (h0 : Heap) (n0 : Nat) (v : Option Value) (h : Heap) (L : List Loc) : Prop := v = some (.ref (w 2)) ∧ Fr n0 L ∧ h = h0
set_option maxRecDepth 65536 in
set_option maxHeartbeats 40000000 in
theorem rm_of_22 (l : Launch) (Z : State) (a0 : Array Value) (hw : ∀ d ∈ tables_1, d.before a0 Z = true) (ws : List Jvm.Cond) (a1 : Addr) (a2 : Addr) (k1 : ClassId) (k2 : ClassId) (q1 : Int64) (q2 : Int64) (q3 : Int64) (q4 : Int64) (w : Nat → Addr) (h0 : Heap) (n0 : Nat) (O0 : Old Z n0 h0) (W : own_World Z w) (V_a1 : Arv Z h0 a1 k1 .long (2 : Int32) [(.long q1), (.long q2)] (.long (0 : Int64))) (V_a2 : Arv Z h0 a2 k2 .long (2 : Int32) [(.long q3), (.long q4)] (.long (0 : Int64))) (l1 : ¬ (q1 < q3)) (g1 : ¬ (q3 < q1)) (l2 : ¬ (q2 < q4)) (g2 : ¬ (q4 < q2)) :
    MetFree l mY3 (head1 (Jvm.Cond.code mY3 prog_24_method_4_code 5 (some (.object "com/example/shiftweave/shiftweave/engine/Dominance")) :: ws) ({ frames := 1, cells := 0, slots := 0, locals := 14 } : Room)) (fun a U => a = #[(.ref a1), (.ref a2)] ∧ Z.Warmed39 U.vm ∧ U.heap = h0) (fun _ _ _ _ _ => True) (fun _ U o U' => ∃ v L, o = .returned v ∧ Q_of_22 Z a1 a2 k1 k2 q1 q2 q3 q4 w h0 n0 v U'.heap L ∧ FrameEnd U o U' L ({ frames := 1, cells := 0, slots := 0, locals := 14 } : Room).cells ({ frames := 1, cells := 0, slots := 0, locals := 14 } : Room).slots) := by
  refine MetFree.of_bodySF (plainFor_of_name pn_0) hisR ?_
  intro p e s m args below meth c s₁ Bd hml0 hP hK
  obtain ⟨rfl, hZ, hh⟩ := hP
  have hx := Bd.exec
  have hby := Bd.bytes
  have hml : c.maxLocals = 5 := hml0
  have hown : s.vm.findClass "com/example/shiftweave/shiftweave/engine/Dominance" = some m.cls := findClass_of_methodNamed Bd.named
  have hnm := (name_of_methodNamed Bd.named Bd.method).1
  have X0 : Stand p l e ({ frames := 1, cells := 0, slots := 0, locals := 14 } : Room) s m #[(.ref a1), (.ref a2)] below meth c s₁ [] 0 0 := Stand.of_body Bd
  have e0 : s₁.heap = h0 := by rw [← hh, Bd.state]; rfl
  have N0 := Fr.nil n0
  show oG p e below s (Q_of_22 Z a1 a2 k1 k2 q1 q2 q3 q4 w h0 n0) ({ frames := 1, cells := 0, slots := 0, locals := 14 } : Room).cells ({ frames := 1, cells := 0, slots := 0, locals := 14 } : Room).slots _
  refine oS (fun t k => castTop (ef_1_rr m a1 a2) k) ?_
  show oG _ _ _ _ _ _ _ (s₁.setTop (mkF m 0 #[.val (.ref a1), .val (.ref a2), .unset, .unset, .unset] []))
  refine oS (fun t k => XS.aloadN X0.here hx rfl (hb hby d1_0) rfl rfl k) ?_
  obtain ⟨cl1, Ar1, -, Sz1, Ng1, -, -⟩ := id V_a1
  refine oS (S' := (s₁.setTop (mkF m 2 #[.val (.ref a1), .val (.ref a2), .unset, .unset, .unset] [(.int 2)]))) (fun t k => X0.arraylength hx (by rw [e0]; exact Ar1.1) (State.isArrayOf_alike hZ.alike Ar1.2.1) (g := (mkF m 1 #[.val (.ref a1), .val (.ref a2), .unset, .unset, .unset] [(.ref a1)])) rfl rfl (hb hby d1_1) t (by rw [len_of Sz1 Ng1]; exact k)) ?_
  refine oS (fun t k => XS.aloadN X0.here hx rfl (hb hby d1_2) rfl rfl k) ?_
  obtain ⟨cl2, Ar2, -, Sz2, Ng2, -, -⟩ := id V_a2
  refine oS (S' := (s₁.setTop (mkF m 4 #[.val (.ref a1), .val (.ref a2), .unset, .unset, .unset] [(.int 2), (.int 2)]))) (fun t k => X0.arraylength hx (by rw [e0]; exact Ar2.1) (State.isArrayOf_alike hZ.alike Ar2.2.1) (g := (mkF m 3 #[.val (.ref a1), .val (.ref a2), .unset, .unset, .unset] [(.ref a2), (.int 2)])) rfl rfl (hb hby d1_3) t (by rw [len_of Sz2 Ng2]; exact k)) ?_
  obtain ⟨_, _, ⟨T3, L3, k3, n3⟩, -, X3, ⟨Lc3, hQ3, l3, y3, z3⟩, st3⟩ := Jvm.LawKit.callS X0 hx (y := mY1) hown (mvT hZ (oW hw 5 rfl)) (mvT hZ (oW hw 6 rfl)) (mvT hZ (oW hw 3 rfl)) (mvT hZ (oW hw 7 rfl)) (by decide) (backOf (W := 0) (rm_chk l Z a0 hw []   h0 n0 O0  ) hZ (oW hw 7 rfl) (oW hw 3 rfl) (by decide) (by decide)) (g := (mkF m 4 #[.val (.ref a1), .val (.ref a2), .unset, .unset, .unset] [(.int 2), (.int 2)])) rfl (by rw [hml]; rfl) (argsL := [(.int 2), (.int 2)]) (rest := []) (lenOf pd_0 rfl) rfl (by show 2 * 0 + _ ≤ _; exact Nat.le_of_eq rfl) (hb hby d1_4) (fun _ _ => ⟨rfl, e0, (by decide : 0 + 0 ≤ _), (by decide : 0 + 0 ≤ _)⟩)
  dsimp only [Pt.U, Pt.locs, Pt.cells, Pt.slots] at X3 l3 y3 z3 st3 hQ3
  subst l3 y3 z3
  obtain ⟨rfl, Nq3, e3⟩ := hQ3
  have N3 := Fr.app N0 Nq3
  refine oS (fun t k => st3 t k) ?_
  show oG _ _ _ _ _ _ _ (T3.setTop (mkF m 7 #[.val (.ref a1), .val (.ref a2), .unset, .unset, .unset] []))
  try clear st3
  refine oS (fun t k => oIc li_0 X3.here hx rfl (hb hby d1_7) k) ?_
  refine oS (fun t k => XS.istoreN X3.here hx rfl (hb hby d1_8) rfl (l' := #[.val (.ref a1), .val (.ref a2), .val (.int 0), .unset, .unset]) rfl k) ?_
  refine oS (fun t k => oIc li_0 X3.here hx rfl (hb hby d1_9) k) ?_
  refine oS (fun t k => XS.istoreN X3.here hx rfl (hb hby d1_10) rfl (l' := #[.val (.ref a1), .val (.ref a2), .val (.int 0), .val (.int 0), .unset]) rfl k) ?_
  refine oS (fun t k => oIc li_0 X3.here hx rfl (hb hby d1_11) k) ?_
  refine oS (fun t k => XS.istore X3.here hx rfl (hb hby d1_12) rfl (l' := #[.val (.ref a1), .val (.ref a2), .val (.int 0), .val (.int 0), .val (.int 0)]) rfl k) ?_
  refine oS (fun t k => XS.iload X3.here hx rfl (hb hby d1_14) rfl k) ?_
  refine oS (fun t k => XS.aloadN X3.here hx rfl (hb hby d1_16) rfl rfl k) ?_
  obtain ⟨cl4, Ar4, -, Sz4, Ng4, -, -⟩ := id V_a1
  refine oS (S' := (T3.setTop (mkF m 18 #[.val (.ref a1), .val (.ref a2), .val (.int 0), .val (.int 0), .val (.int 0)] [(.int 2), (.int 0)]))) (fun t k => X3.arraylength hx (by rw [e3]; exact Ar4.1) (State.isArrayOf_alike hZ.alike Ar4.2.1) (g := (mkF m 17 #[.val (.ref a1), .val (.ref a2), .val (.int 0), .val (.int 0), .val (.int 0)] [(.ref a1), (.int 0)])) rfl rfl (hb hby d1_17) t (by rw [len_of Sz4 Ng4]; exact k)) ?_
  refine oS (fun t k => XS.icmpNo X3.here hx rfl (hb hby d1_18) rfl (tlt (by decide)).2.1 k) ?_
  show oG _ _ _ _ _ _ _ (T3.setTop (mkF m 21 #[.val (.ref a1), .val (.ref a2), .val (.int 0), .val (.int 0), .val (.int 0)] []))
  refine oS (fun t k => XS.iloadN X3.here hx rfl (hb hby d1_21) rfl k) ?_
  refine oS (fun t k => XS.aloadN X3.here hx rfl (hb hby d1_22) rfl rfl k) ?_
  refine oS (fun t k => XS.iload X3.here hx rfl (hb hby d1_23) rfl k) ?_
  obtain ⟨cl5, Ar5, qk5, Sz5, Ng5, Ha5, Gf5⟩ := id V_a1
  have hin5 : ¬ ((0 : Int32) < 0 ∨ cl5.slots.size ≤ ((0 : Int32)).toNatClampNeg) := (inb_of Sz5 ⟨by decide, by decide⟩)
  have hat5 : cl5.slots[((0 : Int32)).toNatClampNeg]? = some (.long q1) := Ha5.at hin5 rfl
  refine oS (fun t k => X3.laload hx (j := (0 : Int32)) (v := (.long q1)) (by rw [e3]; exact Ar5.1) (State.isArrayOf_alike hZ.alike Ar5.2.1) Ar5.2.2 hin5 hat5 (g := (mkF m 25 #[.val (.ref a1), .val (.ref a2), .val (.int 0), .val (.int 0), .val (.int 0)] [(.int 0), (.ref a1), (.int 0)])) rfl rfl (hb hby d1_25) t k) ?_
  refine oS (fun t k => XS.aloadN X3.here hx rfl (hb hby d1_26) rfl rfl k) ?_
  refine oS (fun t k => XS.iload X3.here hx rfl (hb hby d1_27) rfl k) ?_
  obtain ⟨cl6, Ar6, qk6, Sz6, Ng6, Ha6, Gf6⟩ := id V_a2
  have hin6 : ¬ ((0 : Int32) < 0 ∨ cl6.slots.size ≤ ((0 : Int32)).toNatClampNeg) := (inb_of Sz6 ⟨by decide, by decide⟩)
  have hat6 : cl6.slots[((0 : Int32)).toNatClampNeg]? = some (.long q3) := Ha6.at hin6 rfl
  refine oS (fun t k => X3.laload hx (j := (0 : Int32)) (v := (.long q3)) (by rw [e3]; exact Ar6.1) (State.isArrayOf_alike hZ.alike Ar6.2.1) Ar6.2.2 hin6 hat6 (g := (mkF m 29 #[.val (.ref a1), .val (.ref a2), .val (.int 0), .val (.int 0), .val (.int 0)] [(.int 0), (.ref a2), (.long q1), (.int 0)])) rfl rfl (hb hby d1_29) t k) ?_
  refine oS (fun t k => XS.lcmp X3.here hx rfl (hb hby d1_30) rfl k) ?_
  refine oS (fun t k => XS.ifYes X3.here hx rfl (pc0 := 31) (pc' := 38) rfl (hb hby d1_31) rfl ((if0 _ _).trans (flt (fun q => l1 ((lw_lt q1 q3).mp q))).2.1) (by decide) (by decide) k) ?_
  refine oS (fun t k => oIc li_0 X3.here hx rfl (hb hby d1_38) k) ?_
  show oG _ _ _ _ _ _ _ (T3.setTop (mkF m 39 #[.val (.ref a1), .val (.ref a2), .val (.int 0), .val (.int 0), .val (.int 0)] [(.int 0), (.int 0)]))
  refine oS (S' := (T3.setTop (mkF m 40 #[.val (.ref a1), .val (.ref a2), .val (.int 0), .val (.int 0), .val (.int 0)] [(.int 0)]))) (fun t k => XS.ior X3.here hx rfl (hb hby d1_39) rfl (by rw [show (0 : Int32) ||| (0 : Int32) = (0 : Int32) from by decide]; exact k)) ?_
  refine oS (fun t k => XS.istoreN X3.here hx rfl (hb hby d1_40) rfl (l' := #[.val (.ref a1), .val (.ref a2), .val (.int 0), .val (.int 0), .val (.int 0)]) rfl k) ?_
  refine oS (fun t k => XS.iloadN X3.here hx rfl (hb hby d1_41) rfl k) ?_
  refine oS (fun t k => XS.aloadN X3.here hx rfl (hb hby d1_42) rfl rfl k) ?_
  refine oS (fun t k => XS.iload X3.here hx rfl (hb hby d1_43) rfl k) ?_
  obtain ⟨cl7, Ar7, qk7, Sz7, Ng7, Ha7, Gf7⟩ := id V_a1
  have hin7 : ¬ ((0 : Int32) < 0 ∨ cl7.slots.size ≤ ((0 : Int32)).toNatClampNeg) := (inb_of Sz7 ⟨by decide, by decide⟩)
  have hat7 : cl7.slots[((0 : Int32)).toNatClampNeg]? = some (.long q1) := Ha7.at hin7 rfl
  refine oS (fun t k => X3.laload hx (j := (0 : Int32)) (v := (.long q1)) (by rw [e3]; exact Ar7.1) (State.isArrayOf_alike hZ.alike Ar7.2.1) Ar7.2.2 hin7 hat7 (g := (mkF m 45 #[.val (.ref a1), .val (.ref a2), .val (.int 0), .val (.int 0), .val (.int 0)] [(.int 0), (.ref a1), (.int 0)])) rfl rfl (hb hby d1_45) t k) ?_
  refine oS (fun t k => XS.aloadN X3.here hx rfl (hb hby d1_46) rfl rfl k) ?_
  refine oS (fun t k => XS.iload X3.here hx rfl (hb hby d1_47) rfl k) ?_
  obtain ⟨cl8, Ar8, qk8, Sz8, Ng8, Ha8, Gf8⟩ := id V_a2
  have hin8 : ¬ ((0 : Int32) < 0 ∨ cl8.slots.size ≤ ((0 : Int32)).toNatClampNeg) := (inb_of Sz8 ⟨by decide, by decide⟩)
  have hat8 : cl8.slots[((0 : Int32)).toNatClampNeg]? = some (.long q3) := Ha8.at hin8 rfl
  refine oS (fun t k => X3.laload hx (j := (0 : Int32)) (v := (.long q3)) (by rw [e3]; exact Ar8.1) (State.isArrayOf_alike hZ.alike Ar8.2.1) Ar8.2.2 hin8 hat8 (g := (mkF m 49 #[.val (.ref a1), .val (.ref a2), .val (.int 0), .val (.int 0), .val (.int 0)] [(.int 0), (.ref a2), (.long q1), (.int 0)])) rfl rfl (hb hby d1_49) t k) ?_
  refine oS (fun t k => XS.lcmp X3.here hx rfl (hb hby d1_50) rfl k) ?_
  show oG _ _ _ _ _ _ _ (T3.setTop (mkF m 51 #[.val (.ref a1), .val (.ref a2), .val (.int 0), .val (.int 0), .val (.int 0)] [(.int (lcmpW q1 q3)), (.int 0)]))
  refine oS (fun t k => XS.ifYes X3.here hx rfl (pc0 := 51) (pc' := 58) rfl (hb hby d1_51) rfl ((if0 _ _).trans (flt (fun q => g1 ((lw_gt q1 q3).mp q))).2.2.2) (by decide) (by decide) k) ?_
  refine oS (fun t k => oIc li_0 X3.here hx rfl (hb hby d1_58) k) ?_
  refine oS (S' := (T3.setTop (mkF m 60 #[.val (.ref a1), .val (.ref a2), .val (.int 0), .val (.int 0), .val (.int 0)] [(.int 0)]))) (fun t k => XS.ior X3.here hx rfl (hb hby d1_59) rfl (by rw [show (0 : Int32) ||| (0 : Int32) = (0 : Int32) from by decide]; exact k)) ?_
  refine oS (fun t k => XS.istoreN X3.here hx rfl (hb hby d1_60) rfl (l' := #[.val (.ref a1), .val (.ref a2), .val (.int 0), .val (.int 0), .val (.int 0)]) rfl k) ?_
  refine oS (fun t k => XS.iinc X3.here hx rfl (hb hby d1_61) rfl (l' := #[.val (.ref a1), .val (.ref a2), .val (.int 0), .val (.int 0), .val (.int 1)]) rfl k) ?_
  show oG _ _ _ _ _ _ _ (T3.setTop (mkF m 64 #[.val (.ref a1), .val (.ref a2), .val (.int 0), .val (.int 0), .val (.int 1)] []))
  refine oS (fun t k => XS.goto X3.here hx rfl (pc0 := 64) (pc' := 14) rfl (hb hby d1_64) (by decide) (by decide) k) ?_
  refine oS (fun t k => XS.iload X3.here hx rfl (hb hby d1_14) rfl k) ?_
  refine oS (fun t k => XS.aloadN X3.here hx rfl (hb hby d1_16) rfl rfl k) ?_
  obtain ⟨cl9, Ar9, -, Sz9, Ng9, -, -⟩ := id V_a1
  refine oS (S' := (T3.setTop (mkF m 18 #[.val (.ref a1), .val (.ref a2), .val (.int 0), .val (.int 0), .val (.int 1)] [(.int 2), (.int 1)]))) (fun t k => X3.arraylength hx (by rw [e3]; exact Ar9.1) (State.isArrayOf_alike hZ.alike Ar9.2.1) (g := (mkF m 17 #[.val (.ref a1), .val (.ref a2), .val (.int 0), .val (.int 0), .val (.int 1)] [(.ref a1), (.int 1)])) rfl rfl (hb hby d1_17) t (by rw [len_of Sz9 Ng9]; exact k)) ?_
  refine oS (fun t k => XS.icmpNo X3.here hx rfl (hb hby d1_18) rfl (tlt (by decide)).2.1 k) ?_
  refine oS (fun t k => XS.iloadN X3.here hx rfl (hb hby d1_21) rfl k) ?_
  refine oS (fun t k => XS.aloadN X3.here hx rfl (hb hby d1_22) rfl rfl k) ?_
  refine oS (fun t k => XS.iload X3.here hx rfl (hb hby d1_23) rfl k) ?_
  obtain ⟨cl10, Ar10, qk10, Sz10, Ng10, Ha10, Gf10⟩ := id V_a1
  have hin10 : ¬ ((1 : Int32) < 0 ∨ cl10.slots.size ≤ ((1 : Int32)).toNatClampNeg) := (inb_of Sz10 ⟨by decide, by decide⟩)
  have hat10 : cl10.slots[((1 : Int32)).toNatClampNeg]? = some (.long q2) := Ha10.at hin10 rfl
  refine oS (fun t k => X3.laload hx (j := (1 : Int32)) (v := (.long q2)) (by rw [e3]; exact Ar10.1) (State.isArrayOf_alike hZ.alike Ar10.2.1) Ar10.2.2 hin10 hat10 (g := (mkF m 25 #[.val (.ref a1), .val (.ref a2), .val (.int 0), .val (.int 0), .val (.int 1)] [(.int 1), (.ref a1), (.int 0)])) rfl rfl (hb hby d1_25) t k) ?_
  refine oS (fun t k => XS.aloadN X3.here hx rfl (hb hby d1_26) rfl rfl k) ?_
  show oG _ _ _ _ _ _ _ (T3.setTop (mkF m 27 #[.val (.ref a1), .val (.ref a2), .val (.int 0), .val (.int 0), .val (.int 1)] [(.ref a2), (.long q2), (.int 0)]))
  refine oS (fun t k => XS.iload X3.here hx rfl (hb hby d1_27) rfl k) ?_
  obtain ⟨cl11, Ar11, qk11, Sz11, Ng11, Ha11, Gf11⟩ := id V_a2
  have hin11 : ¬ ((1 : Int32) < 0 ∨ cl11.slots.size ≤ ((1 : Int32)).toNatClampNeg) := (inb_of Sz11 ⟨by decide, by decide⟩)
  have hat11 : cl11.slots[((1 : Int32)).toNatClampNeg]? = some (.long q4) := Ha11.at hin11 rfl
  refine oS (fun t k => X3.laload hx (j := (1 : Int32)) (v := (.long q4)) (by rw [e3]; exact Ar11.1) (State.isArrayOf_alike hZ.alike Ar11.2.1) Ar11.2.2 hin11 hat11 (g := (mkF m 29 #[.val (.ref a1), .val (.ref a2), .val (.int 0), .val (.int 0), .val (.int 1)] [(.int 1), (.ref a2), (.long q2), (.int 0)])) rfl rfl (hb hby d1_29) t k) ?_
  refine oS (fun t k => XS.lcmp X3.here hx rfl (hb hby d1_30) rfl k) ?_
  refine oS (fun t k => XS.ifYes X3.here hx rfl (pc0 := 31) (pc' := 38) rfl (hb hby d1_31) rfl ((if0 _ _).trans (flt (fun q => l2 ((lw_lt q2 q4).mp q))).2.1) (by decide) (by decide) k) ?_
  refine oS (fun t k => oIc li_0 X3.here hx rfl (hb hby d1_38) k) ?_
  refine oS (S' := (T3.setTop (mkF m 40 #[.val (.ref a1), .val (.ref a2), .val (.int 0), .val (.int 0), .val (.int 1)] [(.int 0)]))) (fun t k => XS.ior X3.here hx rfl (hb hby d1_39) rfl (by rw [show (0 : Int32) ||| (0 : Int32) = (0 : Int32) from by decide]; exact k)) ?_
  refine oS (fun t k => XS.istoreN X3.here hx rfl (hb hby d1_40) rfl (l' := #[.val (.ref a1), .val (.ref a2), .val (.int 0), .val (.int 0), .val (.int 1)]) rfl k) ?_
  refine oS (fun t k => XS.iloadN X3.here hx rfl (hb hby d1_41) rfl k) ?_
  refine oS (fun t k => XS.aloadN X3.here hx rfl (hb hby d1_42) rfl rfl k) ?_
  refine oS (fun t k => XS.iload X3.here hx rfl (hb hby d1_43) rfl k) ?_
  show oG _ _ _ _ _ _ _ (T3.setTop (mkF m 45 #[.val (.ref a1), .val (.ref a2), .val (.int 0), .val (.int 0), .val (.int 1)] [(.int 1), (.ref a1), (.int 0)]))
  obtain ⟨cl12, Ar12, qk12, Sz12, Ng12, Ha12, Gf12⟩ := id V_a1
  have hin12 : ¬ ((1 : Int32) < 0 ∨ cl12.slots.size ≤ ((1 : Int32)).toNatClampNeg) := (inb_of Sz12 ⟨by decide, by decide⟩)
  have hat12 : cl12.slots[((1 : Int32)).toNatClampNeg]? = some (.long q2) := Ha12.at hin12 rfl
  refine oS (fun t k => X3.laload hx (j := (1 : Int32)) (v := (.long q2)) (by rw [e3]; exact Ar12.1) (State.isArrayOf_alike hZ.alike Ar12.2.1) Ar12.2.2 hin12 hat12 (g := (mkF m 45 #[.val (.ref a1), .val (.ref a2), .val (.int 0), .val (.int 0), .val (.int 1)] [(.int 1), (.ref a1), (.int 0)])) rfl rfl (hb hby d1_45) t k) ?_
  refine oS (fun t k => XS.aloadN X3.here hx rfl (hb hby d1_46) rfl rfl k) ?_
  refine oS (fun t k => XS.iload X3.here hx rfl (hb hby d1_47) rfl k) ?_
  obtain ⟨cl13, Ar13, qk13, Sz13, Ng13, Ha13, Gf13⟩ := id V_a2
  have hin13 : ¬ ((1 : Int32) < 0 ∨ cl13.slots.size ≤ ((1 : Int32)).toNatClampNeg) := (inb_of Sz13 ⟨by decide, by decide⟩)
  have hat13 : cl13.slots[((1 : Int32)).toNatClampNeg]? = some (.long q4) := Ha13.at hin13 rfl
  refine oS (fun t k => X3.laload hx (j := (1 : Int32)) (v := (.long q4)) (by rw [e3]; exact Ar13.1) (State.isArrayOf_alike hZ.alike Ar13.2.1) Ar13.2.2 hin13 hat13 (g := (mkF m 49 #[.val (.ref a1), .val (.ref a2), .val (.int 0), .val (.int 0), .val (.int 1)] [(.int 1), (.ref a2), (.long q2), (.int 0)])) rfl rfl (hb hby d1_49) t k) ?_
  refine oS (fun t k => XS.lcmp X3.here hx rfl (hb hby d1_50) rfl k) ?_
  refine oS (fun t k => XS.ifYes X3.here hx rfl (pc0 := 51) (pc' := 58) rfl (hb hby d1_51) rfl ((if0 _ _).trans (flt (fun q => g2 ((lw_gt q2 q4).mp q))).2.2.2) (by decide) (by decide) k) ?_
  refine oS (fun t k => oIc li_0 X3.here hx rfl (hb hby d1_58) k) ?_
  refine oS (S' := (T3.setTop (mkF m 60 #[.val (.ref a1), .val (.ref a2), .val (.int 0), .val (.int 0), .val (.int 1)] [(.int 0)]))) (fun t k => XS.ior X3.here hx rfl (hb hby d1_59) rfl (by rw [show (0 : Int32) ||| (0 : Int32) = (0 : Int32) from by decide]; exact k)) ?_
  refine oS (fun t k => XS.istoreN X3.here hx rfl (hb hby d1_60) rfl (l' := #[.val (.ref a1), .val (.ref a2), .val (.int 0), .val (.int 0), .val (.int 1)]) rfl k) ?_
  refine oS (fun t k => XS.iinc X3.here hx rfl (hb hby d1_61) rfl (l' := #[.val (.ref a1), .val (.ref a2), .val (.int 0), .val (.int 0), .val (.int 2)]) rfl k) ?_
  show oG _ _ _ _ _ _ _ (T3.setTop (mkF m 64 #[.val (.ref a1), .val (.ref a2), .val (.int 0), .val (.int 0), .val (.int 2)] []))
  refine oS (fun t k => XS.goto X3.here hx rfl (pc0 := 64) (pc' := 14) rfl (hb hby d1_64) (by decide) (by decide) k) ?_
  refine oS (fun t k => XS.iload X3.here hx rfl (hb hby d1_14) rfl k) ?_
  refine oS (fun t k => XS.aloadN X3.here hx rfl (hb hby d1_16) rfl rfl k) ?_
  obtain ⟨cl14, Ar14, -, Sz14, Ng14, -, -⟩ := id V_a1
  refine oS (S' := (T3.setTop (mkF m 18 #[.val (.ref a1), .val (.ref a2), .val (.int 0), .val (.int 0), .val (.int 2)] [(.int 2), (.int 2)]))) (fun t k => X3.arraylength hx (by rw [e3]; exact Ar14.1) (State.isArrayOf_alike hZ.alike Ar14.2.1) (g := (mkF m 17 #[.val (.ref a1), .val (.ref a2), .val (.int 0), .val (.int 0), .val (.int 2)] [(.ref a1), (.int 2)])) rfl rfl (hb hby d1_17) t (by rw [len_of Sz14 Ng14]; exact k)) ?_
  refine oS (fun t k => XS.icmpYes X3.here hx rfl (pc0 := 18) (pc' := 67) rfl (hb hby d1_18) rfl (flt (by decide)).2.1 (by decide) (by decide) k) ?_
  refine oS (fun t k => XS.iloadN X3.here hx rfl (hb hby d1_67) rfl k) ?_
  refine oS (fun t k => XS.iloadN X3.here hx rfl (hb hby d1_68) rfl k) ?_
  obtain ⟨_, _, ⟨T15, L15, k15, n15⟩, -, X15, ⟨Lc15, hQ15, l15, y15, z15⟩, st15⟩ := Jvm.LawKit.callS X3 hx (y := mY0) hown (mvT hZ (oW hw 8 rfl)) (mvT hZ (oW hw 9 rfl)) (mvT hZ (oW hw 3 rfl)) (mvT hZ (oW hw 10 rfl)) (by decide) (backOf (W := 0) (rm_zz_00 l Z a0 hw []  w h0 n0 O0 W ) hZ (oW hw 10 rfl) (oW hw 3 rfl) (by decide) (by decide)) (g := (mkF m 69 #[.val (.ref a1), .val (.ref a2), .val (.int 0), .val (.int 0), .val (.int 2)] [(.int 0), (.int 0)])) rfl (by rw [hml]; rfl) (argsL := [(.int 0), (.int 0)]) (rest := []) (lenOf pd_1 rfl) rfl (by show 2 * 0 + _ ≤ _; exact Nat.le_of_eq rfl) (hb hby d1_69) (fun _ _ => ⟨rfl, e3, (by decide : 0 + 0 ≤ _), (by decide : 0 + 0 ≤ _)⟩)
  dsimp only [Pt.U, Pt.locs, Pt.cells, Pt.slots] at X15 l15 y15 z15 st15 hQ15
  subst l15 y15 z15
  obtain ⟨rfl, Nq15, e15⟩ := hQ15
  have N15 := Fr.app N3 Nq15
  refine oS (fun t k => st15 t k) ?_
  show oG _ _ _ _ _ _ _ (T15.setTop (mkF m 72 #[.val (.ref a1), .val (.ref a2), .val (.int 0), .val (.int 0), .val (.int 2)] [(.ref (w 2))]))
  try clear st15 X3 e3
  exact own_ret (v := some (.ref (w 2))) X15 (fun h => by rw [Bd.returns] at h; cases h) Bd.notSynchronized (fun fs hr => retOut X15 hx (t := (.object "com/example/shiftweave/shiftweave/engine/Dominance")) Bd.returns rfl (Or.inr (Or.inr (Or.inr (Or.inr ⟨rfl, rfl, rfl⟩)))) (hb hby d1_72) hr) (by rw [e15]; exact ⟨rfl, N15, rfl⟩) (by decide) (by decide)
theorem li_2 : Int32.ofInt (2) = (2 : Int32) := by decide
theorem pd_2 : parseMethodDescriptor "([J[J)Lcom/example/shiftweave/shiftweave/engine/Dominance;" = some ⟨[(.array .long), (.array .long)], some (.object "com/example/shiftweave/shiftweave/engine/Dominance")⟩ := by decide +kernel
theorem pd_3 : parseMethodDescriptor "()Z" = some ⟨[], some .boolean⟩ := by decide +kernel
theorem ef_0_jjjj (m : MethodId) (x0 : Int64) (x1 : Int64) (x2 : Int64) (x3 : Int64) : entryFrame m #[(.long x0), (.long x1), (.long x2), (.long x3)] maxLocals = mkF m 0 #[.val (.long x0), .second, .val (.long x1), .second, .val (.long x2), .second, .val (.long x3), .second, .unset, .unset, .unset, .unset] [] := by first | (simp [entryFrame, mkF, argsToLocals, Value.category, maxLocals]; done) | rfl
theorem pn_1 : plainName "com/example/shiftweave/shiftweave/engine/DominanceIsNoWorsePinLaw" = true := by first | (simp [plainName, overriddenIn]; done) | decide +kernel
def Q_law (Z : State) (q1 : Int64) (q2 : Int64) (q3 : Int64) (q4 : Int64) (w : Nat → Addr) (h0 : Heap) (n0 : Nat) (v : Option Value) (h : Heap) (L : List Loc) : Prop := v = some (.int 1) ∧ Fr n0 L
set_option maxRecDepth 65536 in
set_option maxHeartbeats 40000000 in
theorem rm_law (l : Launch) (Z : State) (a0 : Array Value) (hw : ∀ d ∈ tables_1, d.before a0 Z = true) (ws : List Jvm.Cond) (q1 : Int64) (q2 : Int64) (q3 : Int64) (q4 : Int64) (w : Nat → Addr) (h0 : Heap) (n0 : Nat) (O0 : Old Z n0 h0) (W : own_World Z w) :
    MetFree l x (head1 (Jvm.Cond.code x code maxLocals ret :: ws) room_1) (fun a U => a = #[(.long q1), (.long q2), (.long q3), (.long q4)] ∧ Z.Warmed39 U.vm ∧ U.heap = h0) (fun _ _ _ _ _ => True) (fun _ U o U' => ∃ v L, o = .returned v ∧ Q_law Z q1 q2 q3 q4 w h0 n0 v U'.heap L ∧ FrameEnd U o U' L room_1.cells room_1.slots) := by
  refine MetFree.of_bodySF (plainFor_of_name pn_1) hisR ?_
  intro p e s m args below meth c s₁ Bd hml0 hP hK
  obtain ⟨rfl, hZ, hh⟩ := hP
  have hx := Bd.exec
  have hby := Bd.bytes
  have hml : c.maxLocals = 12 := hml0
  have hown : s.vm.findClass "com/example/shiftweave/shiftweave/engine/DominanceIsNoWorsePinLaw" = some m.cls := findClass_of_methodNamed Bd.named
  have hnm := (name_of_methodNamed Bd.named Bd.method).1
  have X0 : Stand p l e room_1 s m #[(.long q1), (.long q2), (.long q3), (.long q4)] below meth c s₁ [] 0 0 := Stand.of_body Bd
  have e0 : s₁.heap = h0 := by rw [← hh, Bd.state]; rfl
  have N0 := Fr.nil n0
  show oG p e below s (Q_law Z q1 q2 q3 q4 w h0 n0) room_1.cells room_1.slots _
  refine oS (fun t k => castTop (ef_0_jjjj m q1 q2 q3 q4) k) ?_
  show oG _ _ _ _ _ _ _ (s₁.setTop (mkF m 0 #[.val (.long q1), .second, .val (.long q2), .second, .val (.long q3), .second, .val (.long q4), .second, .unset, .unset, .unset, .unset] []))
  refine oS (fun t k => oIc li_2 X0.here hx rfl (hb hby at_0) k) ?_
  obtain ⟨T1, h1, k1, X1, e1, E1, A1, st1⟩ := newP X0 hx hZ (oW hw 0 rfl) e0 (g := (mkF m 1 #[.val (.long q1), .second, .val (.long q2), .second, .val (.long q3), .second, .val (.long q4), .second, .unset, .unset, .unset, .unset] [(.int 2)])) rfl (hb hby at_1) rfl (by decide) (cap := 2) (by decide) (by decide) (by decide) (by decide)
  obtain ⟨b1, g1⟩ : ∃ z, z = h0.size := ⟨_, rfl⟩
  rw [← g1] at A1 st1
  have V1 : Arv Z h1 b1 k1 .long (2 : Int32) [(.long 0), (.long 0)] (.long 0) := (Arv.new A1 (by decide)).pad (pad_rep [] (.long 0) 2)
  have gx1 : n0 ≤ b1 := Nat.le_trans (O0.1 ▸ O0.2.1) (Nat.le_of_eq g1.symm)
  have O1 := O0.ext E1
  refine oS (fun t k => st1 t k) ?_
  try clear st1
  refine oS (fun t k => XS.dup X1.here hx rfl (hb hby at_3) rfl rfl k) ?_
  refine oS (fun t k => oIc li_0 X1.here hx rfl (hb hby at_4) k) ?_
  refine oS (fun t k => XS.lloadN X1.here hx rfl (hb hby at_5) rfl k) ?_
  obtain ⟨cl2, Ar2, qk2, Sz2, Ng2, Ha2, Gf2⟩ := id V1
  have hin2 : ¬ ((0 : Int32) < 0 ∨ cl2.slots.size ≤ ((0 : Int32)).toNatClampNeg) := inb_of Sz2 ⟨by decide, by decide⟩
  obtain ⟨T3, h3, X3, e3, W3, st3⟩ := stJ X1 hx hZ e1 Ar2 (j := (0 : Int32)) hin2 (g := (mkF m 6 #[.val (.long q1), .second, .val (.long q2), .second, .val (.long q3), .second, .val (.long q4), .second, .unset, .unset, .unset, .unset] [(.long q1), (.int 0), (.ref b1), (.ref b1)])) rfl rfl (hb hby at_6)
  have O3 := O1.wr W3 gx1
  have N3 := Fr.snoc X3 N0 gx1
  have V3 : Arv Z h3 b1 k1 .long (2 : Int32) [(.long q1), (.long 0)] (.long 0) := Arv.set Ar2 qk2 Sz2 Ng2 Ha2 Gf2 rfl W3 0 rfl (Nat.le_of_ble_eq_true rfl)
  clear hin2 Gf2 Ha2 Ng2 Sz2 qk2 Ar2 cl2
  refine oS (fun t k => st3 t k) ?_
  try clear st3 X1 e1
  try clear T1
  refine oS (fun t k => XS.dup X3.here hx rfl (hb hby at_7) rfl rfl k) ?_
  refine oS (fun t k => oIc li_1 X3.here hx rfl (hb hby at_8) k) ?_
  refine oS (fun t k => XS.lloadN X3.here hx rfl (hb hby at_9) rfl k) ?_
  obtain ⟨cl4, Ar4, qk4, Sz4, Ng4, Ha4, Gf4⟩ := id V3
  have hin4 : ¬ ((1 : Int32) < 0 ∨ cl4.slots.size ≤ ((1 : Int32)).toNatClampNeg) := inb_of Sz4 ⟨by decide, by decide⟩
  obtain ⟨T5, h5, X5, e5, W5, st5⟩ := stJ X3 hx hZ e3 Ar4 (j := (1 : Int32)) hin4 (g := (mkF m 10 #[.val (.long q1), .second, .val (.long q2), .second, .val (.long q3), .second, .val (.long q4), .second, .unset, .unset, .unset, .unset] [(.long q2), (.int 1), (.ref b1), (.ref b1)])) rfl rfl (hb hby at_10)
  have O5 := O3.wr W5 gx1
  have N5 := Fr.snoc X5 N3 gx1
  have V5 : Arv Z h5 b1 k1 .long (2 : Int32) [(.long q1), (.long q2)] (.long 0) := Arv.set Ar4 qk4 Sz4 Ng4 Ha4 Gf4 rfl W5 1 rfl (Nat.le_of_ble_eq_true rfl)
  clear hin4 Gf4 Ha4 Ng4 Sz4 qk4 Ar4 cl4
  refine oS (fun t k => st5 t k) ?_
  show oG _ _ _ _ _ _ _ (T5.setTop (mkF m 11 #[.val (.long q1), .second, .val (.long q2), .second, .val (.long q3), .second, .val (.long q4), .second, .unset, .unset, .unset, .unset] [(.ref b1)]))
  try clear st5 X3 e3
  try clear T3
  refine oS (fun t k => XS.astore X5.here hx rfl (hb hby at_11) rfl rfl (l' := #[.val (.long q1), .second, .val (.long q2), .second, .val (.long q3), .second, .val (.long q4), .second, .val (.ref b1), .unset, .unset, .unset]) rfl k) ?_
  refine oS (fun t k => oIc li_2 X5.here hx rfl (hb hby at_13) k) ?_
  obtain ⟨T6, h6, k6, X6, e6, E6, A6, st6⟩ := newP X5 hx hZ (oW hw 0 rfl) e5 (g := (mkF m 14 #[.val (.long q1), .second, .val (.long q2), .second, .val (.long q3), .second, .val (.long q4), .second, .val (.ref b1), .unset, .unset, .unset] [(.int 2)])) rfl (hb hby at_14) rfl (by decide) (cap := 2) (by decide) (by decide) (by decide) (by decide)
  obtain ⟨b6, g6⟩ : ∃ z, z = h5.size := ⟨_, rfl⟩
  rw [← g6] at A6 st6
  have V6 : Arv Z h6 b6 k6 .long (2 : Int32) [(.long 0), (.long 0)] (.long 0) := (Arv.new A6 (by decide)).pad (pad_rep [] (.long 0) 2)
  have gx6 : n0 ≤ b6 := Nat.le_trans (O5.1 ▸ O5.2.1) (Nat.le_of_eq g6.symm)
  have ne_b1_b6 : b1 ≠ b6 := Nat.ne_of_lt (Nat.lt_of_lt_of_le V5.lt (Nat.le_of_eq g6.symm))
  have O6 := O5.ext E6
  refine oS (fun t k => st6 t k) ?_
  try clear st6 X5 e5
  try clear T5
  refine oS (fun t k => XS.dup X6.here hx rfl (hb hby at_16) rfl rfl k) ?_
  refine oS (fun t k => oIc li_0 X6.here hx rfl (hb hby at_17) k) ?_
  refine oS (fun t k => XS.lload X6.here hx rfl (hb hby at_18) rfl k) ?_
  obtain ⟨cl7, Ar7, qk7, Sz7, Ng7, Ha7, Gf7⟩ := id V6
  have hin7 : ¬ ((0 : Int32) < 0 ∨ cl7.slots.size ≤ ((0 : Int32)).toNatClampNeg) := inb_of Sz7 ⟨by decide, by decide⟩
  obtain ⟨T8, h8, X8, e8, W8, st8⟩ := stJ X6 hx hZ e6 Ar7 (j := (0 : Int32)) hin7 (g := (mkF m 20 #[.val (.long q1), .second, .val (.long q2), .second, .val (.long q3), .second, .val (.long q4), .second, .val (.ref b1), .unset, .unset, .unset] [(.long q3), (.int 0), (.ref b6), (.ref b6)])) rfl rfl (hb hby at_20)
  have O8 := O6.wr W8 gx6
  have N8 := Fr.snoc X8 N5 gx6
  have V8 : Arv Z h8 b6 k6 .long (2 : Int32) [(.long q3), (.long 0)] (.long 0) := Arv.set Ar7 qk7 Sz7 Ng7 Ha7 Gf7 rfl W8 0 rfl (Nat.le_of_ble_eq_true rfl)
  clear hin7 Gf7 Ha7 Ng7 Sz7 qk7 Ar7 cl7
  refine oS (fun t k => st8 t k) ?_
  try clear st8 X6 e6
  try clear T6
  refine oS (fun t k => XS.dup X8.here hx rfl (hb hby at_21) rfl rfl k) ?_
  refine oS (fun t k => oIc li_1 X8.here hx rfl (hb hby at_22) k) ?_
  refine oS (fun t k => XS.lload X8.here hx rfl (hb hby at_23) rfl k) ?_
  show oG _ _ _ _ _ _ _ (T8.setTop (mkF m 25 #[.val (.long q1), .second, .val (.long q2), .second, .val (.long q3), .second, .val (.long q4), .second, .val (.ref b1), .unset, .unset, .unset] [(.long q4), (.int 1), (.ref b6), (.ref b6)]))
  obtain ⟨cl9, Ar9, qk9, Sz9, Ng9, Ha9, Gf9⟩ := id V8
  have hin9 : ¬ ((1 : Int32) < 0 ∨ cl9.slots.size ≤ ((1 : Int32)).toNatClampNeg) := inb_of Sz9 ⟨by decide, by decide⟩
  obtain ⟨T10, h10, X10, e10, W10, st10⟩ := stJ X8 hx hZ e8 Ar9 (j := (1 : Int32)) hin9 (g := (mkF m 25 #[.val (.long q1), .second, .val (.long q2), .second, .val (.long q3), .second, .val (.long q4), .second, .val (.ref b1), .unset, .unset, .unset] [(.long q4), (.int 1), (.ref b6), (.ref b6)])) rfl rfl (hb hby at_25)
  have O10 := O8.wr W10 gx6
  have N10 := Fr.snoc X10 N8 gx6
  have V10 : Arv Z h10 b6 k6 .long (2 : Int32) [(.long q3), (.long q4)] (.long 0) := Arv.set Ar9 qk9 Sz9 Ng9 Ha9 Gf9 rfl W10 1 rfl (Nat.le_of_ble_eq_true rfl)
  clear hin9 Gf9 Ha9 Ng9 Sz9 qk9 Ar9 cl9
  refine oS (fun t k => st10 t k) ?_
  try clear st10 X8 e8
  try clear T8
  refine oS (fun t k => XS.astore X10.here hx rfl (hb hby at_26) rfl rfl (l' := #[.val (.long q1), .second, .val (.long q2), .second, .val (.long q3), .second, .val (.long q4), .second, .val (.ref b1), .val (.ref b6), .unset, .unset]) rfl k) ?_
  refine oS (fun t k => XS.aload X10.here hx rfl (hb hby at_28) rfl rfl k) ?_
  refine oS (fun t k => XS.aload X10.here hx rfl (hb hby at_30) rfl rfl k) ?_
  by_cases l1 : q1 < q3
  · have g1 : ¬ (q3 < q1) := own_asym l1
    by_cases l2 : q2 < q4
    · have g2 : ¬ (q4 < q2) := own_asym l2
      obtain ⟨_, _, ⟨T11, L11, k11, n11⟩, -, X11, ⟨Lc11, hQ11, l11, y11, z11⟩, st11⟩ := Jvm.LawKit.callS X10 hx (y := mY3) hown (mvT hZ (oW hw 1 rfl)) (mvT hZ (oW hw 2 rfl)) (mvT hZ (oW hw 3 rfl)) (mvT hZ (oW hw 4 rfl)) (by decide) (backOf (W := 0) (rm_of_00 l Z a0 hw [] b1 b6 k1 k6 q1 q2 q3 q4 w h10 n0 O10 W (((V5.ext E6).other W8 ne_b1_b6).other W10 ne_b1_b6) V10 l1 g1 l2 g2) hZ (oW hw 4 rfl) (oW hw 3 rfl) (by decide) (by decide)) (g := (mkF m 32 #[.val (.long q1), .second, .val (.long q2), .second, .val (.long q3), .second, .val (.long q4), .second, .val (.ref b1), .val (.ref b6), .unset, .unset] [(.ref b6), (.ref b1)])) rfl (by rw [hml]; rfl) (argsL := [(.ref b1), (.ref b6)]) (rest := []) (lenOf pd_2 rfl) rfl (by show 2 * 0 + _ ≤ _; exact Nat.le_of_eq rfl) (hb hby at_32) (fun _ _ => ⟨rfl, e10, (by decide : 2 + 0 ≤ _), (by decide : 4 + 0 ≤ _)⟩)
      dsimp only [Pt.U, Pt.locs, Pt.cells, Pt.slots] at X11 l11 y11 z11 st11 hQ11
      subst l11 y11 z11
      obtain ⟨rfl, Nq11, e11⟩ := hQ11
      have N11 := Fr.app N10 Nq11
      refine oS (fun t k => st11 t k) ?_
      show oG _ _ _ _ _ _ _ (T11.setTop (mkF m 35 #[.val (.long q1), .second, .val (.long q2), .second, .val (.long q3), .second, .val (.long q4), .second, .val (.ref b1), .val (.ref b6), .unset, .unset] [(.ref (w 1))]))
      try clear st11 X10 e10
      try clear T10
      refine oS (fun t k => XS.astore X11.here hx rfl (hb hby at_35) rfl rfl (l' := #[.val (.long q1), .second, .val (.long q2), .second, .val (.long q3), .second, .val (.long q4), .second, .val (.ref b1), .val (.ref b6), .val (.ref (w 1)), .unset]) rfl k) ?_
      refine oS (fun t k => XS.lloadN X11.here hx rfl (hb hby at_37) rfl k) ?_
      refine oS (fun t k => XS.lload X11.here hx rfl (hb hby at_38) rfl k) ?_
      refine oS (fun t k => XS.lcmp X11.here hx rfl (hb hby at_40) rfl k) ?_
      refine oS (fun t k => XS.ifNo X11.here hx rfl (hb hby at_41) rfl ((if0 _ _).trans (flt (fun q => g1 ((lw_gt q1 q3).mp q))).2.2.1) k) ?_
      refine oS (fun t k => XS.lloadN X11.here hx rfl (hb hby at_44) rfl k) ?_
      refine oS (fun t k => XS.lload X11.here hx rfl (hb hby at_45) rfl k) ?_
      refine oS (fun t k => XS.lcmp X11.here hx rfl (hb hby at_47) rfl k) ?_
      refine oS (fun t k => XS.ifNo X11.here hx rfl (hb hby at_48) rfl ((if0 _ _).trans (flt (fun q => g2 ((lw_gt q2 q4).mp q))).2.2.1) k) ?_
      refine oS (fun t k => oIc li_1 X11.here hx rfl (hb hby at_51) k) ?_
      show oG _ _ _ _ _ _ _ (T11.setTop (mkF m 52 #[.val (.long q1), .second, .val (.long q2), .second, .val (.long q3), .second, .val (.long q4), .second, .val (.ref b1), .val (.ref b6), .val (.ref (w 1)), .unset] [(.int 1)]))
      refine oS (fun t k => XS.goto X11.here hx rfl (pc0 := 52) (pc' := 56) rfl (hb hby at_52) (by decide) (by decide) k) ?_
      refine oS (fun t k => XS.istore X11.here hx rfl (hb hby at_56) rfl (l' := #[.val (.long q1), .second, .val (.long q2), .second, .val (.long q3), .second, .val (.long q4), .second, .val (.ref b1), .val (.ref b6), .val (.ref (w 1)), .val (.int 1)]) rfl k) ?_
      refine oS (fun t k => XS.aload X11.here hx rfl (hb hby at_58) rfl rfl k) ?_
      obtain ⟨cq12, kq12, q12a, q12b, q12c⟩ := isOf hZ e11 ((wE1 W).ext O10.2)
      obtain ⟨_, _, ⟨T12, L12, k12, n12⟩, -, X12, ⟨Lc12, hQ12, l12, y12, z12⟩, st12⟩ := X11.virtualBack hx (y := mY2) (z := mY2) hown (mvT hZ (oW hw 13 rfl)) (mvT hZ (oW hw 14 rfl)) (notFace_of_selects (args := #[]) (mvT hZ (oW hw 16 rfl))) (mvT hZ (oW hw 16 rfl)) (mvT hZ (oW hw 15 rfl)) (by decide) (backOf (W := 0) (rm_nw_DOMINATES l Z a0 hw []  w h10 n0 O10 W ) hZ (oW hw 17 rfl) (oW hw 3 rfl) (by decide) (by decide)) q12a q12c (g := (mkF m 60 #[.val (.long q1), .second, .val (.long q2), .second, .val (.long q3), .second, .val (.long q4), .second, .val (.ref b1), .val (.ref b6), .val (.ref (w 1)), .val (.int 1)] [(.ref (w 1))])) rfl (by rw [hml]; rfl) (Steps.refl _) (argsL := []) (rest := []) (lenOf pd_3 rfl) rfl (by show 2 * 0 + _ ≤ _; exact Nat.le_of_eq rfl) (hb hby at_60) (fun _ _ => ⟨rfl, e11, (by decide : 2 + 0 ≤ _), (by decide : 4 + 0 ≤ _)⟩)
      dsimp only [Pt.U, Pt.locs, Pt.cells, Pt.slots] at X12 l12 y12 z12 st12 hQ12
      subst l12 y12 z12
      obtain ⟨rfl, Nq12, e12⟩ := hQ12
      have N12 := Fr.app N11 Nq12
      refine oS (fun t k => st12.trans k) ?_
      show oG _ _ _ _ _ _ _ (T12.setTop (mkF m 63 #[.val (.long q1), .second, .val (.long q2), .second, .val (.long q3), .second, .val (.long q4), .second, .val (.ref b1), .val (.ref b6), .val (.ref (w 1)), .val (.int 1)] [(.int 1)]))
      try clear st12 X11 e11
      refine oS (fun t k => XS.iload X12.here hx rfl (hb hby at_63) rfl k) ?_
      refine oS (fun t k => XS.icmpNo X12.here hx rfl (hb hby at_65) rfl (teq (by decide)).2 k) ?_
      refine oS (fun t k => oIc li_1 X12.here hx rfl (hb hby at_68) k) ?_
      refine oS (fun t k => XS.goto X12.here hx rfl (pc0 := 69) (pc' := 73) rfl (hb hby at_69) (by decide) (by decide) k) ?_
      exact own_ret (v := some (.int 1)) X12 (fun h => by rw [Bd.returns] at h; cases h) Bd.notSynchronized (fun fs hr => retN X12 hx (t := .boolean) Bd.returns (by simp) (hb hby at_73) hr) (by rw [e12]; exact ⟨rfl, N12⟩) (by decide) (by decide)
    · by_cases g2 : q4 < q2
      · obtain ⟨_, _, ⟨T13, L13, k13, n13⟩, -, X13, ⟨Lc13, hQ13, l13, y13, z13⟩, st13⟩ := Jvm.LawKit.callS X10 hx (y := mY3) hown (mvT hZ (oW hw 1 rfl)) (mvT hZ (oW hw 2 rfl)) (mvT hZ (oW hw 3 rfl)) (mvT hZ (oW hw 4 rfl)) (by decide) (backOf (W := 0) (rm_of_01 l Z a0 hw [] b1 b6 k1 k6 q1 q2 q3 q4 w h10 n0 O10 W (((V5.ext E6).other W8 ne_b1_b6).other W10 ne_b1_b6) V10 l1 g1 l2 g2) hZ (oW hw 4 rfl) (oW hw 3 rfl) (by decide) (by decide)) (g := (mkF m 32 #[.val (.long q1), .second, .val (.long q2), .second, .val (.long q3), .second, .val (.long q4), .second, .val (.ref b1), .val (.ref b6), .unset, .unset] [(.ref b6), (.ref b1)])) rfl (by rw [hml]; rfl) (argsL := [(.ref b1), (.ref b6)]) (rest := []) (lenOf pd_2 rfl) rfl (by show 2 * 0 + _ ≤ _; exact Nat.le_of_eq rfl) (hb hby at_32) (fun _ _ => ⟨rfl, e10, (by decide : 2 + 0 ≤ _), (by decide : 4 + 0 ≤ _)⟩)
        dsimp only [Pt.U, Pt.locs, Pt.cells, Pt.slots] at X13 l13 y13 z13 st13 hQ13
        subst l13 y13 z13
        obtain ⟨rfl, Nq13, e13⟩ := hQ13
        have N13 := Fr.app N10 Nq13
        refine oS (fun t k => st13 t k) ?_
        show oG _ _ _ _ _ _ _ (T13.setTop (mkF m 35 #[.val (.long q1), .second, .val (.long q2), .second, .val (.long q3), .second, .val (.long q4), .second, .val (.ref b1), .val (.ref b6), .unset, .unset] [(.ref (w 0))]))
        try clear st13 X10 e10
        try clear T10
        refine oS (fun t k => XS.astore X13.here hx rfl (hb hby at_35) rfl rfl (l' := #[.val (.long q1), .second, .val (.long q2), .second, .val (.long q3), .second, .val (.long q4), .second, .val (.ref b1), .val (.ref b6), .val (.ref (w 0)), .unset]) rfl k) ?_
        refine oS (fun t k => XS.lloadN X13.here hx rfl (hb hby at_37) rfl k) ?_
        refine oS (fun t k => XS.lload X13.here hx rfl (hb hby at_38) rfl k) ?_
        refine oS (fun t k => XS.lcmp X13.here hx rfl (hb hby at_40) rfl k) ?_
        refine oS (fun t k => XS.ifNo X13.here hx rfl (hb hby at_41) rfl ((if0 _ _).trans (flt (fun q => g1 ((lw_gt q1 q3).mp q))).2.2.1) k) ?_
        refine oS (fun t k => XS.lloadN X13.here hx rfl (hb hby at_44) rfl k) ?_
        refine oS (fun t k => XS.lload X13.here hx rfl (hb hby at_45) rfl k) ?_
        refine oS (fun t k => XS.lcmp X13.here hx rfl (hb hby at_47) rfl k) ?_
        refine oS (fun t k => XS.ifYes X13.here hx rfl (pc0 := 48) (pc' := 55) rfl (hb hby at_48) rfl ((if0 _ _).trans (tlt ((lw_gt q2 q4).mpr g2)).2.2.1) (by decide) (by decide) k) ?_
        refine oS (fun t k => oIc li_0 X13.here hx rfl (hb hby at_55) k) ?_
        show oG _ _ _ _ _ _ _ (T13.setTop (mkF m 56 #[.val (.long q1), .second, .val (.long q2), .second, .val (.long q3), .second, .val (.long q4), .second, .val (.ref b1), .val (.ref b6), .val (.ref (w 0)), .unset] [(.int 0)]))
        refine oS (fun t k => XS.istore X13.here hx rfl (hb hby at_56) rfl (l' := #[.val (.long q1), .second, .val (.long q2), .second, .val (.long q3), .second, .val (.long q4), .second, .val (.ref b1), .val (.ref b6), .val (.ref (w 0)), .val (.int 0)]) rfl k) ?_
        refine oS (fun t k => XS.aload X13.here hx rfl (hb hby at_58) rfl rfl k) ?_
        obtain ⟨cq14, kq14, q14a, q14b, q14c⟩ := isOf hZ e13 ((wE0 W).ext O10.2)
        obtain ⟨_, _, ⟨T14, L14, k14, n14⟩, -, X14, ⟨Lc14, hQ14, l14, y14, z14⟩, st14⟩ := X13.virtualBack hx (y := mY2) (z := mY2) hown (mvT hZ (oW hw 13 rfl)) (mvT hZ (oW hw 14 rfl)) (notFace_of_selects (args := #[]) (mvT hZ (oW hw 16 rfl))) (mvT hZ (oW hw 16 rfl)) (mvT hZ (oW hw 15 rfl)) (by decide) (backOf (W := 0) (rm_nw_INCOMPARABLE l Z a0 hw []  w h10 n0 O10 W ) hZ (oW hw 17 rfl) (oW hw 3 rfl) (by decide) (by decide)) q14a q14c (g := (mkF m 60 #[.val (.long q1), .second, .val (.long q2), .second, .val (.long q3), .second, .val (.long q4), .second, .val (.ref b1), .val (.ref b6), .val (.ref (w 0)), .val (.int 0)] [(.ref (w 0))])) rfl (by rw [hml]; rfl) (Steps.refl _) (argsL := []) (rest := []) (lenOf pd_3 rfl) rfl (by show 2 * 0 + _ ≤ _; exact Nat.le_of_eq rfl) (hb hby at_60) (fun _ _ => ⟨rfl, e13, (by decide : 2 + 0 ≤ _), (by decide : 4 + 0 ≤ _)⟩)
        dsimp only [Pt.U, Pt.locs, Pt.cells, Pt.slots] at X14 l14 y14 z14 st14 hQ14
        subst l14 y14 z14
        obtain ⟨rfl, Nq14, e14⟩ := hQ14
        have N14 := Fr.app N13 Nq14
        refine oS (fun t k => st14.trans k) ?_
        show oG _ _ _ _ _ _ _ (T14.setTop (mkF m 63 #[.val (.long q1), .second, .val (.long q2), .second, .val (.long q3), .second, .val (.long q4), .second, .val (.ref b1), .val (.ref b6), .val (.ref (w 0)), .val (.int 0)] [(.int 0)]))
        try clear st14 X13 e13
        refine oS (fun t k => XS.iload X14.here hx rfl (hb hby at_63) rfl k) ?_
        refine oS (fun t k => XS.icmpNo X14.here hx rfl (hb hby at_65) rfl (teq (by decide)).2 k) ?_
        refine oS (fun t k => oIc li_1 X14.here hx rfl (hb hby at_68) k) ?_
        refine oS (fun t k => XS.goto X14.here hx rfl (pc0 := 69) (pc' := 73) rfl (hb hby at_69) (by decide) (by decide) k) ?_
        exact own_ret (v := some (.int 1)) X14 (fun h => by rw [Bd.returns] at h; cases h) Bd.notSynchronized (fun fs hr => retN X14 hx (t := .boolean) Bd.returns (by simp) (hb hby at_73) hr) (by rw [e14]; exact ⟨rfl, N14⟩) (by decide) (by decide)
      · obtain ⟨_, _, ⟨T15, L15, k15, n15⟩, -, X15, ⟨Lc15, hQ15, l15, y15, z15⟩, st15⟩ := Jvm.LawKit.callS X10 hx (y := mY3) hown (mvT hZ (oW hw 1 rfl)) (mvT hZ (oW hw 2 rfl)) (mvT hZ (oW hw 3 rfl)) (mvT hZ (oW hw 4 rfl)) (by decide) (backOf (W := 0) (rm_of_02 l Z a0 hw [] b1 b6 k1 k6 q1 q2 q3 q4 w h10 n0 O10 W (((V5.ext E6).other W8 ne_b1_b6).other W10 ne_b1_b6) V10 l1 g1 l2 g2) hZ (oW hw 4 rfl) (oW hw 3 rfl) (by decide) (by decide)) (g := (mkF m 32 #[.val (.long q1), .second, .val (.long q2), .second, .val (.long q3), .second, .val (.long q4), .second, .val (.ref b1), .val (.ref b6), .unset, .unset] [(.ref b6), (.ref b1)])) rfl (by rw [hml]; rfl) (argsL := [(.ref b1), (.ref b6)]) (rest := []) (lenOf pd_2 rfl) rfl (by show 2 * 0 + _ ≤ _; exact Nat.le_of_eq rfl) (hb hby at_32) (fun _ _ => ⟨rfl, e10, (by decide : 2 + 0 ≤ _), (by decide : 4 + 0 ≤ _)⟩)
        dsimp only [Pt.U, Pt.locs, Pt.cells, Pt.slots] at X15 l15 y15 z15 st15 hQ15
        subst l15 y15 z15
        obtain ⟨rfl, Nq15, e15⟩ := hQ15
        have N15 := Fr.app N10 Nq15
        refine oS (fun t k => st15 t k) ?_
        show oG _ _ _ _ _ _ _ (T15.setTop (mkF m 35 #[.val (.long q1), .second, .val (.long q2), .second, .val (.long q3), .second, .val (.long q4), .second, .val (.ref b1), .val (.ref b6), .unset, .unset] [(.ref (w 1))]))
        try clear st15 X10 e10
        try clear T10
        refine oS (fun t k => XS.astore X15.here hx rfl (hb hby at_35) rfl rfl (l' := #[.val (.long q1), .second, .val (.long q2), .second, .val (.long q3), .second, .val (.long q4), .second, .val (.ref b1), .val (.ref b6), .val (.ref (w 1)), .unset]) rfl k) ?_
        refine oS (fun t k => XS.lloadN X15.here hx rfl (hb hby at_37) rfl k) ?_
        refine oS (fun t k => XS.lload X15.here hx rfl (hb hby at_38) rfl k) ?_
        refine oS (fun t k => XS.lcmp X15.here hx rfl (hb hby at_40) rfl k) ?_
        refine oS (fun t k => XS.ifNo X15.here hx rfl (hb hby at_41) rfl ((if0 _ _).trans (flt (fun q => g1 ((lw_gt q1 q3).mp q))).2.2.1) k) ?_
        refine oS (fun t k => XS.lloadN X15.here hx rfl (hb hby at_44) rfl k) ?_
        refine oS (fun t k => XS.lload X15.here hx rfl (hb hby at_45) rfl k) ?_
        refine oS (fun t k => XS.lcmp X15.here hx rfl (hb hby at_47) rfl k) ?_
        refine oS (fun t k => XS.ifNo X15.here hx rfl (hb hby at_48) rfl ((if0 _ _).trans (flt (fun q => g2 ((lw_gt q2 q4).mp q))).2.2.1) k) ?_
        refine oS (fun t k => oIc li_1 X15.here hx rfl (hb hby at_51) k) ?_
        show oG _ _ _ _ _ _ _ (T15.setTop (mkF m 52 #[.val (.long q1), .second, .val (.long q2), .second, .val (.long q3), .second, .val (.long q4), .second, .val (.ref b1), .val (.ref b6), .val (.ref (w 1)), .unset] [(.int 1)]))
        refine oS (fun t k => XS.goto X15.here hx rfl (pc0 := 52) (pc' := 56) rfl (hb hby at_52) (by decide) (by decide) k) ?_
        refine oS (fun t k => XS.istore X15.here hx rfl (hb hby at_56) rfl (l' := #[.val (.long q1), .second, .val (.long q2), .second, .val (.long q3), .second, .val (.long q4), .second, .val (.ref b1), .val (.ref b6), .val (.ref (w 1)), .val (.int 1)]) rfl k) ?_
        refine oS (fun t k => XS.aload X15.here hx rfl (hb hby at_58) rfl rfl k) ?_
        obtain ⟨cq16, kq16, q16a, q16b, q16c⟩ := isOf hZ e15 ((wE1 W).ext O10.2)
        obtain ⟨_, _, ⟨T16, L16, k16, n16⟩, -, X16, ⟨Lc16, hQ16, l16, y16, z16⟩, st16⟩ := X15.virtualBack hx (y := mY2) (z := mY2) hown (mvT hZ (oW hw 13 rfl)) (mvT hZ (oW hw 14 rfl)) (notFace_of_selects (args := #[]) (mvT hZ (oW hw 16 rfl))) (mvT hZ (oW hw 16 rfl)) (mvT hZ (oW hw 15 rfl)) (by decide) (backOf (W := 0) (rm_nw_DOMINATES l Z a0 hw []  w h10 n0 O10 W ) hZ (oW hw 17 rfl) (oW hw 3 rfl) (by decide) (by decide)) q16a q16c (g := (mkF m 60 #[.val (.long q1), .second, .val (.long q2), .second, .val (.long q3), .second, .val (.long q4), .second, .val (.ref b1), .val (.ref b6), .val (.ref (w 1)), .val (.int 1)] [(.ref (w 1))])) rfl (by rw [hml]; rfl) (Steps.refl _) (argsL := []) (rest := []) (lenOf pd_3 rfl) rfl (by show 2 * 0 + _ ≤ _; exact Nat.le_of_eq rfl) (hb hby at_60) (fun _ _ => ⟨rfl, e15, (by decide : 2 + 0 ≤ _), (by decide : 4 + 0 ≤ _)⟩)
        dsimp only [Pt.U, Pt.locs, Pt.cells, Pt.slots] at X16 l16 y16 z16 st16 hQ16
        subst l16 y16 z16
        obtain ⟨rfl, Nq16, e16⟩ := hQ16
        have N16 := Fr.app N15 Nq16
        refine oS (fun t k => st16.trans k) ?_
        show oG _ _ _ _ _ _ _ (T16.setTop (mkF m 63 #[.val (.long q1), .second, .val (.long q2), .second, .val (.long q3), .second, .val (.long q4), .second, .val (.ref b1), .val (.ref b6), .val (.ref (w 1)), .val (.int 1)] [(.int 1)]))
        try clear st16 X15 e15
        refine oS (fun t k => XS.iload X16.here hx rfl (hb hby at_63) rfl k) ?_
        refine oS (fun t k => XS.icmpNo X16.here hx rfl (hb hby at_65) rfl (teq (by decide)).2 k) ?_
        refine oS (fun t k => oIc li_1 X16.here hx rfl (hb hby at_68) k) ?_
        refine oS (fun t k => XS.goto X16.here hx rfl (pc0 := 69) (pc' := 73) rfl (hb hby at_69) (by decide) (by decide) k) ?_
        exact own_ret (v := some (.int 1)) X16 (fun h => by rw [Bd.returns] at h; cases h) Bd.notSynchronized (fun fs hr => retN X16 hx (t := .boolean) Bd.returns (by simp) (hb hby at_73) hr) (by rw [e16]; exact ⟨rfl, N16⟩) (by decide) (by decide)
  · by_cases g1 : q3 < q1
    · by_cases l2 : q2 < q4
      · have g2 : ¬ (q4 < q2) := own_asym l2
        obtain ⟨_, _, ⟨T17, L17, k17, n17⟩, -, X17, ⟨Lc17, hQ17, l17, y17, z17⟩, st17⟩ := Jvm.LawKit.callS X10 hx (y := mY3) hown (mvT hZ (oW hw 1 rfl)) (mvT hZ (oW hw 2 rfl)) (mvT hZ (oW hw 3 rfl)) (mvT hZ (oW hw 4 rfl)) (by decide) (backOf (W := 0) (rm_of_10 l Z a0 hw [] b1 b6 k1 k6 q1 q2 q3 q4 w h10 n0 O10 W (((V5.ext E6).other W8 ne_b1_b6).other W10 ne_b1_b6) V10 l1 g1 l2 g2) hZ (oW hw 4 rfl) (oW hw 3 rfl) (by decide) (by decide)) (g := (mkF m 32 #[.val (.long q1), .second, .val (.long q2), .second, .val (.long q3), .second, .val (.long q4), .second, .val (.ref b1), .val (.ref b6), .unset, .unset] [(.ref b6), (.ref b1)])) rfl (by rw [hml]; rfl) (argsL := [(.ref b1), (.ref b6)]) (rest := []) (lenOf pd_2 rfl) rfl (by show 2 * 0 + _ ≤ _; exact Nat.le_of_eq rfl) (hb hby at_32) (fun _ _ => ⟨rfl, e10, (by decide : 2 + 0 ≤ _), (by decide : 4 + 0 ≤ _)⟩)
        dsimp only [Pt.U, Pt.locs, Pt.cells, Pt.slots] at X17 l17 y17 z17 st17 hQ17
        subst l17 y17 z17
        obtain ⟨rfl, Nq17, e17⟩ := hQ17
        have N17 := Fr.app N10 Nq17
        refine oS (fun t k => st17 t k) ?_
        show oG _ _ _ _ _ _ _ (T17.setTop (mkF m 35 #[.val (.long q1), .second, .val (.long q2), .second, .val (.long q3), .second, .val (.long q4), .second, .val (.ref b1), .val (.ref b6), .unset, .unset] [(.ref (w 0))]))
        try clear st17 X10 e10
        try clear T10
        refine oS (fun t k => XS.astore X17.here hx rfl (hb hby at_35) rfl rfl (l' := #[.val (.long q1), .second, .val (.long q2), .second, .val (.long q3), .second, .val (.long q4), .second, .val (.ref b1), .val (.ref b6), .val (.ref (w 0)), .unset]) rfl k) ?_
        refine oS (fun t k => XS.lloadN X17.here hx rfl (hb hby at_37) rfl k) ?_
        refine oS (fun t k => XS.lload X17.here hx rfl (hb hby at_38) rfl k) ?_
        refine oS (fun t k => XS.lcmp X17.here hx rfl (hb hby at_40) rfl k) ?_
        refine oS (fun t k => XS.ifYes X17.here hx rfl (pc0 := 41) (pc' := 55) rfl (hb hby at_41) rfl ((if0 _ _).trans (tlt ((lw_gt q1 q3).mpr g1)).2.2.1) (by decide) (by decide) k) ?_
        refine oS (fun t k => oIc li_0 X17.here hx rfl (hb hby at_55) k) ?_
        refine oS (fun t k => XS.istore X17.here hx rfl (hb hby at_56) rfl (l' := #[.val (.long q1), .second, .val (.long q2), .second, .val (.long q3), .second, .val (.long q4), .second, .val (.ref b1), .val (.ref b6), .val (.ref (w 0)), .val (.int 0)]) rfl k) ?_
        refine oS (fun t k => XS.aload X17.here hx rfl (hb hby at_58) rfl rfl k) ?_
        obtain ⟨cq18, kq18, q18a, q18b, q18c⟩ := isOf hZ e17 ((wE0 W).ext O10.2)
        obtain ⟨_, _, ⟨T18, L18, k18, n18⟩, -, X18, ⟨Lc18, hQ18, l18, y18, z18⟩, st18⟩ := X17.virtualBack hx (y := mY2) (z := mY2) hown (mvT hZ (oW hw 13 rfl)) (mvT hZ (oW hw 14 rfl)) (notFace_of_selects (args := #[]) (mvT hZ (oW hw 16 rfl))) (mvT hZ (oW hw 16 rfl)) (mvT hZ (oW hw 15 rfl)) (by decide) (backOf (W := 0) (rm_nw_INCOMPARABLE l Z a0 hw []  w h10 n0 O10 W ) hZ (oW hw 17 rfl) (oW hw 3 rfl) (by decide) (by decide)) q18a q18c (g := (mkF m 60 #[.val (.long q1), .second, .val (.long q2), .second, .val (.long q3), .second, .val (.long q4), .second, .val (.ref b1), .val (.ref b6), .val (.ref (w 0)), .val (.int 0)] [(.ref (w 0))])) rfl (by rw [hml]; rfl) (Steps.refl _) (argsL := []) (rest := []) (lenOf pd_3 rfl) rfl (by show 2 * 0 + _ ≤ _; exact Nat.le_of_eq rfl) (hb hby at_60) (fun _ _ => ⟨rfl, e17, (by decide : 2 + 0 ≤ _), (by decide : 4 + 0 ≤ _)⟩)
        dsimp only [Pt.U, Pt.locs, Pt.cells, Pt.slots] at X18 l18 y18 z18 st18 hQ18
        subst l18 y18 z18
        obtain ⟨rfl, Nq18, e18⟩ := hQ18
        have N18 := Fr.app N17 Nq18
        refine oS (fun t k => st18.trans k) ?_
        show oG _ _ _ _ _ _ _ (T18.setTop (mkF m 63 #[.val (.long q1), .second, .val (.long q2), .second, .val (.long q3), .second, .val (.long q4), .second, .val (.ref b1), .val (.ref b6), .val (.ref (w 0)), .val (.int 0)] [(.int 0)]))
        try clear st18 X17 e17
        refine oS (fun t k => XS.iload X18.here hx rfl (hb hby at_63) rfl k) ?_
        refine oS (fun t k => XS.icmpNo X18.here hx rfl (hb hby at_65) rfl (teq (by decide)).2 k) ?_
        refine oS (fun t k => oIc li_1 X18.here hx rfl (hb hby at_68) k) ?_
        refine oS (fun t k => XS.goto X18.here hx rfl (pc0 := 69) (pc' := 73) rfl (hb hby at_69) (by decide) (by decide) k) ?_
        exact own_ret (v := some (.int 1)) X18 (fun h => by rw [Bd.returns] at h; cases h) Bd.notSynchronized (fun fs hr => retN X18 hx (t := .boolean) Bd.returns (by simp) (hb hby at_73) hr) (by rw [e18]; exact ⟨rfl, N18⟩) (by decide) (by decide)
      · by_cases g2 : q4 < q2
        · obtain ⟨_, _, ⟨T19, L19, k19, n19⟩, -, X19, ⟨Lc19, hQ19, l19, y19, z19⟩, st19⟩ := Jvm.LawKit.callS X10 hx (y := mY3) hown (mvT hZ (oW hw 1 rfl)) (mvT hZ (oW hw 2 rfl)) (mvT hZ (oW hw 3 rfl)) (mvT hZ (oW hw 4 rfl)) (by decide) (backOf (W := 0) (rm_of_11 l Z a0 hw [] b1 b6 k1 k6 q1 q2 q3 q4 w h10 n0 O10 W (((V5.ext E6).other W8 ne_b1_b6).other W10 ne_b1_b6) V10 l1 g1 l2 g2) hZ (oW hw 4 rfl) (oW hw 3 rfl) (by decide) (by decide)) (g := (mkF m 32 #[.val (.long q1), .second, .val (.long q2), .second, .val (.long q3), .second, .val (.long q4), .second, .val (.ref b1), .val (.ref b6), .unset, .unset] [(.ref b6), (.ref b1)])) rfl (by rw [hml]; rfl) (argsL := [(.ref b1), (.ref b6)]) (rest := []) (lenOf pd_2 rfl) rfl (by show 2 * 0 + _ ≤ _; exact Nat.le_of_eq rfl) (hb hby at_32) (fun _ _ => ⟨rfl, e10, (by decide : 2 + 0 ≤ _), (by decide : 4 + 0 ≤ _)⟩)
          dsimp only [Pt.U, Pt.locs, Pt.cells, Pt.slots] at X19 l19 y19 z19 st19 hQ19
          subst l19 y19 z19
          obtain ⟨rfl, Nq19, e19⟩ := hQ19
          have N19 := Fr.app N10 Nq19
          refine oS (fun t k => st19 t k) ?_
          show oG _ _ _ _ _ _ _ (T19.setTop (mkF m 35 #[.val (.long q1), .second, .val (.long q2), .second, .val (.long q3), .second, .val (.long q4), .second, .val (.ref b1), .val (.ref b6), .unset, .unset] [(.ref (w 3))]))
          try clear st19 X10 e10
          try clear T10
          refine oS (fun t k => XS.astore X19.here hx rfl (hb hby at_35) rfl rfl (l' := #[.val (.long q1), .second, .val (.long q2), .second, .val (.long q3), .second, .val (.long q4), .second, .val (.ref b1), .val (.ref b6), .val (.ref (w 3)), .unset]) rfl k) ?_
          refine oS (fun t k => XS.lloadN X19.here hx rfl (hb hby at_37) rfl k) ?_
          refine oS (fun t k => XS.lload X19.here hx rfl (hb hby at_38) rfl k) ?_
          refine oS (fun t k => XS.lcmp X19.here hx rfl (hb hby at_40) rfl k) ?_
          refine oS (fun t k => XS.ifYes X19.here hx rfl (pc0 := 41) (pc' := 55) rfl (hb hby at_41) rfl ((if0 _ _).trans (tlt ((lw_gt q1 q3).mpr g1)).2.2.1) (by decide) (by decide) k) ?_
          refine oS (fun t k => oIc li_0 X19.here hx rfl (hb hby at_55) k) ?_
          refine oS (fun t k => XS.istore X19.here hx rfl (hb hby at_56) rfl (l' := #[.val (.long q1), .second, .val (.long q2), .second, .val (.long q3), .second, .val (.long q4), .second, .val (.ref b1), .val (.ref b6), .val (.ref (w 3)), .val (.int 0)]) rfl k) ?_
          refine oS (fun t k => XS.aload X19.here hx rfl (hb hby at_58) rfl rfl k) ?_
          obtain ⟨cq20, kq20, q20a, q20b, q20c⟩ := isOf hZ e19 ((wE3 W).ext O10.2)
          obtain ⟨_, _, ⟨T20, L20, k20, n20⟩, -, X20, ⟨Lc20, hQ20, l20, y20, z20⟩, st20⟩ := X19.virtualBack hx (y := mY2) (z := mY2) hown (mvT hZ (oW hw 13 rfl)) (mvT hZ (oW hw 14 rfl)) (notFace_of_selects (args := #[]) (mvT hZ (oW hw 16 rfl))) (mvT hZ (oW hw 16 rfl)) (mvT hZ (oW hw 15 rfl)) (by decide) (backOf (W := 0) (rm_nw_DOMINATED l Z a0 hw []  w h10 n0 O10 W ) hZ (oW hw 17 rfl) (oW hw 3 rfl) (by decide) (by decide)) q20a q20c (g := (mkF m 60 #[.val (.long q1), .second, .val (.long q2), .second, .val (.long q3), .second, .val (.long q4), .second, .val (.ref b1), .val (.ref b6), .val (.ref (w 3)), .val (.int 0)] [(.ref (w 3))])) rfl (by rw [hml]; rfl) (Steps.refl _) (argsL := []) (rest := []) (lenOf pd_3 rfl) rfl (by show 2 * 0 + _ ≤ _; exact Nat.le_of_eq rfl) (hb hby at_60) (fun _ _ => ⟨rfl, e19, (by decide : 2 + 0 ≤ _), (by decide : 4 + 0 ≤ _)⟩)
          dsimp only [Pt.U, Pt.locs, Pt.cells, Pt.slots] at X20 l20 y20 z20 st20 hQ20
          subst l20 y20 z20
          obtain ⟨rfl, Nq20, e20⟩ := hQ20
          have N20 := Fr.app N19 Nq20
          refine oS (fun t k => st20.trans k) ?_
          show oG _ _ _ _ _ _ _ (T20.setTop (mkF m 63 #[.val (.long q1), .second, .val (.long q2), .second, .val (.long q3), .second, .val (.long q4), .second, .val (.ref b1), .val (.ref b6), .val (.ref (w 3)), .val (.int 0)] [(.int 0)]))
          try clear st20 X19 e19
          refine oS (fun t k => XS.iload X20.here hx rfl (hb hby at_63) rfl k) ?_
          refine oS (fun t k => XS.icmpNo X20.here hx rfl (hb hby at_65) rfl (teq (by decide)).2 k) ?_
          refine oS (fun t k => oIc li_1 X20.here hx rfl (hb hby at_68) k) ?_
          refine oS (fun t k => XS.goto X20.here hx rfl (pc0 := 69) (pc' := 73) rfl (hb hby at_69) (by decide) (by decide) k) ?_
          exact own_ret (v := some (.int 1)) X20 (fun h => by rw [Bd.returns] at h; cases h) Bd.notSynchronized (fun fs hr => retN X20 hx (t := .boolean) Bd.returns (by simp) (hb hby at_73) hr) (by rw [e20]; exact ⟨rfl, N20⟩) (by decide) (by decide)
        · obtain ⟨_, _, ⟨T21, L21, k21, n21⟩, -, X21, ⟨Lc21, hQ21, l21, y21, z21⟩, st21⟩ := Jvm.LawKit.callS X10 hx (y := mY3) hown (mvT hZ (oW hw 1 rfl)) (mvT hZ (oW hw 2 rfl)) (mvT hZ (oW hw 3 rfl)) (mvT hZ (oW hw 4 rfl)) (by decide) (backOf (W := 0) (rm_of_12 l Z a0 hw [] b1 b6 k1 k6 q1 q2 q3 q4 w h10 n0 O10 W (((V5.ext E6).other W8 ne_b1_b6).other W10 ne_b1_b6) V10 l1 g1 l2 g2) hZ (oW hw 4 rfl) (oW hw 3 rfl) (by decide) (by decide)) (g := (mkF m 32 #[.val (.long q1), .second, .val (.long q2), .second, .val (.long q3), .second, .val (.long q4), .second, .val (.ref b1), .val (.ref b6), .unset, .unset] [(.ref b6), (.ref b1)])) rfl (by rw [hml]; rfl) (argsL := [(.ref b1), (.ref b6)]) (rest := []) (lenOf pd_2 rfl) rfl (by show 2 * 0 + _ ≤ _; exact Nat.le_of_eq rfl) (hb hby at_32) (fun _ _ => ⟨rfl, e10, (by decide : 2 + 0 ≤ _), (by decide : 4 + 0 ≤ _)⟩)
          dsimp only [Pt.U, Pt.locs, Pt.cells, Pt.slots] at X21 l21 y21 z21 st21 hQ21
          subst l21 y21 z21
          obtain ⟨rfl, Nq21, e21⟩ := hQ21
          have N21 := Fr.app N10 Nq21
          refine oS (fun t k => st21 t k) ?_
          show oG _ _ _ _ _ _ _ (T21.setTop (mkF m 35 #[.val (.long q1), .second, .val (.long q2), .second, .val (.long q3), .second, .val (.long q4), .second, .val (.ref b1), .val (.ref b6), .unset, .unset] [(.ref (w 3))]))
          try clear st21 X10 e10
          try clear T10
          refine oS (fun t k => XS.astore X21.here hx rfl (hb hby at_35) rfl rfl (l' := #[.val (.long q1), .second, .val (.long q2), .second, .val (.long q3), .second, .val (.long q4), .second, .val (.ref b1), .val (.ref b6), .val (.ref (w 3)), .unset]) rfl k) ?_
          refine oS (fun t k => XS.lloadN X21.here hx rfl (hb hby at_37) rfl k) ?_
          refine oS (fun t k => XS.lload X21.here hx rfl (hb hby at_38) rfl k) ?_
          refine oS (fun t k => XS.lcmp X21.here hx rfl (hb hby at_40) rfl k) ?_
          refine oS (fun t k => XS.ifYes X21.here hx rfl (pc0 := 41) (pc' := 55) rfl (hb hby at_41) rfl ((if0 _ _).trans (tlt ((lw_gt q1 q3).mpr g1)).2.2.1) (by decide) (by decide) k) ?_
          refine oS (fun t k => oIc li_0 X21.here hx rfl (hb hby at_55) k) ?_
          refine oS (fun t k => XS.istore X21.here hx rfl (hb hby at_56) rfl (l' := #[.val (.long q1), .second, .val (.long q2), .second, .val (.long q3), .second, .val (.long q4), .second, .val (.ref b1), .val (.ref b6), .val (.ref (w 3)), .val (.int 0)]) rfl k) ?_
          refine oS (fun t k => XS.aload X21.here hx rfl (hb hby at_58) rfl rfl k) ?_
          obtain ⟨cq22, kq22, q22a, q22b, q22c⟩ := isOf hZ e21 ((wE3 W).ext O10.2)
          obtain ⟨_, _, ⟨T22, L22, k22, n22⟩, -, X22, ⟨Lc22, hQ22, l22, y22, z22⟩, st22⟩ := X21.virtualBack hx (y := mY2) (z := mY2) hown (mvT hZ (oW hw 13 rfl)) (mvT hZ (oW hw 14 rfl)) (notFace_of_selects (args := #[]) (mvT hZ (oW hw 16 rfl))) (mvT hZ (oW hw 16 rfl)) (mvT hZ (oW hw 15 rfl)) (by decide) (backOf (W := 0) (rm_nw_DOMINATED l Z a0 hw []  w h10 n0 O10 W ) hZ (oW hw 17 rfl) (oW hw 3 rfl) (by decide) (by decide)) q22a q22c (g := (mkF m 60 #[.val (.long q1), .second, .val (.long q2), .second, .val (.long q3), .second, .val (.long q4), .second, .val (.ref b1), .val (.ref b6), .val (.ref (w 3)), .val (.int 0)] [(.ref (w 3))])) rfl (by rw [hml]; rfl) (Steps.refl _) (argsL := []) (rest := []) (lenOf pd_3 rfl) rfl (by show 2 * 0 + _ ≤ _; exact Nat.le_of_eq rfl) (hb hby at_60) (fun _ _ => ⟨rfl, e21, (by decide : 2 + 0 ≤ _), (by decide : 4 + 0 ≤ _)⟩)
          dsimp only [Pt.U, Pt.locs, Pt.cells, Pt.slots] at X22 l22 y22 z22 st22 hQ22
          subst l22 y22 z22
          obtain ⟨rfl, Nq22, e22⟩ := hQ22
          have N22 := Fr.app N21 Nq22
          refine oS (fun t k => st22.trans k) ?_
          show oG _ _ _ _ _ _ _ (T22.setTop (mkF m 63 #[.val (.long q1), .second, .val (.long q2), .second, .val (.long q3), .second, .val (.long q4), .second, .val (.ref b1), .val (.ref b6), .val (.ref (w 3)), .val (.int 0)] [(.int 0)]))
          try clear st22 X21 e21
          refine oS (fun t k => XS.iload X22.here hx rfl (hb hby at_63) rfl k) ?_
          refine oS (fun t k => XS.icmpNo X22.here hx rfl (hb hby at_65) rfl (teq (by decide)).2 k) ?_
          refine oS (fun t k => oIc li_1 X22.here hx rfl (hb hby at_68) k) ?_
          refine oS (fun t k => XS.goto X22.here hx rfl (pc0 := 69) (pc' := 73) rfl (hb hby at_69) (by decide) (by decide) k) ?_
          exact own_ret (v := some (.int 1)) X22 (fun h => by rw [Bd.returns] at h; cases h) Bd.notSynchronized (fun fs hr => retN X22 hx (t := .boolean) Bd.returns (by simp) (hb hby at_73) hr) (by rw [e22]; exact ⟨rfl, N22⟩) (by decide) (by decide)
    · by_cases l2 : q2 < q4
      · have g2 : ¬ (q4 < q2) := own_asym l2
        obtain ⟨_, _, ⟨T23, L23, k23, n23⟩, -, X23, ⟨Lc23, hQ23, l23, y23, z23⟩, st23⟩ := Jvm.LawKit.callS X10 hx (y := mY3) hown (mvT hZ (oW hw 1 rfl)) (mvT hZ (oW hw 2 rfl)) (mvT hZ (oW hw 3 rfl)) (mvT hZ (oW hw 4 rfl)) (by decide) (backOf (W := 0) (rm_of_20 l Z a0 hw [] b1 b6 k1 k6 q1 q2 q3 q4 w h10 n0 O10 W (((V5.ext E6).other W8 ne_b1_b6).other W10 ne_b1_b6) V10 l1 g1 l2 g2) hZ (oW hw 4 rfl) (oW hw 3 rfl) (by decide) (by decide)) (g := (mkF m 32 #[.val (.long q1), .second, .val (.long q2), .second, .val (.long q3), .second, .val (.long q4), .second, .val (.ref b1), .val (.ref b6), .unset, .unset] [(.ref b6), (.ref b1)])) rfl (by rw [hml]; rfl) (argsL := [(.ref b1), (.ref b6)]) (rest := []) (lenOf pd_2 rfl) rfl (by show 2 * 0 + _ ≤ _; exact Nat.le_of_eq rfl) (hb hby at_32) (fun _ _ => ⟨rfl, e10, (by decide : 2 + 0 ≤ _), (by decide : 4 + 0 ≤ _)⟩)
        dsimp only [Pt.U, Pt.locs, Pt.cells, Pt.slots] at X23 l23 y23 z23 st23 hQ23
        subst l23 y23 z23
        obtain ⟨rfl, Nq23, e23⟩ := hQ23
        have N23 := Fr.app N10 Nq23
        refine oS (fun t k => st23 t k) ?_
        show oG _ _ _ _ _ _ _ (T23.setTop (mkF m 35 #[.val (.long q1), .second, .val (.long q2), .second, .val (.long q3), .second, .val (.long q4), .second, .val (.ref b1), .val (.ref b6), .unset, .unset] [(.ref (w 1))]))
        try clear st23 X10 e10
        try clear T10
        refine oS (fun t k => XS.astore X23.here hx rfl (hb hby at_35) rfl rfl (l' := #[.val (.long q1), .second, .val (.long q2), .second, .val (.long q3), .second, .val (.long q4), .second, .val (.ref b1), .val (.ref b6), .val (.ref (w 1)), .unset]) rfl k) ?_
        refine oS (fun t k => XS.lloadN X23.here hx rfl (hb hby at_37) rfl k) ?_
        refine oS (fun t k => XS.lload X23.here hx rfl (hb hby at_38) rfl k) ?_
        refine oS (fun t k => XS.lcmp X23.here hx rfl (hb hby at_40) rfl k) ?_
        refine oS (fun t k => XS.ifNo X23.here hx rfl (hb hby at_41) rfl ((if0 _ _).trans (flt (fun q => g1 ((lw_gt q1 q3).mp q))).2.2.1) k) ?_
        refine oS (fun t k => XS.lloadN X23.here hx rfl (hb hby at_44) rfl k) ?_
        refine oS (fun t k => XS.lload X23.here hx rfl (hb hby at_45) rfl k) ?_
        refine oS (fun t k => XS.lcmp X23.here hx rfl (hb hby at_47) rfl k) ?_
        refine oS (fun t k => XS.ifNo X23.here hx rfl (hb hby at_48) rfl ((if0 _ _).trans (flt (fun q => g2 ((lw_gt q2 q4).mp q))).2.2.1) k) ?_
        refine oS (fun t k => oIc li_1 X23.here hx rfl (hb hby at_51) k) ?_
        show oG _ _ _ _ _ _ _ (T23.setTop (mkF m 52 #[.val (.long q1), .second, .val (.long q2), .second, .val (.long q3), .second, .val (.long q4), .second, .val (.ref b1), .val (.ref b6), .val (.ref (w 1)), .unset] [(.int 1)]))
        refine oS (fun t k => XS.goto X23.here hx rfl (pc0 := 52) (pc' := 56) rfl (hb hby at_52) (by decide) (by decide) k) ?_
        refine oS (fun t k => XS.istore X23.here hx rfl (hb hby at_56) rfl (l' := #[.val (.long q1), .second, .val (.long q2), .second, .val (.long q3), .second, .val (.long q4), .second, .val (.ref b1), .val (.ref b6), .val (.ref (w 1)), .val (.int 1)]) rfl k) ?_
        refine oS (fun t k => XS.aload X23.here hx rfl (hb hby at_58) rfl rfl k) ?_
        obtain ⟨cq24, kq24, q24a, q24b, q24c⟩ := isOf hZ e23 ((wE1 W).ext O10.2)
        obtain ⟨_, _, ⟨T24, L24, k24, n24⟩, -, X24, ⟨Lc24, hQ24, l24, y24, z24⟩, st24⟩ := X23.virtualBack hx (y := mY2) (z := mY2) hown (mvT hZ (oW hw 13 rfl)) (mvT hZ (oW hw 14 rfl)) (notFace_of_selects (args := #[]) (mvT hZ (oW hw 16 rfl))) (mvT hZ (oW hw 16 rfl)) (mvT hZ (oW hw 15 rfl)) (by decide) (backOf (W := 0) (rm_nw_DOMINATES l Z a0 hw []  w h10 n0 O10 W ) hZ (oW hw 17 rfl) (oW hw 3 rfl) (by decide) (by decide)) q24a q24c (g := (mkF m 60 #[.val (.long q1), .second, .val (.long q2), .second, .val (.long q3), .second, .val (.long q4), .second, .val (.ref b1), .val (.ref b6), .val (.ref (w 1)), .val (.int 1)] [(.ref (w 1))])) rfl (by rw [hml]; rfl) (Steps.refl _) (argsL := []) (rest := []) (lenOf pd_3 rfl) rfl (by show 2 * 0 + _ ≤ _; exact Nat.le_of_eq rfl) (hb hby at_60) (fun _ _ => ⟨rfl, e23, (by decide : 2 + 0 ≤ _), (by decide : 4 + 0 ≤ _)⟩)
        dsimp only [Pt.U, Pt.locs, Pt.cells, Pt.slots] at X24 l24 y24 z24 st24 hQ24
        subst l24 y24 z24
        obtain ⟨rfl, Nq24, e24⟩ := hQ24
        have N24 := Fr.app N23 Nq24
        refine oS (fun t k => st24.trans k) ?_
        show oG _ _ _ _ _ _ _ (T24.setTop (mkF m 63 #[.val (.long q1), .second, .val (.long q2), .second, .val (.long q3), .second, .val (.long q4), .second, .val (.ref b1), .val (.ref b6), .val (.ref (w 1)), .val (.int 1)] [(.int 1)]))
        try clear st24 X23 e23
        refine oS (fun t k => XS.iload X24.here hx rfl (hb hby at_63) rfl k) ?_
        refine oS (fun t k => XS.icmpNo X24.here hx rfl (hb hby at_65) rfl (teq (by decide)).2 k) ?_
        refine oS (fun t k => oIc li_1 X24.here hx rfl (hb hby at_68) k) ?_
        refine oS (fun t k => XS.goto X24.here hx rfl (pc0 := 69) (pc' := 73) rfl (hb hby at_69) (by decide) (by decide) k) ?_
        exact own_ret (v := some (.int 1)) X24 (fun h => by rw [Bd.returns] at h; cases h) Bd.notSynchronized (fun fs hr => retN X24 hx (t := .boolean) Bd.returns (by simp) (hb hby at_73) hr) (by rw [e24]; exact ⟨rfl, N24⟩) (by decide) (by decide)
      · by_cases g2 : q4 < q2
        · obtain ⟨_, _, ⟨T25, L25, k25, n25⟩, -, X25, ⟨Lc25, hQ25, l25, y25, z25⟩, st25⟩ := Jvm.LawKit.callS X10 hx (y := mY3) hown (mvT hZ (oW hw 1 rfl)) (mvT hZ (oW hw 2 rfl)) (mvT hZ (oW hw 3 rfl)) (mvT hZ (oW hw 4 rfl)) (by decide) (backOf (W := 0) (rm_of_21 l Z a0 hw [] b1 b6 k1 k6 q1 q2 q3 q4 w h10 n0 O10 W (((V5.ext E6).other W8 ne_b1_b6).other W10 ne_b1_b6) V10 l1 g1 l2 g2) hZ (oW hw 4 rfl) (oW hw 3 rfl) (by decide) (by decide)) (g := (mkF m 32 #[.val (.long q1), .second, .val (.long q2), .second, .val (.long q3), .second, .val (.long q4), .second, .val (.ref b1), .val (.ref b6), .unset, .unset] [(.ref b6), (.ref b1)])) rfl (by rw [hml]; rfl) (argsL := [(.ref b1), (.ref b6)]) (rest := []) (lenOf pd_2 rfl) rfl (by show 2 * 0 + _ ≤ _; exact Nat.le_of_eq rfl) (hb hby at_32) (fun _ _ => ⟨rfl, e10, (by decide : 2 + 0 ≤ _), (by decide : 4 + 0 ≤ _)⟩)
          dsimp only [Pt.U, Pt.locs, Pt.cells, Pt.slots] at X25 l25 y25 z25 st25 hQ25
          subst l25 y25 z25
          obtain ⟨rfl, Nq25, e25⟩ := hQ25
          have N25 := Fr.app N10 Nq25
          refine oS (fun t k => st25 t k) ?_
          show oG _ _ _ _ _ _ _ (T25.setTop (mkF m 35 #[.val (.long q1), .second, .val (.long q2), .second, .val (.long q3), .second, .val (.long q4), .second, .val (.ref b1), .val (.ref b6), .unset, .unset] [(.ref (w 3))]))
          try clear st25 X10 e10
          try clear T10
          refine oS (fun t k => XS.astore X25.here hx rfl (hb hby at_35) rfl rfl (l' := #[.val (.long q1), .second, .val (.long q2), .second, .val (.long q3), .second, .val (.long q4), .second, .val (.ref b1), .val (.ref b6), .val (.ref (w 3)), .unset]) rfl k) ?_
          refine oS (fun t k => XS.lloadN X25.here hx rfl (hb hby at_37) rfl k) ?_
          refine oS (fun t k => XS.lload X25.here hx rfl (hb hby at_38) rfl k) ?_
          refine oS (fun t k => XS.lcmp X25.here hx rfl (hb hby at_40) rfl k) ?_
          refine oS (fun t k => XS.ifNo X25.here hx rfl (hb hby at_41) rfl ((if0 _ _).trans (flt (fun q => g1 ((lw_gt q1 q3).mp q))).2.2.1) k) ?_
          refine oS (fun t k => XS.lloadN X25.here hx rfl (hb hby at_44) rfl k) ?_
          refine oS (fun t k => XS.lload X25.here hx rfl (hb hby at_45) rfl k) ?_
          refine oS (fun t k => XS.lcmp X25.here hx rfl (hb hby at_47) rfl k) ?_
          refine oS (fun t k => XS.ifYes X25.here hx rfl (pc0 := 48) (pc' := 55) rfl (hb hby at_48) rfl ((if0 _ _).trans (tlt ((lw_gt q2 q4).mpr g2)).2.2.1) (by decide) (by decide) k) ?_
          refine oS (fun t k => oIc li_0 X25.here hx rfl (hb hby at_55) k) ?_
          show oG _ _ _ _ _ _ _ (T25.setTop (mkF m 56 #[.val (.long q1), .second, .val (.long q2), .second, .val (.long q3), .second, .val (.long q4), .second, .val (.ref b1), .val (.ref b6), .val (.ref (w 3)), .unset] [(.int 0)]))
          refine oS (fun t k => XS.istore X25.here hx rfl (hb hby at_56) rfl (l' := #[.val (.long q1), .second, .val (.long q2), .second, .val (.long q3), .second, .val (.long q4), .second, .val (.ref b1), .val (.ref b6), .val (.ref (w 3)), .val (.int 0)]) rfl k) ?_
          refine oS (fun t k => XS.aload X25.here hx rfl (hb hby at_58) rfl rfl k) ?_
          obtain ⟨cq26, kq26, q26a, q26b, q26c⟩ := isOf hZ e25 ((wE3 W).ext O10.2)
          obtain ⟨_, _, ⟨T26, L26, k26, n26⟩, -, X26, ⟨Lc26, hQ26, l26, y26, z26⟩, st26⟩ := X25.virtualBack hx (y := mY2) (z := mY2) hown (mvT hZ (oW hw 13 rfl)) (mvT hZ (oW hw 14 rfl)) (notFace_of_selects (args := #[]) (mvT hZ (oW hw 16 rfl))) (mvT hZ (oW hw 16 rfl)) (mvT hZ (oW hw 15 rfl)) (by decide) (backOf (W := 0) (rm_nw_DOMINATED l Z a0 hw []  w h10 n0 O10 W ) hZ (oW hw 17 rfl) (oW hw 3 rfl) (by decide) (by decide)) q26a q26c (g := (mkF m 60 #[.val (.long q1), .second, .val (.long q2), .second, .val (.long q3), .second, .val (.long q4), .second, .val (.ref b1), .val (.ref b6), .val (.ref (w 3)), .val (.int 0)] [(.ref (w 3))])) rfl (by rw [hml]; rfl) (Steps.refl _) (argsL := []) (rest := []) (lenOf pd_3 rfl) rfl (by show 2 * 0 + _ ≤ _; exact Nat.le_of_eq rfl) (hb hby at_60) (fun _ _ => ⟨rfl, e25, (by decide : 2 + 0 ≤ _), (by decide : 4 + 0 ≤ _)⟩)
          dsimp only [Pt.U, Pt.locs, Pt.cells, Pt.slots] at X26 l26 y26 z26 st26 hQ26
          subst l26 y26 z26
          obtain ⟨rfl, Nq26, e26⟩ := hQ26
          have N26 := Fr.app N25 Nq26
          refine oS (fun t k => st26.trans k) ?_
          show oG _ _ _ _ _ _ _ (T26.setTop (mkF m 63 #[.val (.long q1), .second, .val (.long q2), .second, .val (.long q3), .second, .val (.long q4), .second, .val (.ref b1), .val (.ref b6), .val (.ref (w 3)), .val (.int 0)] [(.int 0)]))
          try clear st26 X25 e25
          refine oS (fun t k => XS.iload X26.here hx rfl (hb hby at_63) rfl k) ?_
          refine oS (fun t k => XS.icmpNo X26.here hx rfl (hb hby at_65) rfl (teq (by decide)).2 k) ?_
          refine oS (fun t k => oIc li_1 X26.here hx rfl (hb hby at_68) k) ?_
          refine oS (fun t k => XS.goto X26.here hx rfl (pc0 := 69) (pc' := 73) rfl (hb hby at_69) (by decide) (by decide) k) ?_
          exact own_ret (v := some (.int 1)) X26 (fun h => by rw [Bd.returns] at h; cases h) Bd.notSynchronized (fun fs hr => retN X26 hx (t := .boolean) Bd.returns (by simp) (hb hby at_73) hr) (by rw [e26]; exact ⟨rfl, N26⟩) (by decide) (by decide)
        · obtain ⟨_, _, ⟨T27, L27, k27, n27⟩, -, X27, ⟨Lc27, hQ27, l27, y27, z27⟩, st27⟩ := Jvm.LawKit.callS X10 hx (y := mY3) hown (mvT hZ (oW hw 1 rfl)) (mvT hZ (oW hw 2 rfl)) (mvT hZ (oW hw 3 rfl)) (mvT hZ (oW hw 4 rfl)) (by decide) (backOf (W := 0) (rm_of_22 l Z a0 hw [] b1 b6 k1 k6 q1 q2 q3 q4 w h10 n0 O10 W (((V5.ext E6).other W8 ne_b1_b6).other W10 ne_b1_b6) V10 l1 g1 l2 g2) hZ (oW hw 4 rfl) (oW hw 3 rfl) (by decide) (by decide)) (g := (mkF m 32 #[.val (.long q1), .second, .val (.long q2), .second, .val (.long q3), .second, .val (.long q4), .second, .val (.ref b1), .val (.ref b6), .unset, .unset] [(.ref b6), (.ref b1)])) rfl (by rw [hml]; rfl) (argsL := [(.ref b1), (.ref b6)]) (rest := []) (lenOf pd_2 rfl) rfl (by show 2 * 0 + _ ≤ _; exact Nat.le_of_eq rfl) (hb hby at_32) (fun _ _ => ⟨rfl, e10, (by decide : 2 + 0 ≤ _), (by decide : 4 + 0 ≤ _)⟩)
          dsimp only [Pt.U, Pt.locs, Pt.cells, Pt.slots] at X27 l27 y27 z27 st27 hQ27
          subst l27 y27 z27
          obtain ⟨rfl, Nq27, e27⟩ := hQ27
          have N27 := Fr.app N10 Nq27
          refine oS (fun t k => st27 t k) ?_
          show oG _ _ _ _ _ _ _ (T27.setTop (mkF m 35 #[.val (.long q1), .second, .val (.long q2), .second, .val (.long q3), .second, .val (.long q4), .second, .val (.ref b1), .val (.ref b6), .unset, .unset] [(.ref (w 2))]))
          try clear st27 X10 e10
          try clear T10
          refine oS (fun t k => XS.astore X27.here hx rfl (hb hby at_35) rfl rfl (l' := #[.val (.long q1), .second, .val (.long q2), .second, .val (.long q3), .second, .val (.long q4), .second, .val (.ref b1), .val (.ref b6), .val (.ref (w 2)), .unset]) rfl k) ?_
          refine oS (fun t k => XS.lloadN X27.here hx rfl (hb hby at_37) rfl k) ?_
          refine oS (fun t k => XS.lload X27.here hx rfl (hb hby at_38) rfl k) ?_
          refine oS (fun t k => XS.lcmp X27.here hx rfl (hb hby at_40) rfl k) ?_
          refine oS (fun t k => XS.ifNo X27.here hx rfl (hb hby at_41) rfl ((if0 _ _).trans (flt (fun q => g1 ((lw_gt q1 q3).mp q))).2.2.1) k) ?_
          refine oS (fun t k => XS.lloadN X27.here hx rfl (hb hby at_44) rfl k) ?_
          refine oS (fun t k => XS.lload X27.here hx rfl (hb hby at_45) rfl k) ?_
          refine oS (fun t k => XS.lcmp X27.here hx rfl (hb hby at_47) rfl k) ?_
          refine oS (fun t k => XS.ifNo X27.here hx rfl (hb hby at_48) rfl ((if0 _ _).trans (flt (fun q => g2 ((lw_gt q2 q4).mp q))).2.2.1) k) ?_
          refine oS (fun t k => oIc li_1 X27.here hx rfl (hb hby at_51) k) ?_
          show oG _ _ _ _ _ _ _ (T27.setTop (mkF m 52 #[.val (.long q1), .second, .val (.long q2), .second, .val (.long q3), .second, .val (.long q4), .second, .val (.ref b1), .val (.ref b6), .val (.ref (w 2)), .unset] [(.int 1)]))
          refine oS (fun t k => XS.goto X27.here hx rfl (pc0 := 52) (pc' := 56) rfl (hb hby at_52) (by decide) (by decide) k) ?_
          refine oS (fun t k => XS.istore X27.here hx rfl (hb hby at_56) rfl (l' := #[.val (.long q1), .second, .val (.long q2), .second, .val (.long q3), .second, .val (.long q4), .second, .val (.ref b1), .val (.ref b6), .val (.ref (w 2)), .val (.int 1)]) rfl k) ?_
          refine oS (fun t k => XS.aload X27.here hx rfl (hb hby at_58) rfl rfl k) ?_
          obtain ⟨cq28, kq28, q28a, q28b, q28c⟩ := isOf hZ e27 ((wE2 W).ext O10.2)
          obtain ⟨_, _, ⟨T28, L28, k28, n28⟩, -, X28, ⟨Lc28, hQ28, l28, y28, z28⟩, st28⟩ := X27.virtualBack hx (y := mY2) (z := mY2) hown (mvT hZ (oW hw 13 rfl)) (mvT hZ (oW hw 14 rfl)) (notFace_of_selects (args := #[]) (mvT hZ (oW hw 16 rfl))) (mvT hZ (oW hw 16 rfl)) (mvT hZ (oW hw 15 rfl)) (by decide) (backOf (W := 0) (rm_nw_EQUAL l Z a0 hw []  w h10 n0 O10 W ) hZ (oW hw 17 rfl) (oW hw 3 rfl) (by decide) (by decide)) q28a q28c (g := (mkF m 60 #[.val (.long q1), .second, .val (.long q2), .second, .val (.long q3), .second, .val (.long q4), .second, .val (.ref b1), .val (.ref b6), .val (.ref (w 2)), .val (.int 1)] [(.ref (w 2))])) rfl (by rw [hml]; rfl) (Steps.refl _) (argsL := []) (rest := []) (lenOf pd_3 rfl) rfl (by show 2 * 0 + _ ≤ _; exact Nat.le_of_eq rfl) (hb hby at_60) (fun _ _ => ⟨rfl, e27, (by decide : 2 + 0 ≤ _), (by decide : 4 + 0 ≤ _)⟩)
          dsimp only [Pt.U, Pt.locs, Pt.cells, Pt.slots] at X28 l28 y28 z28 st28 hQ28
          subst l28 y28 z28
          obtain ⟨rfl, Nq28, e28⟩ := hQ28
          have N28 := Fr.app N27 Nq28
          refine oS (fun t k => st28.trans k) ?_
          show oG _ _ _ _ _ _ _ (T28.setTop (mkF m 63 #[.val (.long q1), .second, .val (.long q2), .second, .val (.long q3), .second, .val (.long q4), .second, .val (.ref b1), .val (.ref b6), .val (.ref (w 2)), .val (.int 1)] [(.int 1)]))
          try clear st28 X27 e27
          refine oS (fun t k => XS.iload X28.here hx rfl (hb hby at_63) rfl k) ?_
          refine oS (fun t k => XS.icmpNo X28.here hx rfl (hb hby at_65) rfl (teq (by decide)).2 k) ?_
          refine oS (fun t k => oIc li_1 X28.here hx rfl (hb hby at_68) k) ?_
          refine oS (fun t k => XS.goto X28.here hx rfl (pc0 := 69) (pc' := 73) rfl (hb hby at_69) (by decide) (by decide) k) ?_
          exact own_ret (v := some (.int 1)) X28 (fun h => by rw [Bd.returns] at h; cases h) Bd.notSynchronized (fun fs hr => retN X28 hx (t := .boolean) Bd.returns (by simp) (hb hby at_73) hr) (by rw [e28]; exact ⟨rfl, N28⟩) (by decide) (by decide)
set_option maxRecDepth 65536 in
set_option maxHeartbeats 40000000 in
theorem comes_1 {Post : Tables → Env → Array Value → State → Outcome → State → Prop} (hpost : ∀ tb e args s v u, (limb_1_1.after args s (.returned v) u = true ∧ limb_1_2.after args s (.returned v) u = true ∧ True) → FrameEnd s (.returned v) u (Jvm.fieldLocs frame_1_writes args s ++ Jvm.arrayLocs frame_1_arrays args s ++ Jvm.staticLocs frame_1_statics s) 16 128 → Post tb e args s (.returned v) u) :
    ArmFor flags0 classFile x code maxLocals ret World_1 tables_1 room_1 Calls_1 rest_1 Pre_1 Post := by
  intro l hfl _ _ p e ha hc hk s m args below hf hA hF happ hP
  obtain ⟨hcalls, hrest, hpre⟩ := hP
  obtain ⟨-, -, -, hnamed, -, -, -, hat⟩ := (Spec.applies_iff hf).mp happ
  obtain ⟨hg, hn⟩ := and_e (Cond.before_iff.mp (show (Jvm.Cond.and given_1 narrow_1).before args s = true from hpre))
  obtain ⟨g0, g1⟩ := and_e hg
  obtain ⟨g2, g3⟩ := and_e g1
  obtain ⟨g4, g5⟩ := and_e g3
  obtain ⟨g6, g7⟩ := and_e g5
  obtain ⟨w0, w1, w2, w3, rfl⟩ : ∃ w0 w1 w2 w3 : Value, args = #[w0, w1, w2, w3] := by
    have hs : args.size = 4 := by simpa [Cond.value, given_1] using g0
    obtain ⟨L⟩ := args
    match L, hs with
    | [w0, w1, w2, w3], _ => exact ⟨w0, w1, w2, w3, rfl⟩
  have hw := fun d (hd : d ∈ tables_1) => atoms_spec (ws := Jvm.Cond.code x code maxLocals ret :: tables_1) hat d (List.mem_cons_of_mem _ hd)
  have hfit : Fit s := fun {y c} hc i hi => by
    obtain ⟨ha, rfl⟩ := Array.getElem?_eq_some_iff.mp hc
    have q := List.all_eq_true.mp ((Array.all_eq_true_iff_forall_mem.mp hF) _ (Array.getElem_mem ha)) i (List.mem_range.mpr hi)
    simpa [Array.getElem?_eq_getElem hi] using q
  obtain ⟨i0, ei0⟩ := isL_v g2
  obtain rfl : w0 = (.long i0) := Option.some.inj ei0
  obtain ⟨i1, ei1⟩ := isL_v g4
  obtain rfl : w1 = (.long i1) := Option.some.inj ei1
  obtain ⟨i2, ei2⟩ := isL_v g6
  obtain rfl : w2 = (.long i2) := Option.some.inj ei2
  obtain ⟨i3, ei3⟩ := isL_v g7
  obtain rfl : w3 = (.long i3) := Option.some.inj ei3
  obtain ⟨w, W⟩ := own_world hw hfit hn
  obtain ⟨n, o, h1, h2, h3, _, L, rfl, ⟨rfl, N⟩, hq⟩ := rm_law l s _ hw tables_1 i0 i1 i2 i3 w s.heap s.heap.size (Old.start s) W  p e ha hc hk s m _ below hf ((Spec.applies_iff_loose hf).mp happ).1 ⟨rfl, State.Warmed39.refl s, rfl⟩ trivial
  refine ⟨n, _, h1, h2, h3, hpost _ _ _ _ _ _ ⟨Cond.after_iff.mpr rfl, Cond.after_iff.mpr (eq_i res_at (Term.int_eval (1)) rfl), trivial⟩ ⟨hq.1, hq.2.1, (hq.2.2.sift fun y hy => Or.inr (N y hy)).mono (by decide) (by decide)⟩⟩
theorem main_1_1 : Claimed_1_1 := comes_1 fun _ _ _ _ _ _ h hF => ⟨h.1, hF⟩
theorem main_1_2 : Claimed_1_2 := comes_1 fun _ _ _ _ _ _ h hF => ⟨h.2.1, hF⟩
end Jvm.Pilot.@@N@@
namespace Jvm.Pilot.@@N@@
open Jvm Jvm.ClassFile Sem Op Lib Jvm.Free Jvm.Stand Jvm.Pilot.@@N@@.Jvm.D
/-! MADE BY PROGRAM (witnessworld.py) out of the Statement's table words and the real class files: 14 classes; the members and pool entries that the words name. The judged class is class 1, her method 1. -/
namespace start1
open Jvm.ClassFile
def u (s : String) : CpInfo := .utf8 (stringToUtf16 s)
/-- a pool by its gaps: so many unusable entries, then the entry; so many at the end -/
def gap : Nat → List CpInfo → List CpInfo
  | 0, r => r
  | n + 1, r => .unusable :: gap n r
def poolList (es : List (Nat × CpInfo)) (last : Nat) : List CpInfo := es.foldr (fun e r => gap e.1 (e.2 :: r)) (gap last [])
def pool (es : List (Nat × CpInfo)) (last : Nat) : Array CpInfo := ⟨poolList es last⟩
def fileOf (pool : Array CpInfo) (this : Nat) (attrs : Array Attribute := #[]) (ms : Array MethodInfo := #[]) (fl : Nat := 33) (sup : Nat := 0) (ifs : Array Nat := #[]) (fds : Array FieldInfo := #[]) : ClassFile where
  minorVersion := 0
  majorVersion := 65
  constantPool := pool
  accessFlags := fl
  thisClass := this
  superClass := sup
  interfaces := ifs
  fields := fds
  methods := ms
  attributes := attrs
def plain (name : String) (sup : Option ClassId) : Class where
  name := name
  kind := .ordinary
  loader := none
  accessFlags := 33
  super := sup
  interfaces := #[]
  cf := none
  fields := #[]
  methods := #[]
  instanceTypes := #[]
  staticTypes := #[]
  resolved := #[]
  callSites := []
  init := .initialized
  statics := none
  mirror := none

def pool0 : Array CpInfo := pool [(5, u "<init>"), (0, u "()V"), (1, .class_ 10), (1, u "java/lang/Object")] 113

def k0m0 : Method := { name := "<init>", desc := "()V", sig := { parameters := [], returnType := none }, accessFlags := 1, code := none }
/-- java/lang/Object -/
def k0 : Class := { plain "java/lang/Object" none with
  accessFlags := 33
  interfaces := #[]
  cf := some (fileOf pool0 8 #[] #[{ accessFlags := 1, nameIndex := 5, descriptorIndex := 6, attributes := #[] }] 33 0 #[] #[])
  fields := #[]
  methods := #[k0m0]
  instanceTypes := #[]
  staticTypes := #[]
  resolved := Array.replicate 124 none
  statics := none }

def pool1 : Array CpInfo := pool [(2, .class_ 4), (1, u "java/lang/Object"), (0, u "<init>"), (0, u "()V"), (0, .methodref 8 9), (0, .class_ 10), (0, .nameAndType 11 12), (0, u "com/example/shiftweave/shiftweave/engine/Dominance"), (0, u "of"), (0, u "([J[J)Lcom/example/shiftweave/shiftweave/engine/Dominance;"), (0, .methodref 8 14), (0, .nameAndType 15 16), (0, u "isNoWorse"), (0, u "()Z"), (0, .class_ 18), (0, u "com/example/shiftweave/shiftweave/engine/DominanceIsNoWorsePinLaw"), (2, u "law"), (0, u "(JJJJ)Z")] 5

def k1m0 : Method := { name := "<init>", desc := "()V", sig := { parameters := [], returnType := none }, accessFlags := 2, code := none }
def k1c1 : Code := { maxStack := 5, maxLocals := 12, code := code, exceptionTable := #[], attributes := #[] }
def k1m1 : Method := { name := "law", desc := "(JJJJ)Z", sig := { parameters := [.long, .long, .long, .long], returnType := some .boolean }, accessFlags := 9, code := some k1c1 }
/-- com/example/shiftweave/shiftweave/engine/DominanceIsNoWorsePinLaw -/
def k1 : Class := { plain "com/example/shiftweave/shiftweave/engine/DominanceIsNoWorsePinLaw" (some 0) with
  accessFlags := 49
  interfaces := #[]
  cf := some (fileOf pool1 17 #[] #[{ accessFlags := 2, nameIndex := 5, descriptorIndex := 6, attributes := #[] }, { accessFlags := 9, nameIndex := 21, descriptorIndex := 22, attributes := #[] }] 49 2 #[] #[])
  fields := #[]
  methods := #[k1m0, k1m1]
  instanceTypes := #[]
  staticTypes := #[]
  resolved := Array.replicate 28 none
  statics := none }

def pool2 : Array CpInfo := pool [(1, .class_ 2), (0, u "java/lang/constant/Constable"), (0, .class_ 4), (0, u "java/lang/Object")] 6

/-- java/lang/constant/Constable -/
def k2 : Class := { plain "java/lang/constant/Constable" (some 0) with
  accessFlags := 1537
  interfaces := #[]
  cf := some (fileOf pool2 1 #[] #[] 1537 3 #[] #[])
  fields := #[]
  methods := #[]
  instanceTypes := #[]
  staticTypes := #[]
  resolved := Array.replicate 11 none
  statics := none }

def pool3 : Array CpInfo := pool [(1, .class_ 2), (0, u "java/lang/Comparable"), (0, .class_ 4), (0, u "java/lang/Object")] 7

/-- java/lang/Comparable -/
def k3 : Class := { plain "java/lang/Comparable" (some 0) with
  accessFlags := 1537
  interfaces := #[]
  cf := some (fileOf pool3 1 #[] #[] 1537 3 #[] #[])
  fields := #[]
  methods := #[]
  instanceTypes := #[]
  staticTypes := #[]
  resolved := Array.replicate 12 none
  statics := none }

def pool4 : Array CpInfo := pool [(1, .class_ 2), (0, u "java/io/Serializable"), (0, .class_ 4), (0, u "java/lang/Object")] 2

/-- java/io/Serializable -/
def k4 : Class := { plain "java/io/Serializable" (some 0) with
  accessFlags := 1537
  interfaces := #[]
  cf := some (fileOf pool4 1 #[] #[] 1537 3 #[] #[])
  fields := #[]
  methods := #[]
  instanceTypes := #[]
  staticTypes := #[]
  resolved := Array.replicate 7 none
  statics := none }

def pool5 : Array CpInfo := pool [(2, .class_ 4), (1, u "java/lang/Enum"), (0, u "name"), (0, u "Ljava/lang/String;"), (2, u "ordinal"), (0, u "I"), (1, .class_ 14), (1, u "java/lang/Object"), (4, u "hash"), (86, .class_ 108), (1, u "java/lang/Enum$EnumDesc"), (2, .class_ 112), (0, u "java/lang/constant/Constable"), (0, .class_ 114), (0, u "java/lang/Comparable"), (0, .class_ 116), (0, u "java/io/Serializable")] 87

/-- java/lang/Enum -/
def k5 : Class := { plain "java/lang/Enum" (some 0) with
  accessFlags := 1057
  interfaces := #[2, 3, 4]
  cf := some (fileOf pool5 2 #[.nestMembers #[106]] #[] 1057 12 #[111, 113, 115] #[{ accessFlags := 18, nameIndex := 5, descriptorIndex := 6, attributes := #[] }, { accessFlags := 18, nameIndex := 9, descriptorIndex := 10, attributes := #[] }, { accessFlags := 2, nameIndex := 19, descriptorIndex := 10, attributes := #[] }])
  fields := #[{ name := "name", type := (.object "java/lang/String"), accessFlags := 18, slot := 0, constantValue := 0 }, { name := "ordinal", type := .int, accessFlags := 18, slot := 1, constantValue := 0 }, { name := "hash", type := .int, accessFlags := 2, slot := 2, constantValue := 0 }]
  methods := #[]
  instanceTypes := #[(.object "java/lang/String"), .int, .int]
  staticTypes := #[]
  resolved := Array.replicate 204 none
  statics := none }

def pool6 : Array CpInfo := pool [(1, .class_ 2), (0, u "com/example/shiftweave/shiftweave/engine/Dominance"), (0, .fieldref 1 4), (0, .nameAndType 5 6), (0, u "DOMINATES"), (0, u "Lcom/example/shiftweave/shiftweave/engine/Dominance;"), (0, .fieldref 1 8), (0, .nameAndType 9 6), (0, u "DOMINATED"), (0, .fieldref 1 11), (0, .nameAndType 12 6), (0, u "EQUAL"), (0, .fieldref 1 14), (0, .nameAndType 15 6), (0, u "INCOMPARABLE"), (2, u "$VALUES"), (0, u "[Lcom/example/shiftweave/shiftweave/engine/Dominance;"), (6, .class_ 28), (1, u "java/lang/Enum"), (6, .methodref 1 36), (0, .nameAndType 37 38), (0, u "checkSameCount"), (0, u "(II)V"), (0, .methodref 1 40), (0, .nameAndType 41 42), (0, u "of"), (0, u "(ZZ)Lcom/example/shiftweave/shiftweave/engine/Dominance;"), (34, u "([J[J)Lcom/example/shiftweave/shiftweave/engine/Dominance;"), (6, u "isNoWorse"), (0, u "()Z")] 21

def k6c0 : Code := { maxStack := 5, maxLocals := 5, code := prog_24_method_4_code, exceptionTable := #[], attributes := #[] }
def k6m0 : Method := { name := "of", desc := "([J[J)Lcom/example/shiftweave/shiftweave/engine/Dominance;", sig := { parameters := [(.array .long), (.array .long)], returnType := some (.object "com/example/shiftweave/shiftweave/engine/Dominance") }, accessFlags := 9, code := some k6c0 }
def k6c1 : Code := { maxStack := 2, maxLocals := 1, code := prog_24_method_6_code, exceptionTable := #[], attributes := #[] }
def k6m1 : Method := { name := "isNoWorse", desc := "()Z", sig := { parameters := [], returnType := some .boolean }, accessFlags := 1, code := some k6c1 }
def k6c2 : Code := { maxStack := 4, maxLocals := 2, code := prog_24_method_7_code, exceptionTable := #[], attributes := #[] }
def k6m2 : Method := { name := "checkSameCount", desc := "(II)V", sig := { parameters := [.int, .int], returnType := none }, accessFlags := 10, code := some k6c2 }
def k6c3 : Code := { maxStack := 1, maxLocals := 3, code := prog_24_method_8_code, exceptionTable := #[], attributes := #[] }
def k6m3 : Method := { name := "of", desc := "(ZZ)Lcom/example/shiftweave/shiftweave/engine/Dominance;", sig := { parameters := [.boolean, .boolean], returnType := some (.object "com/example/shiftweave/shiftweave/engine/Dominance") }, accessFlags := 10, code := some k6c3 }
/-- com/example/shiftweave/shiftweave/engine/Dominance -/
def k6 : Class := { plain "com/example/shiftweave/shiftweave/engine/Dominance" (some 5) with
  accessFlags := 16433
  interfaces := #[]
  cf := some (fileOf pool6 1 #[] #[{ accessFlags := 9, nameIndex := 41, descriptorIndex := 77, attributes := #[] }, { accessFlags := 1, nameIndex := 84, descriptorIndex := 85, attributes := #[] }, { accessFlags := 10, nameIndex := 37, descriptorIndex := 38, attributes := #[] }, { accessFlags := 10, nameIndex := 41, descriptorIndex := 42, attributes := #[] }] 16433 26 #[] #[{ accessFlags := 16409, nameIndex := 5, descriptorIndex := 6, attributes := #[] }, { accessFlags := 16409, nameIndex := 9, descriptorIndex := 6, attributes := #[] }, { accessFlags := 16409, nameIndex := 12, descriptorIndex := 6, attributes := #[] }, { accessFlags := 16409, nameIndex := 15, descriptorIndex := 6, attributes := #[] }, { accessFlags := 4122, nameIndex := 18, descriptorIndex := 19, attributes := #[] }])
  fields := #[{ name := "DOMINATES", type := (.object "com/example/shiftweave/shiftweave/engine/Dominance"), accessFlags := 16409, slot := 0, constantValue := 0 }, { name := "DOMINATED", type := (.object "com/example/shiftweave/shiftweave/engine/Dominance"), accessFlags := 16409, slot := 1, constantValue := 0 }, { name := "EQUAL", type := (.object "com/example/shiftweave/shiftweave/engine/Dominance"), accessFlags := 16409, slot := 2, constantValue := 0 }, { name := "INCOMPARABLE", type := (.object "com/example/shiftweave/shiftweave/engine/Dominance"), accessFlags := 16409, slot := 3, constantValue := 0 }, { name := "$VALUES", type := (.array (.object "com/example/shiftweave/shiftweave/engine/Dominance")), accessFlags := 4122, slot := 4, constantValue := 0 }]
  methods := #[k6m0, k6m1, k6m2, k6m3]
  instanceTypes := #[(.object "java/lang/String"), .int, .int]
  staticTypes := #[(.object "com/example/shiftweave/shiftweave/engine/Dominance"), (.object "com/example/shiftweave/shiftweave/engine/Dominance"), (.object "com/example/shiftweave/shiftweave/engine/Dominance"), (.object "com/example/shiftweave/shiftweave/engine/Dominance"), (.array (.object "com/example/shiftweave/shiftweave/engine/Dominance"))]
  resolved := Array.replicate 107 none
  statics := some 0 }

def pool7 : Array CpInfo := pool [(1, u "java/lang/Cloneable"), (0, .class_ 1), (0, u "java/lang/Object"), (0, .class_ 3)] 3

/-- java/lang/Cloneable -/
def k7 : Class := { plain "java/lang/Cloneable" (some 0) with
  accessFlags := 1537
  interfaces := #[]
  cf := some (fileOf pool7 2 #[] #[] 1537 4 #[] #[])
  fields := #[]
  methods := #[]
  instanceTypes := #[]
  staticTypes := #[]
  resolved := Array.replicate 8 none
  statics := none }

/-- the primitive byte -/
def k8 : Class := { plain "byte" none with kind := .primitive 'B', accessFlags := 0x411 }
/-- [B -/
def k9 : Class := { plain "[B" (some 0) with kind := .array 8 .byte, interfaces := #[7, 4], accessFlags := 1041 }

/-- the primitive int -/
def k10 : Class := { plain "int" none with kind := .primitive 'I', accessFlags := 0x411 }
/-- [I -/
def k11 : Class := { plain "[I" (some 0) with kind := .array 10 .int, interfaces := #[7, 4], accessFlags := 1041 }

/-- the primitive long -/
def k12 : Class := { plain "long" none with kind := .primitive 'J', accessFlags := 0x411 }
/-- [J -/
def k13 : Class := { plain "[J" (some 0) with kind := .array 12 .long, interfaces := #[7, 4], accessFlags := 1041 }

def heap : Heap := #[{ cls := 6, slots := #[.ref 2, .ref 4, .ref 3, .ref 1, .null], vm := .statics 6 },
  { cls := 6, slots := #[.null, .int 3, .int 0], vm := .none },
  { cls := 6, slots := #[.null, .int 0, .int 0], vm := .none },
  { cls := 6, slots := #[.null, .int 2, .int 0], vm := .none },
  { cls := 6, slots := #[.null, .int 1, .int 0], vm := .none }]
def classes : Array Class := #[k0, k1, k2, k3, k4, k5, k6, k7, k8, k9, k10, k11, k12, k13]
def interned : List (Array UInt16 × Addr) := []
def slotsUsed : Nat := 17
def theMethod : MethodId := ⟨1, 1⟩
def args0 : Array Value := #[.long 5, .long 7, .long 2, .long 9]
def aboutOver (below : List Frame) : State where
  vm := { classes := classes, interned := interned.toArray }
  heap := heap
  slotsUsed := slotsUsed
  threads := #[{ frames := .invoking theMethod args0 :: below }]
def below0 : List Frame := [.native { method := ⟨0, 0⟩, args := #[] }]
def about1 : State := aboutOver below0
def p0 : Program := .bare "" "" ""
def e0 : Env := launch0.env 0 0 0
theorem w_frames : about1.frames = Frame.invoking theMethod args0 :: below0 := rfl
set_option maxRecDepth 65536 in
theorem w_args : argsFit about1.vm theMethod args0 = true := by decide +kernel
set_option maxRecDepth 65536 in
theorem w_heap : heapFits about1 = true := by decide +kernel
set_option maxRecDepth 65536 in
theorem w_runnable : about1.curStatus? = some .runnable := by decide +kernel
set_option maxRecDepth 65536 in
theorem w_alone : about1.alone = true := by decide +kernel
set_option maxRecDepth 65536 in
theorem w_named : about1.methodNamed? x = some theMethod := by decide +kernel
set_option maxRecDepth 65536 in
theorem w_hears : about1.hears theMethod below0 = true := by decide +kernel
set_option maxRecDepth 65536 in
theorem w_ripe : about1.ripe theMethod args0 below0 = true := by decide +kernel
theorem w_running : about1.status = .running := rfl
set_option maxRecDepth 65536 in
theorem w_room : about1.hasRoom e0.platform room_1 = true :=
  launch0.hasRoom_least _ room_1 (by decide +kernel) (by decide +kernel) (by decide +kernel) (by decide +kernel) (by decide +kernel) (by decide +kernel)
theorem allAtoms_all (ts : List Jvm.Cond) (a : Array Jvm.Value) (st : Jvm.State) : (allAtoms ts).before a st = ts.all (fun c => c.before a st) := by
  induction ts with
  | nil => rfl
  | cons c t ih =>
    show (Jvm.Cond.and c (allAtoms t)).before a st = _
    rw [Jvm.Cond.before_and, ih, List.all_cons]
def words1 : List Jvm.Cond := Jvm.Cond.code x code maxLocals ret :: tables_1
/-- a 'code' word, met by the world's own term for the bytes: nothing is compared byte by byte -/
theorem code_word {y : MethodName} {bytes : ByteArray} {mx : Nat} {rt : Option FieldType} {a : Array Value} {s : State} {m : MethodId} {meth : Method} {c : Code} (h1 : s.methodNamed? y = some m) (h2 : s.vm.method? m = some meth) (h3 : meth.code = some c) (h4 : c.code = bytes)
    (h5 : (c.maxLocals == mx && c.exceptionTable.isEmpty && decide (c.maxStack ≤ mostOperands) && decide (meth.sig.returnType = rt) && !meth.locks && decide (parseMethodDescriptor y.desc = some meth.sig)) = true) : (Jvm.Cond.code y bytes mx rt).before a s = true := by
  simp only [Bool.and_eq_true, beq_iff_eq, Bool.not_eq_true', decide_eq_true_eq] at h5
  obtain ⟨⟨⟨⟨⟨g1, g2⟩, g3⟩, g4⟩, g5⟩, g6⟩ := h5
  simp [Cond.before, Cond.holds, Cond.value, h1, h2, h3, h4, g1, g2, g3, g4, g5, g6]
def isCode : Jvm.Cond → Bool
  | .code _ _ _ _ => true
  | _ => false
theorem all_split {L : List Jvm.Cond} {P : Jvm.Cond → Bool} (h1 : L.all (fun c => isCode c || P c) = true) (h2 : ∀ c ∈ L.filter isCode, P c = true) : L.all P = true := by
  refine List.all_eq_true.mpr fun c hc => ?_
  have h := List.all_eq_true.mp h1 c hc
  rcases Bool.eq_false_or_eq_true (isCode c) with hi | hi
  · exact h2 c (List.mem_filter.mpr ⟨hc, hi⟩)
  · simpa [hi] using h
set_option maxRecDepth 65536 in
theorem w_c0 : (Jvm.Cond.code x code maxLocals ret).before args0 about1 = true := code_word (m := ⟨1, 1⟩) (meth := k1m1) (c := k1c1) (by decide +kernel) rfl rfl rfl (by decide +kernel)
set_option maxRecDepth 65536 in
theorem w_c1 : (Jvm.Cond.code ({ cls := "com/example/shiftweave/shiftweave/engine/Dominance", name := "of", desc := "([J[J)Lcom/example/shiftweave/shiftweave/engine/Dominance;" } : Jvm.MethodName) prog_24_method_4_code (5 : Nat) (Option.some (Jvm.ClassFile.FieldType.object "com/example/shiftweave/shiftweave/engine/Dominance"))).before args0 about1 = true := code_word (m := ⟨6, 0⟩) (meth := k6m0) (c := k6c0) (by decide +kernel) rfl rfl rfl (by decide +kernel)
set_option maxRecDepth 65536 in
theorem w_c2 : (Jvm.Cond.code ({ cls := "com/example/shiftweave/shiftweave/engine/Dominance", name := "checkSameCount", desc := "(II)V" } : Jvm.MethodName) prog_24_method_7_code (2 : Nat) (Option.none : Option Jvm.ClassFile.FieldType)).before args0 about1 = true := code_word (m := ⟨6, 2⟩) (meth := k6m2) (c := k6c2) (by decide +kernel) rfl rfl rfl (by decide +kernel)
set_option maxRecDepth 65536 in
theorem w_c3 : (Jvm.Cond.code ({ cls := "com/example/shiftweave/shiftweave/engine/Dominance", name := "of", desc := "(ZZ)Lcom/example/shiftweave/shiftweave/engine/Dominance;" } : Jvm.MethodName) prog_24_method_8_code (3 : Nat) (Option.some (Jvm.ClassFile.FieldType.object "com/example/shiftweave/shiftweave/engine/Dominance"))).before args0 about1 = true := code_word (m := ⟨6, 3⟩) (meth := k6m3) (c := k6c3) (by decide +kernel) rfl rfl rfl (by decide +kernel)
set_option maxRecDepth 65536 in
theorem w_c4 : (Jvm.Cond.code ({ cls := "com/example/shiftweave/shiftweave/engine/Dominance", name := "isNoWorse", desc := "()Z" } : Jvm.MethodName) prog_24_method_6_code (1 : Nat) (Option.some Jvm.ClassFile.FieldType.boolean)).before args0 about1 = true := code_word (m := ⟨6, 1⟩) (meth := k6m1) (c := k6c1) (by decide +kernel) rfl rfl rfl (by decide +kernel)
def codes1 : List Jvm.Cond := [Jvm.Cond.code x code maxLocals ret, Jvm.Cond.code ({ cls := "com/example/shiftweave/shiftweave/engine/Dominance", name := "of", desc := "([J[J)Lcom/example/shiftweave/shiftweave/engine/Dominance;" } : Jvm.MethodName) prog_24_method_4_code (5 : Nat) (Option.some (Jvm.ClassFile.FieldType.object "com/example/shiftweave/shiftweave/engine/Dominance")), Jvm.Cond.code ({ cls := "com/example/shiftweave/shiftweave/engine/Dominance", name := "checkSameCount", desc := "(II)V" } : Jvm.MethodName) prog_24_method_7_code (2 : Nat) (Option.none : Option Jvm.ClassFile.FieldType), Jvm.Cond.code ({ cls := "com/example/shiftweave/shiftweave/engine/Dominance", name := "of", desc := "(ZZ)Lcom/example/shiftweave/shiftweave/engine/Dominance;" } : Jvm.MethodName) prog_24_method_8_code (3 : Nat) (Option.some (Jvm.ClassFile.FieldType.object "com/example/shiftweave/shiftweave/engine/Dominance")), Jvm.Cond.code ({ cls := "com/example/shiftweave/shiftweave/engine/Dominance", name := "isNoWorse", desc := "()Z" } : Jvm.MethodName) prog_24_method_6_code (1 : Nat) (Option.some Jvm.ClassFile.FieldType.boolean)]
set_option maxRecDepth 65536 in
theorem codes_eq : words1.filter isCode = codes1 := rfl
theorem w_codes : ∀ c ∈ words1.filter isCode, c.before args0 about1 = true := by
  rw [codes_eq]
  intro c hc
  simp only [codes1, List.mem_cons, List.not_mem_nil, or_false] at hc
  rcases hc with rfl | rfl | rfl | rfl | rfl
  · exact w_c0
  · exact w_c1
  · exact w_c2
  · exact w_c3
  · exact w_c4
set_option maxRecDepth 65536 in
theorem w_t1 : (words1.take 24).all (fun c => isCode c || c.before args0 about1) = true := by decide +kernel
set_option maxRecDepth 65536 in
theorem w_t2 : (words1.drop 24).all (fun c => isCode c || c.before args0 about1) = true := by decide +kernel
theorem w_tables : (allAtoms (Jvm.Cond.code x code maxLocals ret :: tables_1)).before args0 about1 = true := by
  rw [allAtoms_all]
  show words1.all (fun c => c.before args0 about1) = true
  refine all_split ?_ w_codes
  rw [← List.take_append_drop 24 words1, List.all_append, w_t1, w_t2]
  rfl
set_option maxRecDepth 65536 in
theorem w_case : (Jvm.Cond.and given_1 narrow_1).before args0 about1 = true := by decide +kernel
theorem w_applies : (headSpec (Jvm.Cond.code x code maxLocals ret :: tables_1) room_1).applies x e0.platform about1 = true :=
  (Spec.applies_iff w_frames).mpr ⟨w_running, w_runnable, w_alone, w_named, w_hears, w_ripe, w_room, w_tables⟩
theorem atStart : AtStart classFile x code maxLocals ret World_1 tables_1 room_1 Calls_1 rest_1 Pre_1 launch0 p0 e0 about1 theMethod args0 below0 :=
  ⟨lists_1, trivial, launch0.admits_env _ _ _, launch0.least_env, fairChoices_fair.cas, fairChoices_fair.clock, w_frames, w_args, w_heap, w_applies, trivial, trivial, w_case⟩
end start1
theorem witness_1 : WitnessClaimed_1 := ⟨start1.p0, start1.e0, start1.about1, start1.theMethod, start1.args0, start1.below0, start1.atStart⟩
end Jvm.Pilot.@@N@@
