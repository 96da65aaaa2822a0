import JvmDerived
import JvmDerived.Pilot.@@N@@Statement
import JvmDerived.Pilot.@@N@@Code
set_option linter.unusedVariables false
set_option linter.unusedSimpArgs false
namespace Jvm.Pilot.@@N@@
open Jvm Jvm.ClassFile Sem Op Lib Jvm.Free Jvm.Stand Jvm.LawKit Jvm.RoadKit Bundle Jvm.Pilot.@@N@@.Jvm.D
/-! what is left of a run: it comes to its end, and there Q holds -/
def oG (p : Program) (e : Env) (below : List Frame) (s : State) (Q : Option Value → Heap → List Loc → Prop) (rc rs : Nat) (S : State) : Prop :=
  ∃ s₂ o, Steps p.tables e below S s₂ ∧ s₂.status = .running ∧ Ended s₂ below o ∧ ∃ v L, o = .returned v ∧ Q v s₂.heap L ∧ FrameEnd s o s₂ L rc rs
theorem oS {p : Program} {e : Env} {below : List Frame} {s : State} {Q : Option Value → Heap → List Loc → Prop} {rc rs : Nat} {S S' : State} (k : ∀ t, Steps p.tables e below S' t → Steps p.tables e below S t) (g : oG p e below s Q rc rs S') : oG p e below s Q rc rs S := by
  obtain ⟨s₂, o, h1, h2⟩ := g
  exact ⟨s₂, o, k _ h1, h2⟩
theorem own_ret {p : Program} {l : Launch} {e : Env} {R : Room} {s : State} {m : MethodId} {args : Array Value} {below : List Frame} {meth : Method} {c : Code} {T : State} {locs : List Loc} {cells slots : Nat} {Q : Option Value → Heap → List Loc → Prop} {rc rs : Nat} {S : State} {v : Option Value} (X : Stand p l e R s m args below meth c T locs cells slots) (hv : meth.sig.returnType = none → v = none) (hlocks : meth.locks = false)
    (st : ∀ fs, (∀ (f : JFrame) (acts : List Action), f.method = m → f.locked = none → f.entered = [] → (doReturn e (T.setTop f) acts v).1 = T.setFrames fs) → Steps p.tables e below S (T.setFrames fs)) (q : Q v T.heap locs) (hc : cells ≤ rc) (hs : slots ≤ rs) : oG p e below s Q rc rs S := by
  obtain ⟨fs, hr, hrun, hended, hW, hsame⟩ := X.leave hv hlocks
  exact ⟨_, _, st fs hr, hrun, hended, _, _, rfl, q, ⟨_, rfl⟩, hW, hsame.mono hc hs⟩
theorem oIc {tb : Tables} [Ours tb] {e : Env} {below : List Frame} {T target : State} {m : MethodId} {c : Code} {g : JFrame} {i : Int} {z : Int32} (hz : Int32.ofInt i = z) (h : At T m c below) (hx : tb.exec = Jvm.exec) (hg : g.method = m) (hd : decode c.code g.pc = .ok (.iconst i, 1)) (hr : Steps tb e below (T.setTop { g with pc := g.pc + 1, stack := .int z :: g.stack }) target) : Steps tb e below (T.setTop g) target := XS.iconst h hx hg hd (by rw [hz]; exact hr)
theorem oBp {tb : Tables} [Ours tb] {e : Env} {below : List Frame} {T target : State} {m : MethodId} {c : Code} {g : JFrame} {i : Int} {z : Int32} (hz : (Int8.ofInt i).toInt32 = z) (h : At T m c below) (hx : tb.exec = Jvm.exec) (hg : g.method = m) (hd : decode c.code g.pc = .ok (.bipush i, 2)) (hr : Steps tb e below (T.setTop { g with pc := g.pc + 2, stack := .int z :: g.stack }) target) : Steps tb e below (T.setTop g) target := XS.bipush h hx hg hd (by rw [hz]; exact hr)
theorem oSp {tb : Tables} [Ours tb] {e : Env} {below : List Frame} {T target : State} {m : MethodId} {c : Code} {g : JFrame} {i : Int} {z : Int32} (hz : (Int16.ofInt i).toInt32 = z) (h : At T m c below) (hx : tb.exec = Jvm.exec) (hg : g.method = m) (hd : decode c.code g.pc = .ok (.sipush i, 3)) (hr : Steps tb e below (T.setTop { g with pc := g.pc + 3, stack := .int z :: g.stack }) target) : Steps tb e below (T.setTop g) target := XS.sipush h hx hg hd (by rw [hz]; exact hr)
theorem oW {a0 : Array Value} {Z : State} (hw : ∀ d ∈ tables_1, d.before a0 Z = true) (i : Nat) {d : Jvm.Cond} (h : tables_1[i]? = some d) : d.before a0 Z = true := hw _ (List.mem_of_getElem? h)
theorem own_eqv {args : Array Value} {s : State} {a b : Term} {v : Value} (h : (Jvm.Cond.eq a b).value args s none s [] = some true) (hb : b.eval args s none [] s = some v) : a.eval args s none [] s = some v := by
  obtain ⟨x, y, ha, hb', -, -⟩ := cmp_v (Or.inl h)
  cases hb.symm.trans hb'
  rw [ha]
  cases x <;> cases v <;> simp [Cond.value, ha, hb] at h ⊢ <;> exact h
theorem own_len {args : Array Value} {s : State} {t : Term} {a : Addr} {cl : Cell} {ty : FieldType} {z : Int32} (h : (Term.length t).eval args s none [] s = some (.int z)) (ht : t.eval args s none [] s = some (.ref a)) (A : Arr s s.heap a cl ty) : cl.slots.size < 2 ^ 31 ∧ cl.slots.size.toInt32 = z := by
  have hA := A.fin (Vm.Alike.refl _)
  obtain ⟨a', cell, h1, h2, h3⟩ := Term.length_spec h
  cases ht.symm.trans h1
  cases hA.symm.trans h2
  refine ⟨?_, (Value.int.inj h3).symm⟩
  simp only [Term.eval, ht, hA, Option.bind_eq_bind, Option.bind_some] at h
  split at h
  · assumption
  · cases h
theorem own_sz {n : Nat} {z : Int32} (h1 : n < 2 ^ 31) (h2 : n.toInt32 = z) : n = z.toNatClampNeg := by
  rw [← h2]; simp only [Int32.toNatClampNeg, len_toInt h1]; rfl
theorem own_box {args : Array Value} {s : State} {t : Term} {a : Addr} {c : Cell} {K : String} {G : Jvm.Cond} (et : ∀ idx, t.eval args s none idx s = some (.ref a)) (A : Arr s s.heap a c (.object K)) (h : (Jvm.Cond.all t (.and (.exactly (.elem t (.index 0)) K) G)).value args s none s [] = some true) :
    ∀ j : Int32, ¬ (j < 0 ∨ c.slots.size ≤ j.toNatClampNeg) → ∃ b : Addr, c.slots[j.toNatClampNeg]? = some (.ref b) ∧ Exa s s.heap b K := fun j hj => by
  have nn : ¬ j < 0 := fun x => hj (Or.inl x)
  obtain ⟨u1, -⟩ := and_e (Cond.all_elim (et []) (A.fin (Vm.Alike.refl _)) h j.toNatClampNeg (Nat.lt_of_not_le fun x => hj (Or.inr x)))
  obtain ⟨b, eb⟩ := exa_v u1
  exact ⟨b, (elem_f (et _) (idx_at nn) (A.fin (Vm.Alike.refl _)) nn).symm.trans eb, exa_at eb u1⟩
theorem own_neI {Z : State} {h : Heap} {a b : Addr} {C n d : String} {x y : Int32} (F : Fld Z h a C n d (.int x)) (G : Fld Z h b C n d (.int y)) (hn : x ≠ y) : ¬ a = b := fun e => by
  subst e
  obtain ⟨c1, cf1, k1, i1, f1, a1, a2, -, -, -, -, a7⟩ := F
  obtain ⟨c2, cf2, k2, i2, f2, b1, b2, -, -, -, -, b7⟩ := G
  cases a1.symm.trans b1
  cases a2.symm.trans b2
  cases a7.symm.trans b7
  exact hn rfl
theorem own_neJ {Z : State} {h : Heap} {a b : Addr} {C n d : String} {x y : Int64} (F : Fld Z h a C n d (.long x)) (G : Fld Z h b C n d (.long y)) (hn : x ≠ y) : ¬ a = b := fun e => by
  subst e
  obtain ⟨c1, cf1, k1, i1, f1, a1, a2, -, -, -, -, a7⟩ := F
  obtain ⟨c2, cf2, k2, i2, f2, b1, b2, -, -, -, -, b7⟩ := G
  cases a1.symm.trans b1
  cases a2.symm.trans b2
  cases a7.symm.trans b7
  exact hn rfl
def own_World (Z : State) (w : Nat → Addr) : Prop := Sta Z Z.heap "com/example/loudline/loudline/audio/G711" "LAWS" "[Lcom/example/loudline/loudline/audio/G711;" (.ref (w 0)) ∧ Sta Z Z.heap "com/example/loudline/loudline/audio/G711" "MU_LAW" "Lcom/example/loudline/loudline/audio/G711;" (.ref (w 1)) ∧ Exa Z Z.heap (w 1) "com/example/loudline/loudline/audio/G711" ∧ Sta Z Z.heap "com/example/loudline/loudline/audio/G711" "A_LAW" "Lcom/example/loudline/loudline/audio/G711;" (.ref (w 2)) ∧ Exa Z Z.heap (w 2) "com/example/loudline/loudline/audio/G711" ∧ Arv Z Z.heap (w 0) (w 100) (.object "com/example/loudline/loudline/audio/G711") (2 : Int32) [(.ref (w 1)), (.ref (w 2))] .null ∧ Fld Z Z.heap (w 1) "com/example/loudline/loudline/audio/G711" "payloadType" "I" (.int 0) ∧ Fld Z Z.heap (w 2) "com/example/loudline/loudline/audio/G711" "payloadType" "I" (.int 8)
theorem own_world {args : Array Value} {s : State} (hw : ∀ d ∈ tables_1, d.before args s = true) (hfit : Fit s) (hn : narrow_1.value args s none s [] = some true) : ∃ w : Nat → Addr, own_World s w := by
  obtain ⟨h0, q1⟩ := and_e hn
  obtain ⟨h1, q3⟩ := and_e q1
  obtain ⟨h2, q5⟩ := and_e q3
  obtain ⟨h3, q7⟩ := and_e q5
  obtain ⟨h4, q9⟩ := and_e q7
  obtain ⟨h5, q11⟩ := and_e q9
  obtain ⟨h6, h7⟩ := and_e q11
  obtain ⟨c0, e0⟩ := arr_v h0
  obtain ⟨c1, e1⟩ := exa_v h2
  obtain ⟨c2, e2⟩ := exa_v h5
  obtain ⟨cl0, A0⟩ := Arr.start e0 h0
  have L0 := own_len (own_eqv h1 rfl) e0 A0
  exact ⟨fun n => if n < 100 then ([c0, c1, c2] : List Nat).getD n 0 else ([cl0.cls] : List Nat).getD (n - 100) 0, Sta.start e0 (Or.inr ⟨(oW hw 2 rfl), (oW hw 5 rfl)⟩), Sta.start e1 (Or.inr ⟨(oW hw 2 rfl), (oW hw 6 rfl)⟩), Exa.start e1 h2, Sta.start e2 (Or.inr ⟨(oW hw 2 rfl), (oW hw 10 rfl)⟩), Exa.start e2 h5, Arv.start hfit A0 L0.1 L0.2 (by decide) rfl ⟨(elem_in (own_eqv h3 e1) e0 rfl A0.1).2, (elem_in (own_eqv h6 e2) e0 rfl A0.1).2, trivial⟩, Fld.start ((fld_at e1).symm.trans (own_eqv h4 rfl)), Fld.start ((fld_at e2).symm.trans (own_eqv h7 rfl))⟩
theorem wS0 {Z : State} {w : Nat → Addr} (W : own_World Z w) : Sta Z Z.heap "com/example/loudline/loudline/audio/G711" "LAWS" "[Lcom/example/loudline/loudline/audio/G711;" (.ref (w 0)) := W.1
theorem wS1 {Z : State} {w : Nat → Addr} (W : own_World Z w) : Sta Z Z.heap "com/example/loudline/loudline/audio/G711" "MU_LAW" "Lcom/example/loudline/loudline/audio/G711;" (.ref (w 1)) := W.2.1
theorem wE1 {Z : State} {w : Nat → Addr} (W : own_World Z w) : Exa Z Z.heap (w 1) "com/example/loudline/loudline/audio/G711" := W.2.2.1
theorem wS2 {Z : State} {w : Nat → Addr} (W : own_World Z w) : Sta Z Z.heap "com/example/loudline/loudline/audio/G711" "A_LAW" "Lcom/example/loudline/loudline/audio/G711;" (.ref (w 2)) := W.2.2.2.1
theorem wE2 {Z : State} {w : Nat → Addr} (W : own_World Z w) : Exa Z Z.heap (w 2) "com/example/loudline/loudline/audio/G711" := W.2.2.2.2.1
theorem wV0 {Z : State} {w : Nat → Addr} (W : own_World Z w) : Arv Z Z.heap (w 0) (w 100) (.object "com/example/loudline/loudline/audio/G711") (2 : Int32) [(.ref (w 1)), (.ref (w 2))] .null := W.2.2.2.2.2.1
theorem wF1_payloadType {Z : State} {w : Nat → Addr} (W : own_World Z w) : Fld Z Z.heap (w 1) "com/example/loudline/loudline/audio/G711" "payloadType" "I" (.int 0) := W.2.2.2.2.2.2.1
theorem wF2_payloadType {Z : State} {w : Nat → Addr} (W : own_World Z w) : Fld Z Z.heap (w 2) "com/example/loudline/loudline/audio/G711" "payloadType" "I" (.int 8) := W.2.2.2.2.2.2.2
theorem d1_0 : decode prog_6_method_4_code 0 = .ok (.getstatic 59, 3) := by decide +kernel
theorem d1_3 : decode prog_6_method_4_code 3 = .ok (.astore_n 1, 1) := by decide +kernel
theorem d1_4 : decode prog_6_method_4_code 4 = .ok (.aload_n 1, 1) := by decide +kernel
theorem d1_5 : decode prog_6_method_4_code 5 = .ok (.arraylength, 1) := by decide +kernel
theorem d1_6 : decode prog_6_method_4_code 6 = .ok (.istore_n 2, 1) := by decide +kernel
theorem d1_7 : decode prog_6_method_4_code 7 = .ok (.iconst 0, 1) := by decide +kernel
theorem li_0 : Int32.ofInt (0) = (0 : Int32) := by decide
theorem d1_8 : decode prog_6_method_4_code 8 = .ok (.istore_n 3, 1) := by decide +kernel
theorem d1_9 : decode prog_6_method_4_code 9 = .ok (.iload_n 3, 1) := by decide +kernel
theorem d1_10 : decode prog_6_method_4_code 10 = .ok (.iload_n 2, 1) := by decide +kernel
theorem d1_11 : decode prog_6_method_4_code 11 = .ok (.if_icmp .ge 26, 3) := by decide +kernel
theorem d1_14 : decode prog_6_method_4_code 14 = .ok (.aload_n 1, 1) := by decide +kernel
theorem d1_15 : decode prog_6_method_4_code 15 = .ok (.iload_n 3, 1) := by decide +kernel
theorem d1_16 : decode prog_6_method_4_code 16 = .ok (.aaload, 1) := by decide +kernel
theorem d1_17 : decode prog_6_method_4_code 17 = .ok (.astore 4, 2) := by decide +kernel
theorem d1_19 : decode prog_6_method_4_code 19 = .ok (.aload 4, 2) := by decide +kernel
theorem d1_21 : decode prog_6_method_4_code 21 = .ok (.getfield 29, 3) := by decide +kernel
theorem d1_24 : decode prog_6_method_4_code 24 = .ok (.iload_n 0, 1) := by decide +kernel
theorem d1_25 : decode prog_6_method_4_code 25 = .ok (.if_icmp .ne 6, 3) := by decide +kernel
theorem d1_28 : decode prog_6_method_4_code 28 = .ok (.aload 4, 2) := by decide +kernel
theorem d1_30 : decode prog_6_method_4_code 30 = .ok (.areturn, 1) := by decide +kernel
abbrev mY0 : MethodName := (⟨"com/example/loudline/loudline/audio/G711", "forPayloadType", "(I)Lcom/example/loudline/loudline/audio/G711;"⟩ : MethodName)
theorem ef_1_i (m : MethodId) (x0 : Int32) : entryFrame m #[(.int x0)] 5 = mkF m 0 #[.val (.int x0), .unset, .unset, .unset, .unset] [] := by first | (simp [entryFrame, mkF, argsToLocals, Value.category]; done) | rfl
theorem pn_0 : plainName "com/example/loudline/loudline/audio/G711" = true := by first | (simp [plainName, overriddenIn]; done) | decide +kernel
def Q_for_0 (Z : State) (p1 : Int32) (w : Nat → Addr) (h0 : Heap) (n0 : Nat) (v : Option Value) (h : Heap) (L : List Loc) : Prop := v = some (.ref (w 1)) ∧ Fr n0 L ∧ h = h0
set_option maxRecDepth 65536 in
set_option maxHeartbeats 40000000 in
theorem rm_for_0 (l : Launch) (Z : State) (a0 : Array Value) (hw : ∀ d ∈ tables_1, d.before a0 Z = true) (ws : List Jvm.Cond) (p1 : Int32) (w : Nat → Addr) (h0 : Heap) (n0 : Nat) (O0 : Old Z n0 h0) (W : own_World Z w) (hp : (0 : Int32) = p1) :
    MetFree l mY0 (head1 (Jvm.Cond.code mY0 prog_6_method_4_code 5 (some (.object "com/example/loudline/loudline/audio/G711")) :: ws) ({ frames := 0, cells := 0, slots := 0, locals := 0 } : Room)) (fun a U => a = #[(.int p1)] ∧ Z.Warmed39 U.vm ∧ U.heap = h0) (fun _ _ _ _ _ => True) (fun _ U o U' => ∃ v L, o = .returned v ∧ Q_for_0 Z p1 w h0 n0 v U'.heap L ∧ FrameEnd U o U' L ({ frames := 0, cells := 0, slots := 0, locals := 0 } : Room).cells ({ frames := 0, cells := 0, slots := 0, locals := 0 } : Room).slots) := by
  refine MetFree.of_bodySF (plainFor_of_name pn_0) hisR ?_
  intro p e s m args below meth c s₁ Bd hml0 hP hK
  obtain ⟨rfl, hZ, hh⟩ := hP
  have hx := Bd.exec
  have hby := Bd.bytes
  have hml : c.maxLocals = 5 := hml0
  have hown : s.vm.findClass "com/example/loudline/loudline/audio/G711" = some m.cls := findClass_of_methodNamed Bd.named
  have hnm := (name_of_methodNamed Bd.named Bd.method).1
  have X0 : Stand p l e ({ frames := 0, cells := 0, slots := 0, locals := 0 } : Room) s m #[(.int p1)] below meth c s₁ [] 0 0 := Stand.of_body Bd
  have e0 : s₁.heap = h0 := by rw [← hh, Bd.state]; rfl
  have N0 := Fr.nil n0
  show oG p e below s (Q_for_0 Z p1 w h0 n0) ({ frames := 0, cells := 0, slots := 0, locals := 0 } : Room).cells ({ frames := 0, cells := 0, slots := 0, locals := 0 } : Room).slots _
  refine oS (fun t k => castTop (ef_1_i m p1) k) ?_
  show oG _ _ _ _ _ _ _ (s₁.setTop (mkF m 0 #[.val (.int p1), .unset, .unset, .unset, .unset] []))
  obtain ⟨T1, X1, e1, st1⟩ := getS2 X0 hx hZ hown (host := "") (Or.inl (oW hw 4 rfl)) Via.refl e0 ((wS0 W).ext O0.2) (g := (mkF m 0 #[.val (.int p1), .unset, .unset, .unset, .unset] [])) rfl (hb hby d1_0)
  refine oS (fun t k => st1 t k) ?_
  try clear st1
  refine oS (fun t k => XS.astoreN X1.here hx rfl (hb hby d1_3) rfl rfl (l' := #[.val (.int p1), .val (.ref (w 0)), .unset, .unset, .unset]) rfl k) ?_
  refine oS (fun t k => XS.aloadN X1.here hx rfl (hb hby d1_4) rfl rfl k) ?_
  obtain ⟨cl2, Ar2, -, Sz2, Ng2, -, -⟩ := id ((wV0 W).ext O0.2)
  refine oS (S' := (T1.setTop (mkF m 6 #[.val (.int p1), .val (.ref (w 0)), .unset, .unset, .unset] [(.int 2)]))) (fun t k => X1.arraylength hx (by rw [e1]; exact Ar2.1) (State.isArrayOf_alike hZ.alike Ar2.2.1) (g := (mkF m 5 #[.val (.int p1), .val (.ref (w 0)), .unset, .unset, .unset] [(.ref (w 0))])) rfl rfl (hb hby d1_5) t (by rw [len_of Sz2 Ng2]; exact k)) ?_
  refine oS (fun t k => XS.istoreN X1.here hx rfl (hb hby d1_6) rfl (l' := #[.val (.int p1), .val (.ref (w 0)), .val (.int 2), .unset, .unset]) rfl k) ?_
  refine oS (fun t k => oIc li_0 X1.here hx rfl (hb hby d1_7) k) ?_
  refine oS (fun t k => XS.istoreN X1.here hx rfl (hb hby d1_8) rfl (l' := #[.val (.int p1), .val (.ref (w 0)), .val (.int 2), .val (.int 0), .unset]) rfl k) ?_
  refine oS (fun t k => XS.iloadN X1.here hx rfl (hb hby d1_9) rfl k) ?_
  refine oS (fun t k => XS.iloadN X1.here hx rfl (hb hby d1_10) rfl k) ?_
  refine oS (fun t k => XS.icmpNo X1.here hx rfl (hb hby d1_11) rfl (tlt (by decide)).2.1 k) ?_
  show oG _ _ _ _ _ _ _ (T1.setTop (mkF m 14 #[.val (.int p1), .val (.ref (w 0)), .val (.int 2), .val (.int 0), .unset] []))
  refine oS (fun t k => XS.aloadN X1.here hx rfl (hb hby d1_14) rfl rfl k) ?_
  refine oS (fun t k => XS.iloadN X1.here hx rfl (hb hby d1_15) rfl k) ?_
  obtain ⟨cl3, Ar3, qk3, Sz3, Ng3, Ha3, Gf3⟩ := id ((wV0 W).ext O0.2)
  have hin3 : ¬ ((0 : Int32) < 0 ∨ cl3.slots.size ≤ ((0 : Int32)).toNatClampNeg) := (inb_of Sz3 ⟨by decide, by decide⟩)
  have hat3 : cl3.slots[((0 : Int32)).toNatClampNeg]? = some (.ref (w 1)) := Ha3.at hin3 rfl
  refine oS (fun t k => X1.aaload hx (j := (0 : Int32)) (v := (.ref (w 1))) (by rw [e1]; exact Ar3.1) (State.isArrayOf_alike hZ.alike Ar3.2.1) rfl Ar3.2.2 hin3 hat3 (g := (mkF m 16 #[.val (.int p1), .val (.ref (w 0)), .val (.int 2), .val (.int 0), .unset] [(.int 0), (.ref (w 0))])) rfl rfl (hb hby d1_16) t k) ?_
  refine oS (fun t k => XS.astore X1.here hx rfl (hb hby d1_17) rfl rfl (l' := #[.val (.int p1), .val (.ref (w 0)), .val (.int 2), .val (.int 0), .val (.ref (w 1))]) rfl k) ?_
  refine oS (fun t k => XS.aload X1.here hx rfl (hb hby d1_19) rfl rfl k) ?_
  obtain ⟨T4, X4, e4, st4⟩ := getF X1 hx hZ hown (host := "") (Or.inl (oW hw 7 rfl)) Via.refl e1 ((wF1_payloadType W).ext O0.2) (g := (mkF m 21 #[.val (.int p1), .val (.ref (w 0)), .val (.int 2), .val (.int 0), .val (.ref (w 1))] [(.ref (w 1))])) rfl rfl (hb hby d1_21)
  refine oS (fun t k => st4 t k) ?_
  try clear st4 X1 e1
  try clear T1
  refine oS (fun t k => XS.iloadN X4.here hx rfl (hb hby d1_24) rfl k) ?_
  refine oS (fun t k => XS.icmpNo X4.here hx rfl (hb hby d1_25) rfl (teq hp).2 k) ?_
  refine oS (fun t k => XS.aload X4.here hx rfl (hb hby d1_28) rfl rfl k) ?_
  exact own_ret (v := some (.ref (w 1))) X4 (fun h => by rw [Bd.returns] at h; cases h) Bd.notSynchronized (fun fs hr => retOut X4 hx (t := (.object "com/example/loudline/loudline/audio/G711")) Bd.returns rfl (Or.inr (Or.inr (Or.inr (Or.inr ⟨rfl, rfl, rfl⟩)))) (hb hby d1_30) hr) (by rw [e4]; exact ⟨rfl, N0, rfl⟩) (by decide) (by decide)
theorem d1_31 : decode prog_6_method_4_code 31 = .ok (.iinc 3 1, 3) := by decide +kernel
theorem d1_34 : decode prog_6_method_4_code 34 = .ok (.goto (-25), 3) := by decide +kernel
def Q_for_8 (Z : State) (p1 : Int32) (w : Nat → Addr) (h0 : Heap) (n0 : Nat) (v : Option Value) (h : Heap) (L : List Loc) : Prop := v = some (.ref (w 2)) ∧ Fr n0 L ∧ h = h0
set_option maxRecDepth 65536 in
set_option maxHeartbeats 40000000 in
theorem rm_for_8 (l : Launch) (Z : State) (a0 : Array Value) (hw : ∀ d ∈ tables_1, d.before a0 Z = true) (ws : List Jvm.Cond) (p1 : Int32) (w : Nat → Addr) (h0 : Heap) (n0 : Nat) (O0 : Old Z n0 h0) (W : own_World Z w) (hp : ¬ ((0 : Int32) = p1)) (hq : (8 : Int32) = p1) :
    MetFree l mY0 (head1 (Jvm.Cond.code mY0 prog_6_method_4_code 5 (some (.object "com/example/loudline/loudline/audio/G711")) :: ws) ({ frames := 0, cells := 0, slots := 0, locals := 0 } : Room)) (fun a U => a = #[(.int p1)] ∧ Z.Warmed39 U.vm ∧ U.heap = h0) (fun _ _ _ _ _ => True) (fun _ U o U' => ∃ v L, o = .returned v ∧ Q_for_8 Z p1 w h0 n0 v U'.heap L ∧ FrameEnd U o U' L ({ frames := 0, cells := 0, slots := 0, locals := 0 } : Room).cells ({ frames := 0, cells := 0, slots := 0, locals := 0 } : Room).slots) := by
  refine MetFree.of_bodySF (plainFor_of_name pn_0) hisR ?_
  intro p e s m args below meth c s₁ Bd hml0 hP hK
  obtain ⟨rfl, hZ, hh⟩ := hP
  have hx := Bd.exec
  have hby := Bd.bytes
  have hml : c.maxLocals = 5 := hml0
  have hown : s.vm.findClass "com/example/loudline/loudline/audio/G711" = some m.cls := findClass_of_methodNamed Bd.named
  have hnm := (name_of_methodNamed Bd.named Bd.method).1
  have X0 : Stand p l e ({ frames := 0, cells := 0, slots := 0, locals := 0 } : Room) s m #[(.int p1)] below meth c s₁ [] 0 0 := Stand.of_body Bd
  have e0 : s₁.heap = h0 := by rw [← hh, Bd.state]; rfl
  have N0 := Fr.nil n0
  show oG p e below s (Q_for_8 Z p1 w h0 n0) ({ frames := 0, cells := 0, slots := 0, locals := 0 } : Room).cells ({ frames := 0, cells := 0, slots := 0, locals := 0 } : Room).slots _
  refine oS (fun t k => castTop (ef_1_i m p1) k) ?_
  show oG _ _ _ _ _ _ _ (s₁.setTop (mkF m 0 #[.val (.int p1), .unset, .unset, .unset, .unset] []))
  obtain ⟨T1, X1, e1, st1⟩ := getS2 X0 hx hZ hown (host := "") (Or.inl (oW hw 4 rfl)) Via.refl e0 ((wS0 W).ext O0.2) (g := (mkF m 0 #[.val (.int p1), .unset, .unset, .unset, .unset] [])) rfl (hb hby d1_0)
  refine oS (fun t k => st1 t k) ?_
  try clear st1
  refine oS (fun t k => XS.astoreN X1.here hx rfl (hb hby d1_3) rfl rfl (l' := #[.val (.int p1), .val (.ref (w 0)), .unset, .unset, .unset]) rfl k) ?_
  refine oS (fun t k => XS.aloadN X1.here hx rfl (hb hby d1_4) rfl rfl k) ?_
  obtain ⟨cl2, Ar2, -, Sz2, Ng2, -, -⟩ := id ((wV0 W).ext O0.2)
  refine oS (S' := (T1.setTop (mkF m 6 #[.val (.int p1), .val (.ref (w 0)), .unset, .unset, .unset] [(.int 2)]))) (fun t k => X1.arraylength hx (by rw [e1]; exact Ar2.1) (State.isArrayOf_alike hZ.alike Ar2.2.1) (g := (mkF m 5 #[.val (.int p1), .val (.ref (w 0)), .unset, .unset, .unset] [(.ref (w 0))])) rfl rfl (hb hby d1_5) t (by rw [len_of Sz2 Ng2]; exact k)) ?_
  refine oS (fun t k => XS.istoreN X1.here hx rfl (hb hby d1_6) rfl (l' := #[.val (.int p1), .val (.ref (w 0)), .val (.int 2), .unset, .unset]) rfl k) ?_
  refine oS (fun t k => oIc li_0 X1.here hx rfl (hb hby d1_7) k) ?_
  refine oS (fun t k => XS.istoreN X1.here hx rfl (hb hby d1_8) rfl (l' := #[.val (.int p1), .val (.ref (w 0)), .val (.int 2), .val (.int 0), .unset]) rfl k) ?_
  refine oS (fun t k => XS.iloadN X1.here hx rfl (hb hby d1_9) rfl k) ?_
  refine oS (fun t k => XS.iloadN X1.here hx rfl (hb hby d1_10) rfl k) ?_
  refine oS (fun t k => XS.icmpNo X1.here hx rfl (hb hby d1_11) rfl (tlt (by decide)).2.1 k) ?_
  show oG _ _ _ _ _ _ _ (T1.setTop (mkF m 14 #[.val (.int p1), .val (.ref (w 0)), .val (.int 2), .val (.int 0), .unset] []))
  refine oS (fun t k => XS.aloadN X1.here hx rfl (hb hby d1_14) rfl rfl k) ?_
  refine oS (fun t k => XS.iloadN X1.here hx rfl (hb hby d1_15) rfl k) ?_
  obtain ⟨cl3, Ar3, qk3, Sz3, Ng3, Ha3, Gf3⟩ := id ((wV0 W).ext O0.2)
  have hin3 : ¬ ((0 : Int32) < 0 ∨ cl3.slots.size ≤ ((0 : Int32)).toNatClampNeg) := (inb_of Sz3 ⟨by decide, by decide⟩)
  have hat3 : cl3.slots[((0 : Int32)).toNatClampNeg]? = some (.ref (w 1)) := Ha3.at hin3 rfl
  refine oS (fun t k => X1.aaload hx (j := (0 : Int32)) (v := (.ref (w 1))) (by rw [e1]; exact Ar3.1) (State.isArrayOf_alike hZ.alike Ar3.2.1) rfl Ar3.2.2 hin3 hat3 (g := (mkF m 16 #[.val (.int p1), .val (.ref (w 0)), .val (.int 2), .val (.int 0), .unset] [(.int 0), (.ref (w 0))])) rfl rfl (hb hby d1_16) t k) ?_
  refine oS (fun t k => XS.astore X1.here hx rfl (hb hby d1_17) rfl rfl (l' := #[.val (.int p1), .val (.ref (w 0)), .val (.int 2), .val (.int 0), .val (.ref (w 1))]) rfl k) ?_
  refine oS (fun t k => XS.aload X1.here hx rfl (hb hby d1_19) rfl rfl k) ?_
  obtain ⟨T4, X4, e4, st4⟩ := getF X1 hx hZ hown (host := "") (Or.inl (oW hw 7 rfl)) Via.refl e1 ((wF1_payloadType W).ext O0.2) (g := (mkF m 21 #[.val (.int p1), .val (.ref (w 0)), .val (.int 2), .val (.int 0), .val (.ref (w 1))] [(.ref (w 1))])) rfl rfl (hb hby d1_21)
  refine oS (fun t k => st4 t k) ?_
  try clear st4 X1 e1
  try clear T1
  refine oS (fun t k => XS.iloadN X4.here hx rfl (hb hby d1_24) rfl k) ?_
  refine oS (fun t k => XS.icmpYes X4.here hx rfl (pc0 := 25) (pc' := 31) rfl (hb hby d1_25) rfl (feq hp).2 (by decide) (by decide) k) ?_
  refine oS (fun t k => XS.iinc X4.here hx rfl (hb hby d1_31) rfl (l' := #[.val (.int p1), .val (.ref (w 0)), .val (.int 2), .val (.int 1), .val (.ref (w 1))]) rfl k) ?_
  show oG _ _ _ _ _ _ _ (T4.setTop (mkF m 34 #[.val (.int p1), .val (.ref (w 0)), .val (.int 2), .val (.int 1), .val (.ref (w 1))] []))
  refine oS (fun t k => XS.goto X4.here hx rfl (pc0 := 34) (pc' := 9) rfl (hb hby d1_34) (by decide) (by decide) k) ?_
  refine oS (fun t k => XS.iloadN X4.here hx rfl (hb hby d1_9) rfl k) ?_
  refine oS (fun t k => XS.iloadN X4.here hx rfl (hb hby d1_10) rfl k) ?_
  refine oS (fun t k => XS.icmpNo X4.here hx rfl (hb hby d1_11) rfl (tlt (by decide)).2.1 k) ?_
  refine oS (fun t k => XS.aloadN X4.here hx rfl (hb hby d1_14) rfl rfl k) ?_
  refine oS (fun t k => XS.iloadN X4.here hx rfl (hb hby d1_15) rfl k) ?_
  obtain ⟨cl5, Ar5, qk5, Sz5, Ng5, Ha5, Gf5⟩ := id ((wV0 W).ext O0.2)
  have hin5 : ¬ ((1 : Int32) < 0 ∨ cl5.slots.size ≤ ((1 : Int32)).toNatClampNeg) := (inb_of Sz5 ⟨by decide, by decide⟩)
  have hat5 : cl5.slots[((1 : Int32)).toNatClampNeg]? = some (.ref (w 2)) := Ha5.at hin5 rfl
  refine oS (fun t k => X4.aaload hx (j := (1 : Int32)) (v := (.ref (w 2))) (by rw [e4]; exact Ar5.1) (State.isArrayOf_alike hZ.alike Ar5.2.1) rfl Ar5.2.2 hin5 hat5 (g := (mkF m 16 #[.val (.int p1), .val (.ref (w 0)), .val (.int 2), .val (.int 1), .val (.ref (w 1))] [(.int 1), (.ref (w 0))])) rfl rfl (hb hby d1_16) t k) ?_
  refine oS (fun t k => XS.astore X4.here hx rfl (hb hby d1_17) rfl rfl (l' := #[.val (.int p1), .val (.ref (w 0)), .val (.int 2), .val (.int 1), .val (.ref (w 2))]) rfl k) ?_
  refine oS (fun t k => XS.aload X4.here hx rfl (hb hby d1_19) rfl rfl k) ?_
  obtain ⟨T6, X6, e6, st6⟩ := getF X4 hx hZ hown (host := "") (Or.inl (oW hw 7 rfl)) Via.refl e4 ((wF2_payloadType W).ext O0.2) (g := (mkF m 21 #[.val (.int p1), .val (.ref (w 0)), .val (.int 2), .val (.int 1), .val (.ref (w 2))] [(.ref (w 2))])) rfl rfl (hb hby d1_21)
  refine oS (fun t k => st6 t k) ?_
  show oG _ _ _ _ _ _ _ (T6.setTop (mkF m 24 #[.val (.int p1), .val (.ref (w 0)), .val (.int 2), .val (.int 1), .val (.ref (w 2))] [(.int 8)]))
  try clear st6 X4 e4
  try clear T4
  refine oS (fun t k => XS.iloadN X6.here hx rfl (hb hby d1_24) rfl k) ?_
  refine oS (fun t k => XS.icmpNo X6.here hx rfl (hb hby d1_25) rfl (teq hq).2 k) ?_
  refine oS (fun t k => XS.aload X6.here hx rfl (hb hby d1_28) rfl rfl k) ?_
  exact own_ret (v := some (.ref (w 2))) X6 (fun h => by rw [Bd.returns] at h; cases h) Bd.notSynchronized (fun fs hr => retOut X6 hx (t := (.object "com/example/loudline/loudline/audio/G711")) Bd.returns rfl (Or.inr (Or.inr (Or.inr (Or.inr ⟨rfl, rfl, rfl⟩)))) (hb hby d1_30) hr) (by rw [e6]; exact ⟨rfl, N0, rfl⟩) (by decide) (by decide)
theorem d1_37 : decode prog_6_method_4_code 37 = .ok (.aconst_null, 1) := by decide +kernel
theorem d1_38 : decode prog_6_method_4_code 38 = .ok (.areturn, 1) := by decide +kernel
def Q_for_n (Z : State) (p1 : Int32) (w : Nat → Addr) (h0 : Heap) (n0 : Nat) (v : Option Value) (h : Heap) (L : List Loc) : Prop := v = some .null ∧ Fr n0 L ∧ h = h0
set_option maxRecDepth 65536 in
set_option maxHeartbeats 40000000 in
theorem rm_for_n (l : Launch) (Z : State) (a0 : Array Value) (hw : ∀ d ∈ tables_1, d.before a0 Z = true) (ws : List Jvm.Cond) (p1 : Int32) (w : Nat → Addr) (h0 : Heap) (n0 : Nat) (O0 : Old Z n0 h0) (W : own_World Z w) (hp : ¬ ((0 : Int32) = p1)) (hq : ¬ ((8 : Int32) = p1)) :
    MetFree l mY0 (head1 (Jvm.Cond.code mY0 prog_6_method_4_code 5 (some (.object "com/example/loudline/loudline/audio/G711")) :: ws) ({ frames := 0, cells := 0, slots := 0, locals := 0 } : Room)) (fun a U => a = #[(.int p1)] ∧ Z.Warmed39 U.vm ∧ U.heap = h0) (fun _ _ _ _ _ => True) (fun _ U o U' => ∃ v L, o = .returned v ∧ Q_for_n Z p1 w h0 n0 v U'.heap L ∧ FrameEnd U o U' L ({ frames := 0, cells := 0, slots := 0, locals := 0 } : Room).cells ({ frames := 0, cells := 0, slots := 0, locals := 0 } : Room).slots) := by
  refine MetFree.of_bodySF (plainFor_of_name pn_0) hisR ?_
  intro p e s m args below meth c s₁ Bd hml0 hP hK
  obtain ⟨rfl, hZ, hh⟩ := hP
  have hx := Bd.exec
  have hby := Bd.bytes
  have hml : c.maxLocals = 5 := hml0
  have hown : s.vm.findClass "com/example/loudline/loudline/audio/G711" = some m.cls := findClass_of_methodNamed Bd.named
  have hnm := (name_of_methodNamed Bd.named Bd.method).1
  have X0 : Stand p l e ({ frames := 0, cells := 0, slots := 0, locals := 0 } : Room) s m #[(.int p1)] below meth c s₁ [] 0 0 := Stand.of_body Bd
  have e0 : s₁.heap = h0 := by rw [← hh, Bd.state]; rfl
  have N0 := Fr.nil n0
  show oG p e below s (Q_for_n Z p1 w h0 n0) ({ frames := 0, cells := 0, slots := 0, locals := 0 } : Room).cells ({ frames := 0, cells := 0, slots := 0, locals := 0 } : Room).slots _
  refine oS (fun t k => castTop (ef_1_i m p1) k) ?_
  show oG _ _ _ _ _ _ _ (s₁.setTop (mkF m 0 #[.val (.int p1), .unset, .unset, .unset, .unset] []))
  obtain ⟨T1, X1, e1, st1⟩ := getS2 X0 hx hZ hown (host := "") (Or.inl (oW hw 4 rfl)) Via.refl e0 ((wS0 W).ext O0.2) (g := (mkF m 0 #[.val (.int p1), .unset, .unset, .unset, .unset] [])) rfl (hb hby d1_0)
  refine oS (fun t k => st1 t k) ?_
  try clear st1
  refine oS (fun t k => XS.astoreN X1.here hx rfl (hb hby d1_3) rfl rfl (l' := #[.val (.int p1), .val (.ref (w 0)), .unset, .unset, .unset]) rfl k) ?_
  refine oS (fun t k => XS.aloadN X1.here hx rfl (hb hby d1_4) rfl rfl k) ?_
  obtain ⟨cl2, Ar2, -, Sz2, Ng2, -, -⟩ := id ((wV0 W).ext O0.2)
  refine oS (S' := (T1.setTop (mkF m 6 #[.val (.int p1), .val (.ref (w 0)), .unset, .unset, .unset] [(.int 2)]))) (fun t k => X1.arraylength hx (by rw [e1]; exact Ar2.1) (State.isArrayOf_alike hZ.alike Ar2.2.1) (g := (mkF m 5 #[.val (.int p1), .val (.ref (w 0)), .unset, .unset, .unset] [(.ref (w 0))])) rfl rfl (hb hby d1_5) t (by rw [len_of Sz2 Ng2]; exact k)) ?_
  refine oS (fun t k => XS.istoreN X1.here hx rfl (hb hby d1_6) rfl (l' := #[.val (.int p1), .val (.ref (w 0)), .val (.int 2), .unset, .unset]) rfl k) ?_
  refine oS (fun t k => oIc li_0 X1.here hx rfl (hb hby d1_7) k) ?_
  refine oS (fun t k => XS.istoreN X1.here hx rfl (hb hby d1_8) rfl (l' := #[.val (.int p1), .val (.ref (w 0)), .val (.int 2), .val (.int 0), .unset]) rfl k) ?_
  refine oS (fun t k => XS.iloadN X1.here hx rfl (hb hby d1_9) rfl k) ?_
  refine oS (fun t k => XS.iloadN X1.here hx rfl (hb hby d1_10) rfl k) ?_
  refine oS (fun t k => XS.icmpNo X1.here hx rfl (hb hby d1_11) rfl (tlt (by decide)).2.1 k) ?_
  show oG _ _ _ _ _ _ _ (T1.setTop (mkF m 14 #[.val (.int p1), .val (.ref (w 0)), .val (.int 2), .val (.int 0), .unset] []))
  refine oS (fun t k => XS.aloadN X1.here hx rfl (hb hby d1_14) rfl rfl k) ?_
  refine oS (fun t k => XS.iloadN X1.here hx rfl (hb hby d1_15) rfl k) ?_
  obtain ⟨cl3, Ar3, qk3, Sz3, Ng3, Ha3, Gf3⟩ := id ((wV0 W).ext O0.2)
  have hin3 : ¬ ((0 : Int32) < 0 ∨ cl3.slots.size ≤ ((0 : Int32)).toNatClampNeg) := (inb_of Sz3 ⟨by decide, by decide⟩)
  have hat3 : cl3.slots[((0 : Int32)).toNatClampNeg]? = some (.ref (w 1)) := Ha3.at hin3 rfl
  refine oS (fun t k => X1.aaload hx (j := (0 : Int32)) (v := (.ref (w 1))) (by rw [e1]; exact Ar3.1) (State.isArrayOf_alike hZ.alike Ar3.2.1) rfl Ar3.2.2 hin3 hat3 (g := (mkF m 16 #[.val (.int p1), .val (.ref (w 0)), .val (.int 2), .val (.int 0), .unset] [(.int 0), (.ref (w 0))])) rfl rfl (hb hby d1_16) t k) ?_
  refine oS (fun t k => XS.astore X1.here hx rfl (hb hby d1_17) rfl rfl (l' := #[.val (.int p1), .val (.ref (w 0)), .val (.int 2), .val (.int 0), .val (.ref (w 1))]) rfl k) ?_
  refine oS (fun t k => XS.aload X1.here hx rfl (hb hby d1_19) rfl rfl k) ?_
  obtain ⟨T4, X4, e4, st4⟩ := getF X1 hx hZ hown (host := "") (Or.inl (oW hw 7 rfl)) Via.refl e1 ((wF1_payloadType W).ext O0.2) (g := (mkF m 21 #[.val (.int p1), .val (.ref (w 0)), .val (.int 2), .val (.int 0), .val (.ref (w 1))] [(.ref (w 1))])) rfl rfl (hb hby d1_21)
  refine oS (fun t k => st4 t k) ?_
  try clear st4 X1 e1
  try clear T1
  refine oS (fun t k => XS.iloadN X4.here hx rfl (hb hby d1_24) rfl k) ?_
  refine oS (fun t k => XS.icmpYes X4.here hx rfl (pc0 := 25) (pc' := 31) rfl (hb hby d1_25) rfl (feq hp).2 (by decide) (by decide) k) ?_
  refine oS (fun t k => XS.iinc X4.here hx rfl (hb hby d1_31) rfl (l' := #[.val (.int p1), .val (.ref (w 0)), .val (.int 2), .val (.int 1), .val (.ref (w 1))]) rfl k) ?_
  show oG _ _ _ _ _ _ _ (T4.setTop (mkF m 34 #[.val (.int p1), .val (.ref (w 0)), .val (.int 2), .val (.int 1), .val (.ref (w 1))] []))
  refine oS (fun t k => XS.goto X4.here hx rfl (pc0 := 34) (pc' := 9) rfl (hb hby d1_34) (by decide) (by decide) k) ?_
  refine oS (fun t k => XS.iloadN X4.here hx rfl (hb hby d1_9) rfl k) ?_
  refine oS (fun t k => XS.iloadN X4.here hx rfl (hb hby d1_10) rfl k) ?_
  refine oS (fun t k => XS.icmpNo X4.here hx rfl (hb hby d1_11) rfl (tlt (by decide)).2.1 k) ?_
  refine oS (fun t k => XS.aloadN X4.here hx rfl (hb hby d1_14) rfl rfl k) ?_
  refine oS (fun t k => XS.iloadN X4.here hx rfl (hb hby d1_15) rfl k) ?_
  obtain ⟨cl5, Ar5, qk5, Sz5, Ng5, Ha5, Gf5⟩ := id ((wV0 W).ext O0.2)
  have hin5 : ¬ ((1 : Int32) < 0 ∨ cl5.slots.size ≤ ((1 : Int32)).toNatClampNeg) := (inb_of Sz5 ⟨by decide, by decide⟩)
  have hat5 : cl5.slots[((1 : Int32)).toNatClampNeg]? = some (.ref (w 2)) := Ha5.at hin5 rfl
  refine oS (fun t k => X4.aaload hx (j := (1 : Int32)) (v := (.ref (w 2))) (by rw [e4]; exact Ar5.1) (State.isArrayOf_alike hZ.alike Ar5.2.1) rfl Ar5.2.2 hin5 hat5 (g := (mkF m 16 #[.val (.int p1), .val (.ref (w 0)), .val (.int 2), .val (.int 1), .val (.ref (w 1))] [(.int 1), (.ref (w 0))])) rfl rfl (hb hby d1_16) t k) ?_
  refine oS (fun t k => XS.astore X4.here hx rfl (hb hby d1_17) rfl rfl (l' := #[.val (.int p1), .val (.ref (w 0)), .val (.int 2), .val (.int 1), .val (.ref (w 2))]) rfl k) ?_
  refine oS (fun t k => XS.aload X4.here hx rfl (hb hby d1_19) rfl rfl k) ?_
  obtain ⟨T6, X6, e6, st6⟩ := getF X4 hx hZ hown (host := "") (Or.inl (oW hw 7 rfl)) Via.refl e4 ((wF2_payloadType W).ext O0.2) (g := (mkF m 21 #[.val (.int p1), .val (.ref (w 0)), .val (.int 2), .val (.int 1), .val (.ref (w 2))] [(.ref (w 2))])) rfl rfl (hb hby d1_21)
  refine oS (fun t k => st6 t k) ?_
  show oG _ _ _ _ _ _ _ (T6.setTop (mkF m 24 #[.val (.int p1), .val (.ref (w 0)), .val (.int 2), .val (.int 1), .val (.ref (w 2))] [(.int 8)]))
  try clear st6 X4 e4
  try clear T4
  refine oS (fun t k => XS.iloadN X6.here hx rfl (hb hby d1_24) rfl k) ?_
  refine oS (fun t k => XS.icmpYes X6.here hx rfl (pc0 := 25) (pc' := 31) rfl (hb hby d1_25) rfl (feq hq).2 (by decide) (by decide) k) ?_
  refine oS (fun t k => XS.iinc X6.here hx rfl (hb hby d1_31) rfl (l' := #[.val (.int p1), .val (.ref (w 0)), .val (.int 2), .val (.int 2), .val (.ref (w 2))]) rfl k) ?_
  show oG _ _ _ _ _ _ _ (T6.setTop (mkF m 34 #[.val (.int p1), .val (.ref (w 0)), .val (.int 2), .val (.int 2), .val (.ref (w 2))] []))
  refine oS (fun t k => XS.goto X6.here hx rfl (pc0 := 34) (pc' := 9) rfl (hb hby d1_34) (by decide) (by decide) k) ?_
  refine oS (fun t k => XS.iloadN X6.here hx rfl (hb hby d1_9) rfl k) ?_
  refine oS (fun t k => XS.iloadN X6.here hx rfl (hb hby d1_10) rfl k) ?_
  refine oS (fun t k => XS.icmpYes X6.here hx rfl (pc0 := 11) (pc' := 37) rfl (hb hby d1_11) rfl (flt (by decide)).2.1 (by decide) (by decide) k) ?_
  refine oS (fun t k => XS.aconstNull X6.here hx rfl (hb hby d1_37) k) ?_
  exact own_ret (v := some .null) X6 (fun h => by rw [Bd.returns] at h; cases h) Bd.notSynchronized (fun fs hr => retOut X6 hx (t := (.object "com/example/loudline/loudline/audio/G711")) Bd.returns rfl (Or.inr (Or.inr (Or.inr (Or.inr ⟨rfl, rfl, rfl⟩)))) (hb hby d1_38) hr) (by rw [e6]; exact ⟨rfl, N0, rfl⟩) (by decide) (by decide)
theorem li_3 : Int32.ofInt (3) = (3 : Int32) := by decide
theorem pd_0 : parseMethodDescriptor "(I)Lcom/example/loudline/loudline/audio/G711;" = some ⟨[.int], some (.object "com/example/loudline/loudline/audio/G711")⟩ := by decide +kernel
theorem li_1 : Int32.ofInt (1) = (1 : Int32) := by decide
theorem lb_8 : (Int8.ofInt (8)).toInt32 = (8 : Int32) := by decide
theorem lb_15 : (Int8.ofInt (15)).toInt32 = (15 : Int32) := by decide
theorem li_2 : Int32.ofInt (2) = (2 : Int32) := by decide
theorem li_4 : Int32.ofInt (4) = (4 : Int32) := by decide
theorem ls_m248 : (Int16.ofInt (-248)).toInt32 = (-248 : Int32) := by decide
theorem ef_0_ii (m : MethodId) (x0 : Int32) (x1 : Int32) : entryFrame m #[(.int x0), (.int x1)] maxLocals = mkF m 0 #[.val (.int x0), .val (.int x1), .unset, .unset, .unset, .unset] [] := by first | (simp [entryFrame, mkF, argsToLocals, Value.category, maxLocals]; done) | rfl
theorem pn_1 : plainName "com/example/loudline/loudline/audio/G711ForPayloadTypePinLaw" = true := by first | (simp [plainName, overriddenIn]; done) | decide +kernel
def Q_law (Z : State) (p1 : Int32) (p2 : Int32) (w : Nat → Addr) (h0 : Heap) (n0 : Nat) (v : Option Value) (h : Heap) (L : List Loc) : Prop := v = some (.int 1) ∧ Fr n0 L
set_option maxRecDepth 65536 in
set_option maxHeartbeats 40000000 in
theorem rm_law (l : Launch) (Z : State) (a0 : Array Value) (hw : ∀ d ∈ tables_1, d.before a0 Z = true) (ws : List Jvm.Cond) (p1 : Int32) (p2 : Int32) (w : Nat → Addr) (h0 : Heap) (n0 : Nat) (O0 : Old Z n0 h0) (W : own_World Z w) :
    MetFree l x (head1 (Jvm.Cond.code x code maxLocals ret :: ws) room_1) (fun a U => a = #[(.int p1), (.int p2)] ∧ Z.Warmed39 U.vm ∧ U.heap = h0) (fun _ _ _ _ _ => True) (fun _ U o U' => ∃ v L, o = .returned v ∧ Q_law Z p1 p2 w h0 n0 v U'.heap L ∧ FrameEnd U o U' L room_1.cells room_1.slots) := by
  refine MetFree.of_bodySF (plainFor_of_name pn_1) hisR ?_
  intro p e s m args below meth c s₁ Bd hml0 hP hK
  obtain ⟨rfl, hZ, hh⟩ := hP
  have hx := Bd.exec
  have hby := Bd.bytes
  have hml : c.maxLocals = 6 := hml0
  have hown : s.vm.findClass "com/example/loudline/loudline/audio/G711ForPayloadTypePinLaw" = some m.cls := findClass_of_methodNamed Bd.named
  have hnm := (name_of_methodNamed Bd.named Bd.method).1
  have X0 : Stand p l e room_1 s m #[(.int p1), (.int p2)] below meth c s₁ [] 0 0 := Stand.of_body Bd
  have e0 : s₁.heap = h0 := by rw [← hh, Bd.state]; rfl
  have N0 := Fr.nil n0
  show oG p e below s (Q_law Z p1 p2 w h0 n0) room_1.cells room_1.slots _
  refine oS (fun t k => castTop (ef_0_ii m p1 p2) k) ?_
  show oG _ _ _ _ _ _ _ (s₁.setTop (mkF m 0 #[.val (.int p1), .val (.int p2), .unset, .unset, .unset, .unset] []))
  refine oS (fun t k => XS.iloadN X0.here hx rfl (hb hby at_0) rfl k) ?_
  refine oS (fun t k => oIc li_3 X0.here hx rfl (hb hby at_1) k) ?_
  refine oS (fun t k => XS.iand X0.here hx rfl (hb hby at_2) rfl k) ?_
  refine oS (fun t k => XS.istoreN X0.here hx rfl (hb hby at_3) rfl (l' := #[.val (.int p1), .val (.int p2), .val (.int (p2 &&& (3 : Int32))), .unset, .unset, .unset]) rfl k) ?_
  refine oS (fun t k => XS.iloadN X0.here hx rfl (hb hby at_4) rfl k) ?_
  by_cases hc5 : (p2 &&& (3 : Int32)) = (0 : Int32)
  · refine oS (fun t k => XS.ifNo X0.here hx rfl (hb hby at_5) rfl ((if0 _ _).trans (teq hc5).2) k) ?_
    refine oS (fun t k => XS.iloadN X0.here hx rfl (hb hby at_8) rfl k) ?_
    refine oS (fun t k => XS.istoreN X0.here hx rfl (hb hby at_9) rfl (l' := #[.val (.int p1), .val (.int p2), .val (.int (p2 &&& (3 : Int32))), .val (.int p1), .unset, .unset]) rfl k) ?_
    refine oS (fun t k => XS.goto X0.here hx rfl (pc0 := 10) (pc' := 59) rfl (hb hby at_10) (by decide) (by decide) k) ?_
    refine oS (fun t k => XS.iloadN X0.here hx rfl (hb hby at_59) rfl k) ?_
    show oG _ _ _ _ _ _ _ (s₁.setTop (mkF m 60 #[.val (.int p1), .val (.int p2), .val (.int (p2 &&& (3 : Int32))), .val (.int p1), .unset, .unset] [(.int p1)]))
    by_cases hq0 : (0 : Int32) = p1
    · obtain ⟨_, _, ⟨T1, L1, k1, n1⟩, -, X1, ⟨Lc1, hQ1, l1, y1, z1⟩, st1⟩ := Jvm.LawKit.callS X0 hx (y := mY0) hown (mvT hZ (oW hw 0 rfl)) (mvT hZ (oW hw 1 rfl)) (mvT hZ (oW hw 2 rfl)) (mvT hZ (oW hw 3 rfl)) (by decide) (backOf (W := 0) (rm_for_0 l Z a0 hw [] p1 w h0 n0 O0 W hq0) hZ (oW hw 3 rfl) (oW hw 2 rfl) (by decide) (by decide)) (g := (mkF m 60 #[.val (.int p1), .val (.int p2), .val (.int (p2 &&& (3 : Int32))), .val (.int p1), .unset, .unset] [(.int p1)])) rfl (by rw [hml]; rfl) (argsL := [(.int p1)]) (rest := []) (lenOf pd_0 rfl) rfl (by show 2 * 0 + _ ≤ _; exact Nat.le_of_eq rfl) (hb hby at_60) (fun _ _ => ⟨rfl, e0, (by decide : 0 + 0 ≤ _), (by decide : 0 + 0 ≤ _)⟩)
      dsimp only [Pt.U, Pt.locs, Pt.cells, Pt.slots] at X1 l1 y1 z1 st1 hQ1
      subst l1 y1 z1
      obtain ⟨rfl, Nq1, e1⟩ := hQ1
      have N1 := Fr.app N0 Nq1
      refine oS (fun t k => st1 t k) ?_
      show oG _ _ _ _ _ _ _ (T1.setTop (mkF m 63 #[.val (.int p1), .val (.int p2), .val (.int (p2 &&& (3 : Int32))), .val (.int p1), .unset, .unset] [(.ref (w 1))]))
      try clear st1
      refine oS (fun t k => XS.astore X1.here hx rfl (hb hby at_63) rfl rfl (l' := #[.val (.int p1), .val (.int p2), .val (.int (p2 &&& (3 : Int32))), .val (.int p1), .val (.ref (w 1)), .unset]) rfl k) ?_
      refine oS (fun t k => XS.iloadN X1.here hx rfl (hb hby at_65) rfl k) ?_
      refine oS (fun t k => XS.ifNo X1.here hx rfl (hb hby at_66) rfl ((if0 _ _).trans (teq (Eq.symm hq0)).2) k) ?_
      obtain ⟨T2, X2, e2, st2⟩ := getS2 X1 hx hZ hown (host := "") (Or.inl (oW hw 9 rfl)) Via.refl e1 ((wS1 W).ext O0.2) (g := (mkF m 69 #[.val (.int p1), .val (.int p2), .val (.int (p2 &&& (3 : Int32))), .val (.int p1), .val (.ref (w 1)), .unset] [])) rfl (hb hby at_69)
      refine oS (fun t k => st2 t k) ?_
      try clear st2 X1 e1
      refine oS (fun t k => XS.astore X2.here hx rfl (hb hby at_72) rfl rfl (l' := #[.val (.int p1), .val (.int p2), .val (.int (p2 &&& (3 : Int32))), .val (.int p1), .val (.ref (w 1)), .val (.ref (w 1))]) rfl k) ?_
      refine oS (fun t k => XS.goto X2.here hx rfl (pc0 := 74) (pc' := 94) rfl (hb hby at_74) (by decide) (by decide) k) ?_
      refine oS (fun t k => XS.aload X2.here hx rfl (hb hby at_94) rfl rfl k) ?_
      refine oS (fun t k => XS.aload X2.here hx rfl (hb hby at_96) rfl rfl k) ?_
      refine oS (fun t k => Jvm.RoadKit.acmp (g := (mkF m 98 #[.val (.int p1), .val (.int p2), .val (.int (p2 &&& (3 : Int32))), .val (.int p1), .val (.ref (w 1)), .val (.ref (w 1))] [(.ref (w 1)), (.ref (w 1))])) X2 hx rfl rfl rfl (pc0 := 98) (pc' := 101) (same := true) rfl (hb hby at_98) rfl (decide_eq_true rfl) (by decide) (by decide) k) ?_
      refine oS (fun t k => oIc li_1 X2.here hx rfl (hb hby at_101) k) ?_
      show oG _ _ _ _ _ _ _ (T2.setTop (mkF m 102 #[.val (.int p1), .val (.int p2), .val (.int (p2 &&& (3 : Int32))), .val (.int p1), .val (.ref (w 1)), .val (.ref (w 1))] [(.int 1)]))
      refine oS (fun t k => XS.goto X2.here hx rfl (pc0 := 102) (pc' := 106) rfl (hb hby at_102) (by decide) (by decide) k) ?_
      exact own_ret (v := some (.int 1)) X2 (fun h => by rw [Bd.returns] at h; cases h) Bd.notSynchronized (fun fs hr => retN X2 hx (t := .boolean) Bd.returns (by simp) (hb hby at_106) hr) (by rw [e2]; exact ⟨rfl, N1⟩) (by decide) (by decide)
    · by_cases hq8 : (8 : Int32) = p1
      · obtain ⟨_, _, ⟨T3, L3, k3, n3⟩, -, X3, ⟨Lc3, hQ3, l3, y3, z3⟩, st3⟩ := Jvm.LawKit.callS X0 hx (y := mY0) hown (mvT hZ (oW hw 0 rfl)) (mvT hZ (oW hw 1 rfl)) (mvT hZ (oW hw 2 rfl)) (mvT hZ (oW hw 3 rfl)) (by decide) (backOf (W := 0) (rm_for_8 l Z a0 hw [] p1 w h0 n0 O0 W hq0 hq8) hZ (oW hw 3 rfl) (oW hw 2 rfl) (by decide) (by decide)) (g := (mkF m 60 #[.val (.int p1), .val (.int p2), .val (.int (p2 &&& (3 : Int32))), .val (.int p1), .unset, .unset] [(.int p1)])) rfl (by rw [hml]; rfl) (argsL := [(.int p1)]) (rest := []) (lenOf pd_0 rfl) rfl (by show 2 * 0 + _ ≤ _; exact Nat.le_of_eq rfl) (hb hby at_60) (fun _ _ => ⟨rfl, e0, (by decide : 0 + 0 ≤ _), (by decide : 0 + 0 ≤ _)⟩)
        dsimp only [Pt.U, Pt.locs, Pt.cells, Pt.slots] at X3 l3 y3 z3 st3 hQ3
        subst l3 y3 z3
        obtain ⟨rfl, Nq3, e3⟩ := hQ3
        have N3 := Fr.app N0 Nq3
        refine oS (fun t k => st3 t k) ?_
        show oG _ _ _ _ _ _ _ (T3.setTop (mkF m 63 #[.val (.int p1), .val (.int p2), .val (.int (p2 &&& (3 : Int32))), .val (.int p1), .unset, .unset] [(.ref (w 2))]))
        try clear st3
        refine oS (fun t k => XS.astore X3.here hx rfl (hb hby at_63) rfl rfl (l' := #[.val (.int p1), .val (.int p2), .val (.int (p2 &&& (3 : Int32))), .val (.int p1), .val (.ref (w 2)), .unset]) rfl k) ?_
        refine oS (fun t k => XS.iloadN X3.here hx rfl (hb hby at_65) rfl k) ?_
        refine oS (fun t k => XS.ifYes X3.here hx rfl (pc0 := 66) (pc' := 77) rfl (hb hby at_66) rfl ((if0 _ _).trans (feq (fun q => hq0 (Eq.symm q))).2) (by decide) (by decide) k) ?_
        refine oS (fun t k => XS.iloadN X3.here hx rfl (hb hby at_77) rfl k) ?_
        refine oS (fun t k => oBp lb_8 X3.here hx rfl (hb hby at_78) k) ?_
        refine oS (fun t k => XS.icmpNo X3.here hx rfl (hb hby at_80) rfl (teq (Eq.symm hq8)).2 k) ?_
        obtain ⟨T4, X4, e4, st4⟩ := getS2 X3 hx hZ hown (host := "") (Or.inl (oW hw 11 rfl)) Via.refl e3 ((wS2 W).ext O0.2) (g := (mkF m 83 #[.val (.int p1), .val (.int p2), .val (.int (p2 &&& (3 : Int32))), .val (.int p1), .val (.ref (w 2)), .unset] [])) rfl (hb hby at_83)
        refine oS (fun t k => st4 t k) ?_
        try clear st4 X3 e3
        refine oS (fun t k => XS.astore X4.here hx rfl (hb hby at_86) rfl rfl (l' := #[.val (.int p1), .val (.int p2), .val (.int (p2 &&& (3 : Int32))), .val (.int p1), .val (.ref (w 2)), .val (.ref (w 2))]) rfl k) ?_
        refine oS (fun t k => XS.goto X4.here hx rfl (pc0 := 88) (pc' := 94) rfl (hb hby at_88) (by decide) (by decide) k) ?_
        refine oS (fun t k => XS.aload X4.here hx rfl (hb hby at_94) rfl rfl k) ?_
        show oG _ _ _ _ _ _ _ (T4.setTop (mkF m 96 #[.val (.int p1), .val (.int p2), .val (.int (p2 &&& (3 : Int32))), .val (.int p1), .val (.ref (w 2)), .val (.ref (w 2))] [(.ref (w 2))]))
        refine oS (fun t k => XS.aload X4.here hx rfl (hb hby at_96) rfl rfl k) ?_
        refine oS (fun t k => Jvm.RoadKit.acmp (g := (mkF m 98 #[.val (.int p1), .val (.int p2), .val (.int (p2 &&& (3 : Int32))), .val (.int p1), .val (.ref (w 2)), .val (.ref (w 2))] [(.ref (w 2)), (.ref (w 2))])) X4 hx rfl rfl rfl (pc0 := 98) (pc' := 101) (same := true) rfl (hb hby at_98) rfl (decide_eq_true rfl) (by decide) (by decide) k) ?_
        refine oS (fun t k => oIc li_1 X4.here hx rfl (hb hby at_101) k) ?_
        refine oS (fun t k => XS.goto X4.here hx rfl (pc0 := 102) (pc' := 106) rfl (hb hby at_102) (by decide) (by decide) k) ?_
        exact own_ret (v := some (.int 1)) X4 (fun h => by rw [Bd.returns] at h; cases h) Bd.notSynchronized (fun fs hr => retN X4 hx (t := .boolean) Bd.returns (by simp) (hb hby at_106) hr) (by rw [e4]; exact ⟨rfl, N3⟩) (by decide) (by decide)
      · obtain ⟨_, _, ⟨T5, L5, k5, n5⟩, -, X5, ⟨Lc5, hQ5, l5, y5, z5⟩, st5⟩ := Jvm.LawKit.callS X0 hx (y := mY0) hown (mvT hZ (oW hw 0 rfl)) (mvT hZ (oW hw 1 rfl)) (mvT hZ (oW hw 2 rfl)) (mvT hZ (oW hw 3 rfl)) (by decide) (backOf (W := 0) (rm_for_n l Z a0 hw [] p1 w h0 n0 O0 W hq0 hq8) hZ (oW hw 3 rfl) (oW hw 2 rfl) (by decide) (by decide)) (g := (mkF m 60 #[.val (.int p1), .val (.int p2), .val (.int (p2 &&& (3 : Int32))), .val (.int p1), .unset, .unset] [(.int p1)])) rfl (by rw [hml]; rfl) (argsL := [(.int p1)]) (rest := []) (lenOf pd_0 rfl) rfl (by show 2 * 0 + _ ≤ _; exact Nat.le_of_eq rfl) (hb hby at_60) (fun _ _ => ⟨rfl, e0, (by decide : 0 + 0 ≤ _), (by decide : 0 + 0 ≤ _)⟩)
        dsimp only [Pt.U, Pt.locs, Pt.cells, Pt.slots] at X5 l5 y5 z5 st5 hQ5
        subst l5 y5 z5
        obtain ⟨rfl, Nq5, e5⟩ := hQ5
        have N5 := Fr.app N0 Nq5
        refine oS (fun t k => st5 t k) ?_
        show oG _ _ _ _ _ _ _ (T5.setTop (mkF m 63 #[.val (.int p1), .val (.int p2), .val (.int (p2 &&& (3 : Int32))), .val (.int p1), .unset, .unset] [.null]))
        try clear st5
        refine oS (fun t k => XS.astore X5.here hx rfl (hb hby at_63) rfl rfl (l' := #[.val (.int p1), .val (.int p2), .val (.int (p2 &&& (3 : Int32))), .val (.int p1), .val .null, .unset]) rfl k) ?_
        refine oS (fun t k => XS.iloadN X5.here hx rfl (hb hby at_65) rfl k) ?_
        refine oS (fun t k => XS.ifYes X5.here hx rfl (pc0 := 66) (pc' := 77) rfl (hb hby at_66) rfl ((if0 _ _).trans (feq (fun q => hq0 (Eq.symm q))).2) (by decide) (by decide) k) ?_
        refine oS (fun t k => XS.iloadN X5.here hx rfl (hb hby at_77) rfl k) ?_
        refine oS (fun t k => oBp lb_8 X5.here hx rfl (hb hby at_78) k) ?_
        refine oS (fun t k => XS.icmpYes X5.here hx rfl (pc0 := 80) (pc' := 91) rfl (hb hby at_80) rfl (feq (fun q => hq8 (Eq.symm q))).2 (by decide) (by decide) k) ?_
        refine oS (fun t k => XS.aconstNull X5.here hx rfl (hb hby at_91) k) ?_
        refine oS (fun t k => XS.astore X5.here hx rfl (hb hby at_92) rfl rfl (l' := #[.val (.int p1), .val (.int p2), .val (.int (p2 &&& (3 : Int32))), .val (.int p1), .val .null, .val .null]) rfl k) ?_
        refine oS (fun t k => XS.aload X5.here hx rfl (hb hby at_94) rfl rfl k) ?_
        refine oS (fun t k => XS.aload X5.here hx rfl (hb hby at_96) rfl rfl k) ?_
        show oG _ _ _ _ _ _ _ (T5.setTop (mkF m 98 #[.val (.int p1), .val (.int p2), .val (.int (p2 &&& (3 : Int32))), .val (.int p1), .val .null, .val .null] [.null, .null]))
        refine oS (fun t k => Jvm.RoadKit.acmp (g := (mkF m 98 #[.val (.int p1), .val (.int p2), .val (.int (p2 &&& (3 : Int32))), .val (.int p1), .val .null, .val .null] [.null, .null])) X5 hx rfl rfl rfl (pc0 := 98) (pc' := 101) (same := true) rfl (hb hby at_98) rfl (decide_eq_true rfl) (by decide) (by decide) k) ?_
        refine oS (fun t k => oIc li_1 X5.here hx rfl (hb hby at_101) k) ?_
        refine oS (fun t k => XS.goto X5.here hx rfl (pc0 := 102) (pc' := 106) rfl (hb hby at_102) (by decide) (by decide) k) ?_
        exact own_ret (v := some (.int 1)) X5 (fun h => by rw [Bd.returns] at h; cases h) Bd.notSynchronized (fun fs hr => retN X5 hx (t := .boolean) Bd.returns (by simp) (hb hby at_106) hr) (by rw [e5]; exact ⟨rfl, N5⟩) (by decide) (by decide)
  · refine oS (fun t k => XS.ifYes X0.here hx rfl (pc0 := 5) (pc' := 13) rfl (hb hby at_5) rfl ((if0 _ _).trans (feq hc5).2) (by decide) (by decide) k) ?_
    refine oS (fun t k => XS.iloadN X0.here hx rfl (hb hby at_13) rfl k) ?_
    refine oS (fun t k => oIc li_1 X0.here hx rfl (hb hby at_14) k) ?_
    by_cases hc15 : (p2 &&& (3 : Int32)) = (1 : Int32)
    · refine oS (fun t k => XS.icmpNo X0.here hx rfl (hb hby at_15) rfl (teq hc15).2 k) ?_
      refine oS (fun t k => XS.iloadN X0.here hx rfl (hb hby at_18) rfl k) ?_
      show oG _ _ _ _ _ _ _ (s₁.setTop (mkF m 19 #[.val (.int p1), .val (.int p2), .val (.int (p2 &&& (3 : Int32))), .unset, .unset, .unset] [(.int p1)]))
      refine oS (fun t k => oBp lb_15 X0.here hx rfl (hb hby at_19) k) ?_
      refine oS (fun t k => XS.iand X0.here hx rfl (hb hby at_21) rfl k) ?_
      refine oS (fun t k => XS.istoreN X0.here hx rfl (hb hby at_22) rfl (l' := #[.val (.int p1), .val (.int p2), .val (.int (p2 &&& (3 : Int32))), .val (.int (p1 &&& (15 : Int32))), .unset, .unset]) rfl k) ?_
      refine oS (fun t k => XS.goto X0.here hx rfl (pc0 := 23) (pc' := 59) rfl (hb hby at_23) (by decide) (by decide) k) ?_
      refine oS (fun t k => XS.iloadN X0.here hx rfl (hb hby at_59) rfl k) ?_
      by_cases hq0 : (0 : Int32) = (p1 &&& (15 : Int32))
      · obtain ⟨_, _, ⟨T6, L6, k6, n6⟩, -, X6, ⟨Lc6, hQ6, l6, y6, z6⟩, st6⟩ := Jvm.LawKit.callS X0 hx (y := mY0) hown (mvT hZ (oW hw 0 rfl)) (mvT hZ (oW hw 1 rfl)) (mvT hZ (oW hw 2 rfl)) (mvT hZ (oW hw 3 rfl)) (by decide) (backOf (W := 0) (rm_for_0 l Z a0 hw [] (p1 &&& (15 : Int32)) w h0 n0 O0 W hq0) hZ (oW hw 3 rfl) (oW hw 2 rfl) (by decide) (by decide)) (g := (mkF m 60 #[.val (.int p1), .val (.int p2), .val (.int (p2 &&& (3 : Int32))), .val (.int (p1 &&& (15 : Int32))), .unset, .unset] [(.int (p1 &&& (15 : Int32)))])) rfl (by rw [hml]; rfl) (argsL := [(.int (p1 &&& (15 : Int32)))]) (rest := []) (lenOf pd_0 rfl) rfl (by show 2 * 0 + _ ≤ _; exact Nat.le_of_eq rfl) (hb hby at_60) (fun _ _ => ⟨rfl, e0, (by decide : 0 + 0 ≤ _), (by decide : 0 + 0 ≤ _)⟩)
        dsimp only [Pt.U, Pt.locs, Pt.cells, Pt.slots] at X6 l6 y6 z6 st6 hQ6
        subst l6 y6 z6
        obtain ⟨rfl, Nq6, e6⟩ := hQ6
        have N6 := Fr.app N0 Nq6
        refine oS (fun t k => st6 t k) ?_
        show oG _ _ _ _ _ _ _ (T6.setTop (mkF m 63 #[.val (.int p1), .val (.int p2), .val (.int (p2 &&& (3 : Int32))), .val (.int (p1 &&& (15 : Int32))), .unset, .unset] [(.ref (w 1))]))
        try clear st6
        refine oS (fun t k => XS.astore X6.here hx rfl (hb hby at_63) rfl rfl (l' := #[.val (.int p1), .val (.int p2), .val (.int (p2 &&& (3 : Int32))), .val (.int (p1 &&& (15 : Int32))), .val (.ref (w 1)), .unset]) rfl k) ?_
        refine oS (fun t k => XS.iloadN X6.here hx rfl (hb hby at_65) rfl k) ?_
        refine oS (fun t k => XS.ifNo X6.here hx rfl (hb hby at_66) rfl ((if0 _ _).trans (teq (Eq.symm hq0)).2) k) ?_
        obtain ⟨T7, X7, e7, st7⟩ := getS2 X6 hx hZ hown (host := "") (Or.inl (oW hw 9 rfl)) Via.refl e6 ((wS1 W).ext O0.2) (g := (mkF m 69 #[.val (.int p1), .val (.int p2), .val (.int (p2 &&& (3 : Int32))), .val (.int (p1 &&& (15 : Int32))), .val (.ref (w 1)), .unset] [])) rfl (hb hby at_69)
        refine oS (fun t k => st7 t k) ?_
        try clear st7 X6 e6
        refine oS (fun t k => XS.astore X7.here hx rfl (hb hby at_72) rfl rfl (l' := #[.val (.int p1), .val (.int p2), .val (.int (p2 &&& (3 : Int32))), .val (.int (p1 &&& (15 : Int32))), .val (.ref (w 1)), .val (.ref (w 1))]) rfl k) ?_
        refine oS (fun t k => XS.goto X7.here hx rfl (pc0 := 74) (pc' := 94) rfl (hb hby at_74) (by decide) (by decide) k) ?_
        refine oS (fun t k => XS.aload X7.here hx rfl (hb hby at_94) rfl rfl k) ?_
        refine oS (fun t k => XS.aload X7.here hx rfl (hb hby at_96) rfl rfl k) ?_
        refine oS (fun t k => Jvm.RoadKit.acmp (g := (mkF m 98 #[.val (.int p1), .val (.int p2), .val (.int (p2 &&& (3 : Int32))), .val (.int (p1 &&& (15 : Int32))), .val (.ref (w 1)), .val (.ref (w 1))] [(.ref (w 1)), (.ref (w 1))])) X7 hx rfl rfl rfl (pc0 := 98) (pc' := 101) (same := true) rfl (hb hby at_98) rfl (decide_eq_true rfl) (by decide) (by decide) k) ?_
        refine oS (fun t k => oIc li_1 X7.here hx rfl (hb hby at_101) k) ?_
        show oG _ _ _ _ _ _ _ (T7.setTop (mkF m 102 #[.val (.int p1), .val (.int p2), .val (.int (p2 &&& (3 : Int32))), .val (.int (p1 &&& (15 : Int32))), .val (.ref (w 1)), .val (.ref (w 1))] [(.int 1)]))
        refine oS (fun t k => XS.goto X7.here hx rfl (pc0 := 102) (pc' := 106) rfl (hb hby at_102) (by decide) (by decide) k) ?_
        exact own_ret (v := some (.int 1)) X7 (fun h => by rw [Bd.returns] at h; cases h) Bd.notSynchronized (fun fs hr => retN X7 hx (t := .boolean) Bd.returns (by simp) (hb hby at_106) hr) (by rw [e7]; exact ⟨rfl, N6⟩) (by decide) (by decide)
      · by_cases hq8 : (8 : Int32) = (p1 &&& (15 : Int32))
        · obtain ⟨_, _, ⟨T8, L8, k8, n8⟩, -, X8, ⟨Lc8, hQ8, l8, y8, z8⟩, st8⟩ := Jvm.LawKit.callS X0 hx (y := mY0) hown (mvT hZ (oW hw 0 rfl)) (mvT hZ (oW hw 1 rfl)) (mvT hZ (oW hw 2 rfl)) (mvT hZ (oW hw 3 rfl)) (by decide) (backOf (W := 0) (rm_for_8 l Z a0 hw [] (p1 &&& (15 : Int32)) w h0 n0 O0 W hq0 hq8) hZ (oW hw 3 rfl) (oW hw 2 rfl) (by decide) (by decide)) (g := (mkF m 60 #[.val (.int p1), .val (.int p2), .val (.int (p2 &&& (3 : Int32))), .val (.int (p1 &&& (15 : Int32))), .unset, .unset] [(.int (p1 &&& (15 : Int32)))])) rfl (by rw [hml]; rfl) (argsL := [(.int (p1 &&& (15 : Int32)))]) (rest := []) (lenOf pd_0 rfl) rfl (by show 2 * 0 + _ ≤ _; exact Nat.le_of_eq rfl) (hb hby at_60) (fun _ _ => ⟨rfl, e0, (by decide : 0 + 0 ≤ _), (by decide : 0 + 0 ≤ _)⟩)
          dsimp only [Pt.U, Pt.locs, Pt.cells, Pt.slots] at X8 l8 y8 z8 st8 hQ8
          subst l8 y8 z8
          obtain ⟨rfl, Nq8, e8⟩ := hQ8
          have N8 := Fr.app N0 Nq8
          refine oS (fun t k => st8 t k) ?_
          show oG _ _ _ _ _ _ _ (T8.setTop (mkF m 63 #[.val (.int p1), .val (.int p2), .val (.int (p2 &&& (3 : Int32))), .val (.int (p1 &&& (15 : Int32))), .unset, .unset] [(.ref (w 2))]))
          try clear st8
          refine oS (fun t k => XS.astore X8.here hx rfl (hb hby at_63) rfl rfl (l' := #[.val (.int p1), .val (.int p2), .val (.int (p2 &&& (3 : Int32))), .val (.int (p1 &&& (15 : Int32))), .val (.ref (w 2)), .unset]) rfl k) ?_
          refine oS (fun t k => XS.iloadN X8.here hx rfl (hb hby at_65) rfl k) ?_
          refine oS (fun t k => XS.ifYes X8.here hx rfl (pc0 := 66) (pc' := 77) rfl (hb hby at_66) rfl ((if0 _ _).trans (feq (fun q => hq0 (Eq.symm q))).2) (by decide) (by decide) k) ?_
          refine oS (fun t k => XS.iloadN X8.here hx rfl (hb hby at_77) rfl k) ?_
          refine oS (fun t k => oBp lb_8 X8.here hx rfl (hb hby at_78) k) ?_
          refine oS (fun t k => XS.icmpNo X8.here hx rfl (hb hby at_80) rfl (teq (Eq.symm hq8)).2 k) ?_
          obtain ⟨T9, X9, e9, st9⟩ := getS2 X8 hx hZ hown (host := "") (Or.inl (oW hw 11 rfl)) Via.refl e8 ((wS2 W).ext O0.2) (g := (mkF m 83 #[.val (.int p1), .val (.int p2), .val (.int (p2 &&& (3 : Int32))), .val (.int (p1 &&& (15 : Int32))), .val (.ref (w 2)), .unset] [])) rfl (hb hby at_83)
          refine oS (fun t k => st9 t k) ?_
          try clear st9 X8 e8
          refine oS (fun t k => XS.astore X9.here hx rfl (hb hby at_86) rfl rfl (l' := #[.val (.int p1), .val (.int p2), .val (.int (p2 &&& (3 : Int32))), .val (.int (p1 &&& (15 : Int32))), .val (.ref (w 2)), .val (.ref (w 2))]) rfl k) ?_
          refine oS (fun t k => XS.goto X9.here hx rfl (pc0 := 88) (pc' := 94) rfl (hb hby at_88) (by decide) (by decide) k) ?_
          refine oS (fun t k => XS.aload X9.here hx rfl (hb hby at_94) rfl rfl k) ?_
          show oG _ _ _ _ _ _ _ (T9.setTop (mkF m 96 #[.val (.int p1), .val (.int p2), .val (.int (p2 &&& (3 : Int32))), .val (.int (p1 &&& (15 : Int32))), .val (.ref (w 2)), .val (.ref (w 2))] [(.ref (w 2))]))
          refine oS (fun t k => XS.aload X9.here hx rfl (hb hby at_96) rfl rfl k) ?_
          refine oS (fun t k => Jvm.RoadKit.acmp (g := (mkF m 98 #[.val (.int p1), .val (.int p2), .val (.int (p2 &&& (3 : Int32))), .val (.int (p1 &&& (15 : Int32))), .val (.ref (w 2)), .val (.ref (w 2))] [(.ref (w 2)), (.ref (w 2))])) X9 hx rfl rfl rfl (pc0 := 98) (pc' := 101) (same := true) rfl (hb hby at_98) rfl (decide_eq_true rfl) (by decide) (by decide) k) ?_
          refine oS (fun t k => oIc li_1 X9.here hx rfl (hb hby at_101) k) ?_
          refine oS (fun t k => XS.goto X9.here hx rfl (pc0 := 102) (pc' := 106) rfl (hb hby at_102) (by decide) (by decide) k) ?_
          exact own_ret (v := some (.int 1)) X9 (fun h => by rw [Bd.returns] at h; cases h) Bd.notSynchronized (fun fs hr => retN X9 hx (t := .boolean) Bd.returns (by simp) (hb hby at_106) hr) (by rw [e9]; exact ⟨rfl, N8⟩) (by decide) (by decide)
        · obtain ⟨_, _, ⟨T10, L10, k10, n10⟩, -, X10, ⟨Lc10, hQ10, l10, y10, z10⟩, st10⟩ := Jvm.LawKit.callS X0 hx (y := mY0) hown (mvT hZ (oW hw 0 rfl)) (mvT hZ (oW hw 1 rfl)) (mvT hZ (oW hw 2 rfl)) (mvT hZ (oW hw 3 rfl)) (by decide) (backOf (W := 0) (rm_for_n l Z a0 hw [] (p1 &&& (15 : Int32)) w h0 n0 O0 W hq0 hq8) hZ (oW hw 3 rfl) (oW hw 2 rfl) (by decide) (by decide)) (g := (mkF m 60 #[.val (.int p1), .val (.int p2), .val (.int (p2 &&& (3 : Int32))), .val (.int (p1 &&& (15 : Int32))), .unset, .unset] [(.int (p1 &&& (15 : Int32)))])) rfl (by rw [hml]; rfl) (argsL := [(.int (p1 &&& (15 : Int32)))]) (rest := []) (lenOf pd_0 rfl) rfl (by show 2 * 0 + _ ≤ _; exact Nat.le_of_eq rfl) (hb hby at_60) (fun _ _ => ⟨rfl, e0, (by decide : 0 + 0 ≤ _), (by decide : 0 + 0 ≤ _)⟩)
          dsimp only [Pt.U, Pt.locs, Pt.cells, Pt.slots] at X10 l10 y10 z10 st10 hQ10
          subst l10 y10 z10
          obtain ⟨rfl, Nq10, e10⟩ := hQ10
          have N10 := Fr.app N0 Nq10
          refine oS (fun t k => st10 t k) ?_
          show oG _ _ _ _ _ _ _ (T10.setTop (mkF m 63 #[.val (.int p1), .val (.int p2), .val (.int (p2 &&& (3 : Int32))), .val (.int (p1 &&& (15 : Int32))), .unset, .unset] [.null]))
          try clear st10
          refine oS (fun t k => XS.astore X10.here hx rfl (hb hby at_63) rfl rfl (l' := #[.val (.int p1), .val (.int p2), .val (.int (p2 &&& (3 : Int32))), .val (.int (p1 &&& (15 : Int32))), .val .null, .unset]) rfl k) ?_
          refine oS (fun t k => XS.iloadN X10.here hx rfl (hb hby at_65) rfl k) ?_
          refine oS (fun t k => XS.ifYes X10.here hx rfl (pc0 := 66) (pc' := 77) rfl (hb hby at_66) rfl ((if0 _ _).trans (feq (fun q => hq0 (Eq.symm q))).2) (by decide) (by decide) k) ?_
          refine oS (fun t k => XS.iloadN X10.here hx rfl (hb hby at_77) rfl k) ?_
          refine oS (fun t k => oBp lb_8 X10.here hx rfl (hb hby at_78) k) ?_
          refine oS (fun t k => XS.icmpYes X10.here hx rfl (pc0 := 80) (pc' := 91) rfl (hb hby at_80) rfl (feq (fun q => hq8 (Eq.symm q))).2 (by decide) (by decide) k) ?_
          refine oS (fun t k => XS.aconstNull X10.here hx rfl (hb hby at_91) k) ?_
          refine oS (fun t k => XS.astore X10.here hx rfl (hb hby at_92) rfl rfl (l' := #[.val (.int p1), .val (.int p2), .val (.int (p2 &&& (3 : Int32))), .val (.int (p1 &&& (15 : Int32))), .val .null, .val .null]) rfl k) ?_
          refine oS (fun t k => XS.aload X10.here hx rfl (hb hby at_94) rfl rfl k) ?_
          refine oS (fun t k => XS.aload X10.here hx rfl (hb hby at_96) rfl rfl k) ?_
          show oG _ _ _ _ _ _ _ (T10.setTop (mkF m 98 #[.val (.int p1), .val (.int p2), .val (.int (p2 &&& (3 : Int32))), .val (.int (p1 &&& (15 : Int32))), .val .null, .val .null] [.null, .null]))
          refine oS (fun t k => Jvm.RoadKit.acmp (g := (mkF m 98 #[.val (.int p1), .val (.int p2), .val (.int (p2 &&& (3 : Int32))), .val (.int (p1 &&& (15 : Int32))), .val .null, .val .null] [.null, .null])) X10 hx rfl rfl rfl (pc0 := 98) (pc' := 101) (same := true) rfl (hb hby at_98) rfl (decide_eq_true rfl) (by decide) (by decide) k) ?_
          refine oS (fun t k => oIc li_1 X10.here hx rfl (hb hby at_101) k) ?_
          refine oS (fun t k => XS.goto X10.here hx rfl (pc0 := 102) (pc' := 106) rfl (hb hby at_102) (by decide) (by decide) k) ?_
          exact own_ret (v := some (.int 1)) X10 (fun h => by rw [Bd.returns] at h; cases h) Bd.notSynchronized (fun fs hr => retN X10 hx (t := .boolean) Bd.returns (by simp) (hb hby at_106) hr) (by rw [e10]; exact ⟨rfl, N10⟩) (by decide) (by decide)
    · refine oS (fun t k => XS.icmpYes X0.here hx rfl (pc0 := 15) (pc' := 26) rfl (hb hby at_15) rfl (feq hc15).2 (by decide) (by decide) k) ?_
      refine oS (fun t k => XS.iloadN X0.here hx rfl (hb hby at_26) rfl k) ?_
      show oG _ _ _ _ _ _ _ (s₁.setTop (mkF m 27 #[.val (.int p1), .val (.int p2), .val (.int (p2 &&& (3 : Int32))), .unset, .unset, .unset] [(.int (p2 &&& (3 : Int32)))]))
      refine oS (fun t k => oIc li_2 X0.here hx rfl (hb hby at_27) k) ?_
      by_cases hc28 : (p2 &&& (3 : Int32)) = (2 : Int32)
      · refine oS (fun t k => XS.icmpNo X0.here hx rfl (hb hby at_28) rfl (teq hc28).2 k) ?_
        refine oS (fun t k => XS.iloadN X0.here hx rfl (hb hby at_31) rfl k) ?_
        refine oS (fun t k => oIc li_3 X0.here hx rfl (hb hby at_32) k) ?_
        refine oS (fun t k => XS.iand X0.here hx rfl (hb hby at_33) rfl k) ?_
        refine oS (fun t k => oIc li_1 X0.here hx rfl (hb hby at_34) k) ?_
        refine oS (fun t k => XS.isub X0.here hx rfl (hb hby at_35) rfl k) ?_
        refine oS (fun t k => XS.iloadN X0.here hx rfl (hb hby at_36) rfl k) ?_
        refine oS (fun t k => oIc li_4 X0.here hx rfl (hb hby at_37) k) ?_
        refine oS (fun t k => XS.iand X0.here hx rfl (hb hby at_38) rfl k) ?_
        show oG _ _ _ _ _ _ _ (s₁.setTop (mkF m 39 #[.val (.int p1), .val (.int p2), .val (.int (p2 &&& (3 : Int32))), .unset, .unset, .unset] [(.int (p1 &&& (4 : Int32))), (.int ((p1 &&& (3 : Int32)) - (1 : Int32)))]))
        by_cases hc39 : (p1 &&& (4 : Int32)) = (0 : Int32)
        · refine oS (fun t k => XS.ifYes X0.here hx rfl (pc0 := 39) (pc' := 47) rfl (hb hby at_39) rfl ((if0 _ _).trans (teq hc39).1) (by decide) (by decide) k) ?_
          refine oS (fun t k => oIc li_0 X0.here hx rfl (hb hby at_47) k) ?_
          refine oS (fun t k => XS.iadd X0.here hx rfl (hb hby at_48) rfl k) ?_
          refine oS (fun t k => XS.istoreN X0.here hx rfl (hb hby at_49) rfl (l' := #[.val (.int p1), .val (.int p2), .val (.int (p2 &&& (3 : Int32))), .val (.int (((p1 &&& (3 : Int32)) - (1 : Int32)) + (0 : Int32))), .unset, .unset]) rfl k) ?_
          refine oS (fun t k => XS.goto X0.here hx rfl (pc0 := 50) (pc' := 59) rfl (hb hby at_50) (by decide) (by decide) k) ?_
          refine oS (fun t k => XS.iloadN X0.here hx rfl (hb hby at_59) rfl k) ?_
          by_cases hq0 : (0 : Int32) = (((p1 &&& (3 : Int32)) - (1 : Int32)) + (0 : Int32))
          · obtain ⟨_, _, ⟨T11, L11, k11, n11⟩, -, X11, ⟨Lc11, hQ11, l11, y11, z11⟩, st11⟩ := Jvm.LawKit.callS X0 hx (y := mY0) hown (mvT hZ (oW hw 0 rfl)) (mvT hZ (oW hw 1 rfl)) (mvT hZ (oW hw 2 rfl)) (mvT hZ (oW hw 3 rfl)) (by decide) (backOf (W := 0) (rm_for_0 l Z a0 hw [] (((p1 &&& (3 : Int32)) - (1 : Int32)) + (0 : Int32)) w h0 n0 O0 W hq0) hZ (oW hw 3 rfl) (oW hw 2 rfl) (by decide) (by decide)) (g := (mkF m 60 #[.val (.int p1), .val (.int p2), .val (.int (p2 &&& (3 : Int32))), .val (.int (((p1 &&& (3 : Int32)) - (1 : Int32)) + (0 : Int32))), .unset, .unset] [(.int (((p1 &&& (3 : Int32)) - (1 : Int32)) + (0 : Int32)))])) rfl (by rw [hml]; rfl) (argsL := [(.int (((p1 &&& (3 : Int32)) - (1 : Int32)) + (0 : Int32)))]) (rest := []) (lenOf pd_0 rfl) rfl (by show 2 * 0 + _ ≤ _; exact Nat.le_of_eq rfl) (hb hby at_60) (fun _ _ => ⟨rfl, e0, (by decide : 0 + 0 ≤ _), (by decide : 0 + 0 ≤ _)⟩)
            dsimp only [Pt.U, Pt.locs, Pt.cells, Pt.slots] at X11 l11 y11 z11 st11 hQ11
            subst l11 y11 z11
            obtain ⟨rfl, Nq11, e11⟩ := hQ11
            have N11 := Fr.app N0 Nq11
            refine oS (fun t k => st11 t k) ?_
            show oG _ _ _ _ _ _ _ (T11.setTop (mkF m 63 #[.val (.int p1), .val (.int p2), .val (.int (p2 &&& (3 : Int32))), .val (.int (((p1 &&& (3 : Int32)) - (1 : Int32)) + (0 : Int32))), .unset, .unset] [(.ref (w 1))]))
            try clear st11
            refine oS (fun t k => XS.astore X11.here hx rfl (hb hby at_63) rfl rfl (l' := #[.val (.int p1), .val (.int p2), .val (.int (p2 &&& (3 : Int32))), .val (.int (((p1 &&& (3 : Int32)) - (1 : Int32)) + (0 : Int32))), .val (.ref (w 1)), .unset]) rfl k) ?_
            refine oS (fun t k => XS.iloadN X11.here hx rfl (hb hby at_65) rfl k) ?_
            refine oS (fun t k => XS.ifNo X11.here hx rfl (hb hby at_66) rfl ((if0 _ _).trans (teq (Eq.symm hq0)).2) k) ?_
            obtain ⟨T12, X12, e12, st12⟩ := getS2 X11 hx hZ hown (host := "") (Or.inl (oW hw 9 rfl)) Via.refl e11 ((wS1 W).ext O0.2) (g := (mkF m 69 #[.val (.int p1), .val (.int p2), .val (.int (p2 &&& (3 : Int32))), .val (.int (((p1 &&& (3 : Int32)) - (1 : Int32)) + (0 : Int32))), .val (.ref (w 1)), .unset] [])) rfl (hb hby at_69)
            refine oS (fun t k => st12 t k) ?_
            try clear st12 X11 e11
            refine oS (fun t k => XS.astore X12.here hx rfl (hb hby at_72) rfl rfl (l' := #[.val (.int p1), .val (.int p2), .val (.int (p2 &&& (3 : Int32))), .val (.int (((p1 &&& (3 : Int32)) - (1 : Int32)) + (0 : Int32))), .val (.ref (w 1)), .val (.ref (w 1))]) rfl k) ?_
            refine oS (fun t k => XS.goto X12.here hx rfl (pc0 := 74) (pc' := 94) rfl (hb hby at_74) (by decide) (by decide) k) ?_
            refine oS (fun t k => XS.aload X12.here hx rfl (hb hby at_94) rfl rfl k) ?_
            refine oS (fun t k => XS.aload X12.here hx rfl (hb hby at_96) rfl rfl k) ?_
            refine oS (fun t k => Jvm.RoadKit.acmp (g := (mkF m 98 #[.val (.int p1), .val (.int p2), .val (.int (p2 &&& (3 : Int32))), .val (.int (((p1 &&& (3 : Int32)) - (1 : Int32)) + (0 : Int32))), .val (.ref (w 1)), .val (.ref (w 1))] [(.ref (w 1)), (.ref (w 1))])) X12 hx rfl rfl rfl (pc0 := 98) (pc' := 101) (same := true) rfl (hb hby at_98) rfl (decide_eq_true rfl) (by decide) (by decide) k) ?_
            refine oS (fun t k => oIc li_1 X12.here hx rfl (hb hby at_101) k) ?_
            show oG _ _ _ _ _ _ _ (T12.setTop (mkF m 102 #[.val (.int p1), .val (.int p2), .val (.int (p2 &&& (3 : Int32))), .val (.int (((p1 &&& (3 : Int32)) - (1 : Int32)) + (0 : Int32))), .val (.ref (w 1)), .val (.ref (w 1))] [(.int 1)]))
            refine oS (fun t k => XS.goto X12.here hx rfl (pc0 := 102) (pc' := 106) rfl (hb hby at_102) (by decide) (by decide) k) ?_
            exact own_ret (v := some (.int 1)) X12 (fun h => by rw [Bd.returns] at h; cases h) Bd.notSynchronized (fun fs hr => retN X12 hx (t := .boolean) Bd.returns (by simp) (hb hby at_106) hr) (by rw [e12]; exact ⟨rfl, N11⟩) (by decide) (by decide)
          · by_cases hq8 : (8 : Int32) = (((p1 &&& (3 : Int32)) - (1 : Int32)) + (0 : Int32))
            · obtain ⟨_, _, ⟨T13, L13, k13, n13⟩, -, X13, ⟨Lc13, hQ13, l13, y13, z13⟩, st13⟩ := Jvm.LawKit.callS X0 hx (y := mY0) hown (mvT hZ (oW hw 0 rfl)) (mvT hZ (oW hw 1 rfl)) (mvT hZ (oW hw 2 rfl)) (mvT hZ (oW hw 3 rfl)) (by decide) (backOf (W := 0) (rm_for_8 l Z a0 hw [] (((p1 &&& (3 : Int32)) - (1 : Int32)) + (0 : Int32)) w h0 n0 O0 W hq0 hq8) hZ (oW hw 3 rfl) (oW hw 2 rfl) (by decide) (by decide)) (g := (mkF m 60 #[.val (.int p1), .val (.int p2), .val (.int (p2 &&& (3 : Int32))), .val (.int (((p1 &&& (3 : Int32)) - (1 : Int32)) + (0 : Int32))), .unset, .unset] [(.int (((p1 &&& (3 : Int32)) - (1 : Int32)) + (0 : Int32)))])) rfl (by rw [hml]; rfl) (argsL := [(.int (((p1 &&& (3 : Int32)) - (1 : Int32)) + (0 : Int32)))]) (rest := []) (lenOf pd_0 rfl) rfl (by show 2 * 0 + _ ≤ _; exact Nat.le_of_eq rfl) (hb hby at_60) (fun _ _ => ⟨rfl, e0, (by decide : 0 + 0 ≤ _), (by decide : 0 + 0 ≤ _)⟩)
              dsimp only [Pt.U, Pt.locs, Pt.cells, Pt.slots] at X13 l13 y13 z13 st13 hQ13
              subst l13 y13 z13
              obtain ⟨rfl, Nq13, e13⟩ := hQ13
              have N13 := Fr.app N0 Nq13
              refine oS (fun t k => st13 t k) ?_
              show oG _ _ _ _ _ _ _ (T13.setTop (mkF m 63 #[.val (.int p1), .val (.int p2), .val (.int (p2 &&& (3 : Int32))), .val (.int (((p1 &&& (3 : Int32)) - (1 : Int32)) + (0 : Int32))), .unset, .unset] [(.ref (w 2))]))
              try clear st13
              refine oS (fun t k => XS.astore X13.here hx rfl (hb hby at_63) rfl rfl (l' := #[.val (.int p1), .val (.int p2), .val (.int (p2 &&& (3 : Int32))), .val (.int (((p1 &&& (3 : Int32)) - (1 : Int32)) + (0 : Int32))), .val (.ref (w 2)), .unset]) rfl k) ?_
              refine oS (fun t k => XS.iloadN X13.here hx rfl (hb hby at_65) rfl k) ?_
              refine oS (fun t k => XS.ifYes X13.here hx rfl (pc0 := 66) (pc' := 77) rfl (hb hby at_66) rfl ((if0 _ _).trans (feq (fun q => hq0 (Eq.symm q))).2) (by decide) (by decide) k) ?_
              refine oS (fun t k => XS.iloadN X13.here hx rfl (hb hby at_77) rfl k) ?_
              refine oS (fun t k => oBp lb_8 X13.here hx rfl (hb hby at_78) k) ?_
              refine oS (fun t k => XS.icmpNo X13.here hx rfl (hb hby at_80) rfl (teq (Eq.symm hq8)).2 k) ?_
              obtain ⟨T14, X14, e14, st14⟩ := getS2 X13 hx hZ hown (host := "") (Or.inl (oW hw 11 rfl)) Via.refl e13 ((wS2 W).ext O0.2) (g := (mkF m 83 #[.val (.int p1), .val (.int p2), .val (.int (p2 &&& (3 : Int32))), .val (.int (((p1 &&& (3 : Int32)) - (1 : Int32)) + (0 : Int32))), .val (.ref (w 2)), .unset] [])) rfl (hb hby at_83)
              refine oS (fun t k => st14 t k) ?_
              try clear st14 X13 e13
              refine oS (fun t k => XS.astore X14.here hx rfl (hb hby at_86) rfl rfl (l' := #[.val (.int p1), .val (.int p2), .val (.int (p2 &&& (3 : Int32))), .val (.int (((p1 &&& (3 : Int32)) - (1 : Int32)) + (0 : Int32))), .val (.ref (w 2)), .val (.ref (w 2))]) rfl k) ?_
              refine oS (fun t k => XS.goto X14.here hx rfl (pc0 := 88) (pc' := 94) rfl (hb hby at_88) (by decide) (by decide) k) ?_
              refine oS (fun t k => XS.aload X14.here hx rfl (hb hby at_94) rfl rfl k) ?_
              show oG _ _ _ _ _ _ _ (T14.setTop (mkF m 96 #[.val (.int p1), .val (.int p2), .val (.int (p2 &&& (3 : Int32))), .val (.int (((p1 &&& (3 : Int32)) - (1 : Int32)) + (0 : Int32))), .val (.ref (w 2)), .val (.ref (w 2))] [(.ref (w 2))]))
              refine oS (fun t k => XS.aload X14.here hx rfl (hb hby at_96) rfl rfl k) ?_
              refine oS (fun t k => Jvm.RoadKit.acmp (g := (mkF m 98 #[.val (.int p1), .val (.int p2), .val (.int (p2 &&& (3 : Int32))), .val (.int (((p1 &&& (3 : Int32)) - (1 : Int32)) + (0 : Int32))), .val (.ref (w 2)), .val (.ref (w 2))] [(.ref (w 2)), (.ref (w 2))])) X14 hx rfl rfl rfl (pc0 := 98) (pc' := 101) (same := true) rfl (hb hby at_98) rfl (decide_eq_true rfl) (by decide) (by decide) k) ?_
              refine oS (fun t k => oIc li_1 X14.here hx rfl (hb hby at_101) k) ?_
              refine oS (fun t k => XS.goto X14.here hx rfl (pc0 := 102) (pc' := 106) rfl (hb hby at_102) (by decide) (by decide) k) ?_
              exact own_ret (v := some (.int 1)) X14 (fun h => by rw [Bd.returns] at h; cases h) Bd.notSynchronized (fun fs hr => retN X14 hx (t := .boolean) Bd.returns (by simp) (hb hby at_106) hr) (by rw [e14]; exact ⟨rfl, N13⟩) (by decide) (by decide)
            · obtain ⟨_, _, ⟨T15, L15, k15, n15⟩, -, X15, ⟨Lc15, hQ15, l15, y15, z15⟩, st15⟩ := Jvm.LawKit.callS X0 hx (y := mY0) hown (mvT hZ (oW hw 0 rfl)) (mvT hZ (oW hw 1 rfl)) (mvT hZ (oW hw 2 rfl)) (mvT hZ (oW hw 3 rfl)) (by decide) (backOf (W := 0) (rm_for_n l Z a0 hw [] (((p1 &&& (3 : Int32)) - (1 : Int32)) + (0 : Int32)) w h0 n0 O0 W hq0 hq8) hZ (oW hw 3 rfl) (oW hw 2 rfl) (by decide) (by decide)) (g := (mkF m 60 #[.val (.int p1), .val (.int p2), .val (.int (p2 &&& (3 : Int32))), .val (.int (((p1 &&& (3 : Int32)) - (1 : Int32)) + (0 : Int32))), .unset, .unset] [(.int (((p1 &&& (3 : Int32)) - (1 : Int32)) + (0 : Int32)))])) rfl (by rw [hml]; rfl) (argsL := [(.int (((p1 &&& (3 : Int32)) - (1 : Int32)) + (0 : Int32)))]) (rest := []) (lenOf pd_0 rfl) rfl (by show 2 * 0 + _ ≤ _; exact Nat.le_of_eq rfl) (hb hby at_60) (fun _ _ => ⟨rfl, e0, (by decide : 0 + 0 ≤ _), (by decide : 0 + 0 ≤ _)⟩)
              dsimp only [Pt.U, Pt.locs, Pt.cells, Pt.slots] at X15 l15 y15 z15 st15 hQ15
              subst l15 y15 z15
              obtain ⟨rfl, Nq15, e15⟩ := hQ15
              have N15 := Fr.app N0 Nq15
              refine oS (fun t k => st15 t k) ?_
              show oG _ _ _ _ _ _ _ (T15.setTop (mkF m 63 #[.val (.int p1), .val (.int p2), .val (.int (p2 &&& (3 : Int32))), .val (.int (((p1 &&& (3 : Int32)) - (1 : Int32)) + (0 : Int32))), .unset, .unset] [.null]))
              try clear st15
              refine oS (fun t k => XS.astore X15.here hx rfl (hb hby at_63) rfl rfl (l' := #[.val (.int p1), .val (.int p2), .val (.int (p2 &&& (3 : Int32))), .val (.int (((p1 &&& (3 : Int32)) - (1 : Int32)) + (0 : Int32))), .val .null, .unset]) rfl k) ?_
              refine oS (fun t k => XS.iloadN X15.here hx rfl (hb hby at_65) rfl k) ?_
              refine oS (fun t k => XS.ifYes X15.here hx rfl (pc0 := 66) (pc' := 77) rfl (hb hby at_66) rfl ((if0 _ _).trans (feq (fun q => hq0 (Eq.symm q))).2) (by decide) (by decide) k) ?_
              refine oS (fun t k => XS.iloadN X15.here hx rfl (hb hby at_77) rfl k) ?_
              refine oS (fun t k => oBp lb_8 X15.here hx rfl (hb hby at_78) k) ?_
              refine oS (fun t k => XS.icmpYes X15.here hx rfl (pc0 := 80) (pc' := 91) rfl (hb hby at_80) rfl (feq (fun q => hq8 (Eq.symm q))).2 (by decide) (by decide) k) ?_
              refine oS (fun t k => XS.aconstNull X15.here hx rfl (hb hby at_91) k) ?_
              refine oS (fun t k => XS.astore X15.here hx rfl (hb hby at_92) rfl rfl (l' := #[.val (.int p1), .val (.int p2), .val (.int (p2 &&& (3 : Int32))), .val (.int (((p1 &&& (3 : Int32)) - (1 : Int32)) + (0 : Int32))), .val .null, .val .null]) rfl k) ?_
              refine oS (fun t k => XS.aload X15.here hx rfl (hb hby at_94) rfl rfl k) ?_
              refine oS (fun t k => XS.aload X15.here hx rfl (hb hby at_96) rfl rfl k) ?_
              show oG _ _ _ _ _ _ _ (T15.setTop (mkF m 98 #[.val (.int p1), .val (.int p2), .val (.int (p2 &&& (3 : Int32))), .val (.int (((p1 &&& (3 : Int32)) - (1 : Int32)) + (0 : Int32))), .val .null, .val .null] [.null, .null]))
              refine oS (fun t k => Jvm.RoadKit.acmp (g := (mkF m 98 #[.val (.int p1), .val (.int p2), .val (.int (p2 &&& (3 : Int32))), .val (.int (((p1 &&& (3 : Int32)) - (1 : Int32)) + (0 : Int32))), .val .null, .val .null] [.null, .null])) X15 hx rfl rfl rfl (pc0 := 98) (pc' := 101) (same := true) rfl (hb hby at_98) rfl (decide_eq_true rfl) (by decide) (by decide) k) ?_
              refine oS (fun t k => oIc li_1 X15.here hx rfl (hb hby at_101) k) ?_
              refine oS (fun t k => XS.goto X15.here hx rfl (pc0 := 102) (pc' := 106) rfl (hb hby at_102) (by decide) (by decide) k) ?_
              exact own_ret (v := some (.int 1)) X15 (fun h => by rw [Bd.returns] at h; cases h) Bd.notSynchronized (fun fs hr => retN X15 hx (t := .boolean) Bd.returns (by simp) (hb hby at_106) hr) (by rw [e15]; exact ⟨rfl, N15⟩) (by decide) (by decide)
        · refine oS (fun t k => XS.ifNo X0.here hx rfl (hb hby at_39) rfl ((if0 _ _).trans (feq hc39).1) k) ?_
          refine oS (fun t k => oBp lb_8 X0.here hx rfl (hb hby at_42) k) ?_
          refine oS (fun t k => XS.goto X0.here hx rfl (pc0 := 44) (pc' := 48) rfl (hb hby at_44) (by decide) (by decide) k) ?_
          refine oS (fun t k => XS.iadd X0.here hx rfl (hb hby at_48) rfl k) ?_
          refine oS (fun t k => XS.istoreN X0.here hx rfl (hb hby at_49) rfl (l' := #[.val (.int p1), .val (.int p2), .val (.int (p2 &&& (3 : Int32))), .val (.int (((p1 &&& (3 : Int32)) - (1 : Int32)) + (8 : Int32))), .unset, .unset]) rfl k) ?_
          refine oS (fun t k => XS.goto X0.here hx rfl (pc0 := 50) (pc' := 59) rfl (hb hby at_50) (by decide) (by decide) k) ?_
          refine oS (fun t k => XS.iloadN X0.here hx rfl (hb hby at_59) rfl k) ?_
          by_cases hq0 : (0 : Int32) = (((p1 &&& (3 : Int32)) - (1 : Int32)) + (8 : Int32))
          · obtain ⟨_, _, ⟨T16, L16, k16, n16⟩, -, X16, ⟨Lc16, hQ16, l16, y16, z16⟩, st16⟩ := Jvm.LawKit.callS X0 hx (y := mY0) hown (mvT hZ (oW hw 0 rfl)) (mvT hZ (oW hw 1 rfl)) (mvT hZ (oW hw 2 rfl)) (mvT hZ (oW hw 3 rfl)) (by decide) (backOf (W := 0) (rm_for_0 l Z a0 hw [] (((p1 &&& (3 : Int32)) - (1 : Int32)) + (8 : Int32)) w h0 n0 O0 W hq0) hZ (oW hw 3 rfl) (oW hw 2 rfl) (by decide) (by decide)) (g := (mkF m 60 #[.val (.int p1), .val (.int p2), .val (.int (p2 &&& (3 : Int32))), .val (.int (((p1 &&& (3 : Int32)) - (1 : Int32)) + (8 : Int32))), .unset, .unset] [(.int (((p1 &&& (3 : Int32)) - (1 : Int32)) + (8 : Int32)))])) rfl (by rw [hml]; rfl) (argsL := [(.int (((p1 &&& (3 : Int32)) - (1 : Int32)) + (8 : Int32)))]) (rest := []) (lenOf pd_0 rfl) rfl (by show 2 * 0 + _ ≤ _; exact Nat.le_of_eq rfl) (hb hby at_60) (fun _ _ => ⟨rfl, e0, (by decide : 0 + 0 ≤ _), (by decide : 0 + 0 ≤ _)⟩)
            dsimp only [Pt.U, Pt.locs, Pt.cells, Pt.slots] at X16 l16 y16 z16 st16 hQ16
            subst l16 y16 z16
            obtain ⟨rfl, Nq16, e16⟩ := hQ16
            have N16 := Fr.app N0 Nq16
            refine oS (fun t k => st16 t k) ?_
            show oG _ _ _ _ _ _ _ (T16.setTop (mkF m 63 #[.val (.int p1), .val (.int p2), .val (.int (p2 &&& (3 : Int32))), .val (.int (((p1 &&& (3 : Int32)) - (1 : Int32)) + (8 : Int32))), .unset, .unset] [(.ref (w 1))]))
            try clear st16
            refine oS (fun t k => XS.astore X16.here hx rfl (hb hby at_63) rfl rfl (l' := #[.val (.int p1), .val (.int p2), .val (.int (p2 &&& (3 : Int32))), .val (.int (((p1 &&& (3 : Int32)) - (1 : Int32)) + (8 : Int32))), .val (.ref (w 1)), .unset]) rfl k) ?_
            refine oS (fun t k => XS.iloadN X16.here hx rfl (hb hby at_65) rfl k) ?_
            refine oS (fun t k => XS.ifNo X16.here hx rfl (hb hby at_66) rfl ((if0 _ _).trans (teq (Eq.symm hq0)).2) k) ?_
            obtain ⟨T17, X17, e17, st17⟩ := getS2 X16 hx hZ hown (host := "") (Or.inl (oW hw 9 rfl)) Via.refl e16 ((wS1 W).ext O0.2) (g := (mkF m 69 #[.val (.int p1), .val (.int p2), .val (.int (p2 &&& (3 : Int32))), .val (.int (((p1 &&& (3 : Int32)) - (1 : Int32)) + (8 : Int32))), .val (.ref (w 1)), .unset] [])) rfl (hb hby at_69)
            refine oS (fun t k => st17 t k) ?_
            try clear st17 X16 e16
            refine oS (fun t k => XS.astore X17.here hx rfl (hb hby at_72) rfl rfl (l' := #[.val (.int p1), .val (.int p2), .val (.int (p2 &&& (3 : Int32))), .val (.int (((p1 &&& (3 : Int32)) - (1 : Int32)) + (8 : Int32))), .val (.ref (w 1)), .val (.ref (w 1))]) rfl k) ?_
            refine oS (fun t k => XS.goto X17.here hx rfl (pc0 := 74) (pc' := 94) rfl (hb hby at_74) (by decide) (by decide) k) ?_
            refine oS (fun t k => XS.aload X17.here hx rfl (hb hby at_94) rfl rfl k) ?_
            refine oS (fun t k => XS.aload X17.here hx rfl (hb hby at_96) rfl rfl k) ?_
            refine oS (fun t k => Jvm.RoadKit.acmp (g := (mkF m 98 #[.val (.int p1), .val (.int p2), .val (.int (p2 &&& (3 : Int32))), .val (.int (((p1 &&& (3 : Int32)) - (1 : Int32)) + (8 : Int32))), .val (.ref (w 1)), .val (.ref (w 1))] [(.ref (w 1)), (.ref (w 1))])) X17 hx rfl rfl rfl (pc0 := 98) (pc' := 101) (same := true) rfl (hb hby at_98) rfl (decide_eq_true rfl) (by decide) (by decide) k) ?_
            refine oS (fun t k => oIc li_1 X17.here hx rfl (hb hby at_101) k) ?_
            show oG _ _ _ _ _ _ _ (T17.setTop (mkF m 102 #[.val (.int p1), .val (.int p2), .val (.int (p2 &&& (3 : Int32))), .val (.int (((p1 &&& (3 : Int32)) - (1 : Int32)) + (8 : Int32))), .val (.ref (w 1)), .val (.ref (w 1))] [(.int 1)]))
            refine oS (fun t k => XS.goto X17.here hx rfl (pc0 := 102) (pc' := 106) rfl (hb hby at_102) (by decide) (by decide) k) ?_
            exact own_ret (v := some (.int 1)) X17 (fun h => by rw [Bd.returns] at h; cases h) Bd.notSynchronized (fun fs hr => retN X17 hx (t := .boolean) Bd.returns (by simp) (hb hby at_106) hr) (by rw [e17]; exact ⟨rfl, N16⟩) (by decide) (by decide)
          · by_cases hq8 : (8 : Int32) = (((p1 &&& (3 : Int32)) - (1 : Int32)) + (8 : Int32))
            · obtain ⟨_, _, ⟨T18, L18, k18, n18⟩, -, X18, ⟨Lc18, hQ18, l18, y18, z18⟩, st18⟩ := Jvm.LawKit.callS X0 hx (y := mY0) hown (mvT hZ (oW hw 0 rfl)) (mvT hZ (oW hw 1 rfl)) (mvT hZ (oW hw 2 rfl)) (mvT hZ (oW hw 3 rfl)) (by decide) (backOf (W := 0) (rm_for_8 l Z a0 hw [] (((p1 &&& (3 : Int32)) - (1 : Int32)) + (8 : Int32)) w h0 n0 O0 W hq0 hq8) hZ (oW hw 3 rfl) (oW hw 2 rfl) (by decide) (by decide)) (g := (mkF m 60 #[.val (.int p1), .val (.int p2), .val (.int (p2 &&& (3 : Int32))), .val (.int (((p1 &&& (3 : Int32)) - (1 : Int32)) + (8 : Int32))), .unset, .unset] [(.int (((p1 &&& (3 : Int32)) - (1 : Int32)) + (8 : Int32)))])) rfl (by rw [hml]; rfl) (argsL := [(.int (((p1 &&& (3 : Int32)) - (1 : Int32)) + (8 : Int32)))]) (rest := []) (lenOf pd_0 rfl) rfl (by show 2 * 0 + _ ≤ _; exact Nat.le_of_eq rfl) (hb hby at_60) (fun _ _ => ⟨rfl, e0, (by decide : 0 + 0 ≤ _), (by decide : 0 + 0 ≤ _)⟩)
              dsimp only [Pt.U, Pt.locs, Pt.cells, Pt.slots] at X18 l18 y18 z18 st18 hQ18
              subst l18 y18 z18
              obtain ⟨rfl, Nq18, e18⟩ := hQ18
              have N18 := Fr.app N0 Nq18
              refine oS (fun t k => st18 t k) ?_
              show oG _ _ _ _ _ _ _ (T18.setTop (mkF m 63 #[.val (.int p1), .val (.int p2), .val (.int (p2 &&& (3 : Int32))), .val (.int (((p1 &&& (3 : Int32)) - (1 : Int32)) + (8 : Int32))), .unset, .unset] [(.ref (w 2))]))
              try clear st18
              refine oS (fun t k => XS.astore X18.here hx rfl (hb hby at_63) rfl rfl (l' := #[.val (.int p1), .val (.int p2), .val (.int (p2 &&& (3 : Int32))), .val (.int (((p1 &&& (3 : Int32)) - (1 : Int32)) + (8 : Int32))), .val (.ref (w 2)), .unset]) rfl k) ?_
              refine oS (fun t k => XS.iloadN X18.here hx rfl (hb hby at_65) rfl k) ?_
              refine oS (fun t k => XS.ifYes X18.here hx rfl (pc0 := 66) (pc' := 77) rfl (hb hby at_66) rfl ((if0 _ _).trans (feq (fun q => hq0 (Eq.symm q))).2) (by decide) (by decide) k) ?_
              refine oS (fun t k => XS.iloadN X18.here hx rfl (hb hby at_77) rfl k) ?_
              refine oS (fun t k => oBp lb_8 X18.here hx rfl (hb hby at_78) k) ?_
              refine oS (fun t k => XS.icmpNo X18.here hx rfl (hb hby at_80) rfl (teq (Eq.symm hq8)).2 k) ?_
              obtain ⟨T19, X19, e19, st19⟩ := getS2 X18 hx hZ hown (host := "") (Or.inl (oW hw 11 rfl)) Via.refl e18 ((wS2 W).ext O0.2) (g := (mkF m 83 #[.val (.int p1), .val (.int p2), .val (.int (p2 &&& (3 : Int32))), .val (.int (((p1 &&& (3 : Int32)) - (1 : Int32)) + (8 : Int32))), .val (.ref (w 2)), .unset] [])) rfl (hb hby at_83)
              refine oS (fun t k => st19 t k) ?_
              try clear st19 X18 e18
              refine oS (fun t k => XS.astore X19.here hx rfl (hb hby at_86) rfl rfl (l' := #[.val (.int p1), .val (.int p2), .val (.int (p2 &&& (3 : Int32))), .val (.int (((p1 &&& (3 : Int32)) - (1 : Int32)) + (8 : Int32))), .val (.ref (w 2)), .val (.ref (w 2))]) rfl k) ?_
              refine oS (fun t k => XS.goto X19.here hx rfl (pc0 := 88) (pc' := 94) rfl (hb hby at_88) (by decide) (by decide) k) ?_
              refine oS (fun t k => XS.aload X19.here hx rfl (hb hby at_94) rfl rfl k) ?_
              show oG _ _ _ _ _ _ _ (T19.setTop (mkF m 96 #[.val (.int p1), .val (.int p2), .val (.int (p2 &&& (3 : Int32))), .val (.int (((p1 &&& (3 : Int32)) - (1 : Int32)) + (8 : Int32))), .val (.ref (w 2)), .val (.ref (w 2))] [(.ref (w 2))]))
              refine oS (fun t k => XS.aload X19.here hx rfl (hb hby at_96) rfl rfl k) ?_
              refine oS (fun t k => Jvm.RoadKit.acmp (g := (mkF m 98 #[.val (.int p1), .val (.int p2), .val (.int (p2 &&& (3 : Int32))), .val (.int (((p1 &&& (3 : Int32)) - (1 : Int32)) + (8 : Int32))), .val (.ref (w 2)), .val (.ref (w 2))] [(.ref (w 2)), (.ref (w 2))])) X19 hx rfl rfl rfl (pc0 := 98) (pc' := 101) (same := true) rfl (hb hby at_98) rfl (decide_eq_true rfl) (by decide) (by decide) k) ?_
              refine oS (fun t k => oIc li_1 X19.here hx rfl (hb hby at_101) k) ?_
              refine oS (fun t k => XS.goto X19.here hx rfl (pc0 := 102) (pc' := 106) rfl (hb hby at_102) (by decide) (by decide) k) ?_
              exact own_ret (v := some (.int 1)) X19 (fun h => by rw [Bd.returns] at h; cases h) Bd.notSynchronized (fun fs hr => retN X19 hx (t := .boolean) Bd.returns (by simp) (hb hby at_106) hr) (by rw [e19]; exact ⟨rfl, N18⟩) (by decide) (by decide)
            · obtain ⟨_, _, ⟨T20, L20, k20, n20⟩, -, X20, ⟨Lc20, hQ20, l20, y20, z20⟩, st20⟩ := Jvm.LawKit.callS X0 hx (y := mY0) hown (mvT hZ (oW hw 0 rfl)) (mvT hZ (oW hw 1 rfl)) (mvT hZ (oW hw 2 rfl)) (mvT hZ (oW hw 3 rfl)) (by decide) (backOf (W := 0) (rm_for_n l Z a0 hw [] (((p1 &&& (3 : Int32)) - (1 : Int32)) + (8 : Int32)) w h0 n0 O0 W hq0 hq8) hZ (oW hw 3 rfl) (oW hw 2 rfl) (by decide) (by decide)) (g := (mkF m 60 #[.val (.int p1), .val (.int p2), .val (.int (p2 &&& (3 : Int32))), .val (.int (((p1 &&& (3 : Int32)) - (1 : Int32)) + (8 : Int32))), .unset, .unset] [(.int (((p1 &&& (3 : Int32)) - (1 : Int32)) + (8 : Int32)))])) rfl (by rw [hml]; rfl) (argsL := [(.int (((p1 &&& (3 : Int32)) - (1 : Int32)) + (8 : Int32)))]) (rest := []) (lenOf pd_0 rfl) rfl (by show 2 * 0 + _ ≤ _; exact Nat.le_of_eq rfl) (hb hby at_60) (fun _ _ => ⟨rfl, e0, (by decide : 0 + 0 ≤ _), (by decide : 0 + 0 ≤ _)⟩)
              dsimp only [Pt.U, Pt.locs, Pt.cells, Pt.slots] at X20 l20 y20 z20 st20 hQ20
              subst l20 y20 z20
              obtain ⟨rfl, Nq20, e20⟩ := hQ20
              have N20 := Fr.app N0 Nq20
              refine oS (fun t k => st20 t k) ?_
              show oG _ _ _ _ _ _ _ (T20.setTop (mkF m 63 #[.val (.int p1), .val (.int p2), .val (.int (p2 &&& (3 : Int32))), .val (.int (((p1 &&& (3 : Int32)) - (1 : Int32)) + (8 : Int32))), .unset, .unset] [.null]))
              try clear st20
              refine oS (fun t k => XS.astore X20.here hx rfl (hb hby at_63) rfl rfl (l' := #[.val (.int p1), .val (.int p2), .val (.int (p2 &&& (3 : Int32))), .val (.int (((p1 &&& (3 : Int32)) - (1 : Int32)) + (8 : Int32))), .val .null, .unset]) rfl k) ?_
              refine oS (fun t k => XS.iloadN X20.here hx rfl (hb hby at_65) rfl k) ?_
              refine oS (fun t k => XS.ifYes X20.here hx rfl (pc0 := 66) (pc' := 77) rfl (hb hby at_66) rfl ((if0 _ _).trans (feq (fun q => hq0 (Eq.symm q))).2) (by decide) (by decide) k) ?_
              refine oS (fun t k => XS.iloadN X20.here hx rfl (hb hby at_77) rfl k) ?_
              refine oS (fun t k => oBp lb_8 X20.here hx rfl (hb hby at_78) k) ?_
              refine oS (fun t k => XS.icmpYes X20.here hx rfl (pc0 := 80) (pc' := 91) rfl (hb hby at_80) rfl (feq (fun q => hq8 (Eq.symm q))).2 (by decide) (by decide) k) ?_
              refine oS (fun t k => XS.aconstNull X20.here hx rfl (hb hby at_91) k) ?_
              refine oS (fun t k => XS.astore X20.here hx rfl (hb hby at_92) rfl rfl (l' := #[.val (.int p1), .val (.int p2), .val (.int (p2 &&& (3 : Int32))), .val (.int (((p1 &&& (3 : Int32)) - (1 : Int32)) + (8 : Int32))), .val .null, .val .null]) rfl k) ?_
              refine oS (fun t k => XS.aload X20.here hx rfl (hb hby at_94) rfl rfl k) ?_
              refine oS (fun t k => XS.aload X20.here hx rfl (hb hby at_96) rfl rfl k) ?_
              show oG _ _ _ _ _ _ _ (T20.setTop (mkF m 98 #[.val (.int p1), .val (.int p2), .val (.int (p2 &&& (3 : Int32))), .val (.int (((p1 &&& (3 : Int32)) - (1 : Int32)) + (8 : Int32))), .val .null, .val .null] [.null, .null]))
              refine oS (fun t k => Jvm.RoadKit.acmp (g := (mkF m 98 #[.val (.int p1), .val (.int p2), .val (.int (p2 &&& (3 : Int32))), .val (.int (((p1 &&& (3 : Int32)) - (1 : Int32)) + (8 : Int32))), .val .null, .val .null] [.null, .null])) X20 hx rfl rfl rfl (pc0 := 98) (pc' := 101) (same := true) rfl (hb hby at_98) rfl (decide_eq_true rfl) (by decide) (by decide) k) ?_
              refine oS (fun t k => oIc li_1 X20.here hx rfl (hb hby at_101) k) ?_
              refine oS (fun t k => XS.goto X20.here hx rfl (pc0 := 102) (pc' := 106) rfl (hb hby at_102) (by decide) (by decide) k) ?_
              exact own_ret (v := some (.int 1)) X20 (fun h => by rw [Bd.returns] at h; cases h) Bd.notSynchronized (fun fs hr => retN X20 hx (t := .boolean) Bd.returns (by simp) (hb hby at_106) hr) (by rw [e20]; exact ⟨rfl, N20⟩) (by decide) (by decide)
      · refine oS (fun t k => XS.icmpYes X0.here hx rfl (pc0 := 28) (pc' := 53) rfl (hb hby at_28) rfl (feq hc28).2 (by decide) (by decide) k) ?_
        refine oS (fun t k => XS.iloadN X0.here hx rfl (hb hby at_53) rfl k) ?_
        refine oS (fun t k => oSp ls_m248 X0.here hx rfl (hb hby at_54) k) ?_
        refine oS (fun t k => XS.iand X0.here hx rfl (hb hby at_57) rfl k) ?_
        refine oS (fun t k => XS.istoreN X0.here hx rfl (hb hby at_58) rfl (l' := #[.val (.int p1), .val (.int p2), .val (.int (p2 &&& (3 : Int32))), .val (.int (p1 &&& (-248 : Int32))), .unset, .unset]) rfl k) ?_
        refine oS (fun t k => XS.iloadN X0.here hx rfl (hb hby at_59) rfl k) ?_
        by_cases hq0 : (0 : Int32) = (p1 &&& (-248 : Int32))
        · obtain ⟨_, _, ⟨T21, L21, k21, n21⟩, -, X21, ⟨Lc21, hQ21, l21, y21, z21⟩, st21⟩ := Jvm.LawKit.callS X0 hx (y := mY0) hown (mvT hZ (oW hw 0 rfl)) (mvT hZ (oW hw 1 rfl)) (mvT hZ (oW hw 2 rfl)) (mvT hZ (oW hw 3 rfl)) (by decide) (backOf (W := 0) (rm_for_0 l Z a0 hw [] (p1 &&& (-248 : Int32)) w h0 n0 O0 W hq0) hZ (oW hw 3 rfl) (oW hw 2 rfl) (by decide) (by decide)) (g := (mkF m 60 #[.val (.int p1), .val (.int p2), .val (.int (p2 &&& (3 : Int32))), .val (.int (p1 &&& (-248 : Int32))), .unset, .unset] [(.int (p1 &&& (-248 : Int32)))])) rfl (by rw [hml]; rfl) (argsL := [(.int (p1 &&& (-248 : Int32)))]) (rest := []) (lenOf pd_0 rfl) rfl (by show 2 * 0 + _ ≤ _; exact Nat.le_of_eq rfl) (hb hby at_60) (fun _ _ => ⟨rfl, e0, (by decide : 0 + 0 ≤ _), (by decide : 0 + 0 ≤ _)⟩)
          dsimp only [Pt.U, Pt.locs, Pt.cells, Pt.slots] at X21 l21 y21 z21 st21 hQ21
          subst l21 y21 z21
          obtain ⟨rfl, Nq21, e21⟩ := hQ21
          have N21 := Fr.app N0 Nq21
          refine oS (fun t k => st21 t k) ?_
          show oG _ _ _ _ _ _ _ (T21.setTop (mkF m 63 #[.val (.int p1), .val (.int p2), .val (.int (p2 &&& (3 : Int32))), .val (.int (p1 &&& (-248 : Int32))), .unset, .unset] [(.ref (w 1))]))
          try clear st21
          refine oS (fun t k => XS.astore X21.here hx rfl (hb hby at_63) rfl rfl (l' := #[.val (.int p1), .val (.int p2), .val (.int (p2 &&& (3 : Int32))), .val (.int (p1 &&& (-248 : Int32))), .val (.ref (w 1)), .unset]) rfl k) ?_
          refine oS (fun t k => XS.iloadN X21.here hx rfl (hb hby at_65) rfl k) ?_
          refine oS (fun t k => XS.ifNo X21.here hx rfl (hb hby at_66) rfl ((if0 _ _).trans (teq (Eq.symm hq0)).2) k) ?_
          obtain ⟨T22, X22, e22, st22⟩ := getS2 X21 hx hZ hown (host := "") (Or.inl (oW hw 9 rfl)) Via.refl e21 ((wS1 W).ext O0.2) (g := (mkF m 69 #[.val (.int p1), .val (.int p2), .val (.int (p2 &&& (3 : Int32))), .val (.int (p1 &&& (-248 : Int32))), .val (.ref (w 1)), .unset] [])) rfl (hb hby at_69)
          refine oS (fun t k => st22 t k) ?_
          try clear st22 X21 e21
          refine oS (fun t k => XS.astore X22.here hx rfl (hb hby at_72) rfl rfl (l' := #[.val (.int p1), .val (.int p2), .val (.int (p2 &&& (3 : Int32))), .val (.int (p1 &&& (-248 : Int32))), .val (.ref (w 1)), .val (.ref (w 1))]) rfl k) ?_
          refine oS (fun t k => XS.goto X22.here hx rfl (pc0 := 74) (pc' := 94) rfl (hb hby at_74) (by decide) (by decide) k) ?_
          refine oS (fun t k => XS.aload X22.here hx rfl (hb hby at_94) rfl rfl k) ?_
          refine oS (fun t k => XS.aload X22.here hx rfl (hb hby at_96) rfl rfl k) ?_
          refine oS (fun t k => Jvm.RoadKit.acmp (g := (mkF m 98 #[.val (.int p1), .val (.int p2), .val (.int (p2 &&& (3 : Int32))), .val (.int (p1 &&& (-248 : Int32))), .val (.ref (w 1)), .val (.ref (w 1))] [(.ref (w 1)), (.ref (w 1))])) X22 hx rfl rfl rfl (pc0 := 98) (pc' := 101) (same := true) rfl (hb hby at_98) rfl (decide_eq_true rfl) (by decide) (by decide) k) ?_
          refine oS (fun t k => oIc li_1 X22.here hx rfl (hb hby at_101) k) ?_
          show oG _ _ _ _ _ _ _ (T22.setTop (mkF m 102 #[.val (.int p1), .val (.int p2), .val (.int (p2 &&& (3 : Int32))), .val (.int (p1 &&& (-248 : Int32))), .val (.ref (w 1)), .val (.ref (w 1))] [(.int 1)]))
          refine oS (fun t k => XS.goto X22.here hx rfl (pc0 := 102) (pc' := 106) rfl (hb hby at_102) (by decide) (by decide) k) ?_
          exact own_ret (v := some (.int 1)) X22 (fun h => by rw [Bd.returns] at h; cases h) Bd.notSynchronized (fun fs hr => retN X22 hx (t := .boolean) Bd.returns (by simp) (hb hby at_106) hr) (by rw [e22]; exact ⟨rfl, N21⟩) (by decide) (by decide)
        · by_cases hq8 : (8 : Int32) = (p1 &&& (-248 : Int32))
          · obtain ⟨_, _, ⟨T23, L23, k23, n23⟩, -, X23, ⟨Lc23, hQ23, l23, y23, z23⟩, st23⟩ := Jvm.LawKit.callS X0 hx (y := mY0) hown (mvT hZ (oW hw 0 rfl)) (mvT hZ (oW hw 1 rfl)) (mvT hZ (oW hw 2 rfl)) (mvT hZ (oW hw 3 rfl)) (by decide) (backOf (W := 0) (rm_for_8 l Z a0 hw [] (p1 &&& (-248 : Int32)) w h0 n0 O0 W hq0 hq8) hZ (oW hw 3 rfl) (oW hw 2 rfl) (by decide) (by decide)) (g := (mkF m 60 #[.val (.int p1), .val (.int p2), .val (.int (p2 &&& (3 : Int32))), .val (.int (p1 &&& (-248 : Int32))), .unset, .unset] [(.int (p1 &&& (-248 : Int32)))])) rfl (by rw [hml]; rfl) (argsL := [(.int (p1 &&& (-248 : Int32)))]) (rest := []) (lenOf pd_0 rfl) rfl (by show 2 * 0 + _ ≤ _; exact Nat.le_of_eq rfl) (hb hby at_60) (fun _ _ => ⟨rfl, e0, (by decide : 0 + 0 ≤ _), (by decide : 0 + 0 ≤ _)⟩)
            dsimp only [Pt.U, Pt.locs, Pt.cells, Pt.slots] at X23 l23 y23 z23 st23 hQ23
            subst l23 y23 z23
            obtain ⟨rfl, Nq23, e23⟩ := hQ23
            have N23 := Fr.app N0 Nq23
            refine oS (fun t k => st23 t k) ?_
            show oG _ _ _ _ _ _ _ (T23.setTop (mkF m 63 #[.val (.int p1), .val (.int p2), .val (.int (p2 &&& (3 : Int32))), .val (.int (p1 &&& (-248 : Int32))), .unset, .unset] [(.ref (w 2))]))
            try clear st23
            refine oS (fun t k => XS.astore X23.here hx rfl (hb hby at_63) rfl rfl (l' := #[.val (.int p1), .val (.int p2), .val (.int (p2 &&& (3 : Int32))), .val (.int (p1 &&& (-248 : Int32))), .val (.ref (w 2)), .unset]) rfl k) ?_
            refine oS (fun t k => XS.iloadN X23.here hx rfl (hb hby at_65) rfl k) ?_
            refine oS (fun t k => XS.ifYes X23.here hx rfl (pc0 := 66) (pc' := 77) rfl (hb hby at_66) rfl ((if0 _ _).trans (feq (fun q => hq0 (Eq.symm q))).2) (by decide) (by decide) k) ?_
            refine oS (fun t k => XS.iloadN X23.here hx rfl (hb hby at_77) rfl k) ?_
            refine oS (fun t k => oBp lb_8 X23.here hx rfl (hb hby at_78) k) ?_
            refine oS (fun t k => XS.icmpNo X23.here hx rfl (hb hby at_80) rfl (teq (Eq.symm hq8)).2 k) ?_
            obtain ⟨T24, X24, e24, st24⟩ := getS2 X23 hx hZ hown (host := "") (Or.inl (oW hw 11 rfl)) Via.refl e23 ((wS2 W).ext O0.2) (g := (mkF m 83 #[.val (.int p1), .val (.int p2), .val (.int (p2 &&& (3 : Int32))), .val (.int (p1 &&& (-248 : Int32))), .val (.ref (w 2)), .unset] [])) rfl (hb hby at_83)
            refine oS (fun t k => st24 t k) ?_
            try clear st24 X23 e23
            refine oS (fun t k => XS.astore X24.here hx rfl (hb hby at_86) rfl rfl (l' := #[.val (.int p1), .val (.int p2), .val (.int (p2 &&& (3 : Int32))), .val (.int (p1 &&& (-248 : Int32))), .val (.ref (w 2)), .val (.ref (w 2))]) rfl k) ?_
            refine oS (fun t k => XS.goto X24.here hx rfl (pc0 := 88) (pc' := 94) rfl (hb hby at_88) (by decide) (by decide) k) ?_
            refine oS (fun t k => XS.aload X24.here hx rfl (hb hby at_94) rfl rfl k) ?_
            show oG _ _ _ _ _ _ _ (T24.setTop (mkF m 96 #[.val (.int p1), .val (.int p2), .val (.int (p2 &&& (3 : Int32))), .val (.int (p1 &&& (-248 : Int32))), .val (.ref (w 2)), .val (.ref (w 2))] [(.ref (w 2))]))
            refine oS (fun t k => XS.aload X24.here hx rfl (hb hby at_96) rfl rfl k) ?_
            refine oS (fun t k => Jvm.RoadKit.acmp (g := (mkF m 98 #[.val (.int p1), .val (.int p2), .val (.int (p2 &&& (3 : Int32))), .val (.int (p1 &&& (-248 : Int32))), .val (.ref (w 2)), .val (.ref (w 2))] [(.ref (w 2)), (.ref (w 2))])) X24 hx rfl rfl rfl (pc0 := 98) (pc' := 101) (same := true) rfl (hb hby at_98) rfl (decide_eq_true rfl) (by decide) (by decide) k) ?_
            refine oS (fun t k => oIc li_1 X24.here hx rfl (hb hby at_101) k) ?_
            refine oS (fun t k => XS.goto X24.here hx rfl (pc0 := 102) (pc' := 106) rfl (hb hby at_102) (by decide) (by decide) k) ?_
            exact own_ret (v := some (.int 1)) X24 (fun h => by rw [Bd.returns] at h; cases h) Bd.notSynchronized (fun fs hr => retN X24 hx (t := .boolean) Bd.returns (by simp) (hb hby at_106) hr) (by rw [e24]; exact ⟨rfl, N23⟩) (by decide) (by decide)
          · obtain ⟨_, _, ⟨T25, L25, k25, n25⟩, -, X25, ⟨Lc25, hQ25, l25, y25, z25⟩, st25⟩ := Jvm.LawKit.callS X0 hx (y := mY0) hown (mvT hZ (oW hw 0 rfl)) (mvT hZ (oW hw 1 rfl)) (mvT hZ (oW hw 2 rfl)) (mvT hZ (oW hw 3 rfl)) (by decide) (backOf (W := 0) (rm_for_n l Z a0 hw [] (p1 &&& (-248 : Int32)) w h0 n0 O0 W hq0 hq8) hZ (oW hw 3 rfl) (oW hw 2 rfl) (by decide) (by decide)) (g := (mkF m 60 #[.val (.int p1), .val (.int p2), .val (.int (p2 &&& (3 : Int32))), .val (.int (p1 &&& (-248 : Int32))), .unset, .unset] [(.int (p1 &&& (-248 : Int32)))])) rfl (by rw [hml]; rfl) (argsL := [(.int (p1 &&& (-248 : Int32)))]) (rest := []) (lenOf pd_0 rfl) rfl (by show 2 * 0 + _ ≤ _; exact Nat.le_of_eq rfl) (hb hby at_60) (fun _ _ => ⟨rfl, e0, (by decide : 0 + 0 ≤ _), (by decide : 0 + 0 ≤ _)⟩)
            dsimp only [Pt.U, Pt.locs, Pt.cells, Pt.slots] at X25 l25 y25 z25 st25 hQ25
            subst l25 y25 z25
            obtain ⟨rfl, Nq25, e25⟩ := hQ25
            have N25 := Fr.app N0 Nq25
            refine oS (fun t k => st25 t k) ?_
            show oG _ _ _ _ _ _ _ (T25.setTop (mkF m 63 #[.val (.int p1), .val (.int p2), .val (.int (p2 &&& (3 : Int32))), .val (.int (p1 &&& (-248 : Int32))), .unset, .unset] [.null]))
            try clear st25
            refine oS (fun t k => XS.astore X25.here hx rfl (hb hby at_63) rfl rfl (l' := #[.val (.int p1), .val (.int p2), .val (.int (p2 &&& (3 : Int32))), .val (.int (p1 &&& (-248 : Int32))), .val .null, .unset]) rfl k) ?_
            refine oS (fun t k => XS.iloadN X25.here hx rfl (hb hby at_65) rfl k) ?_
            refine oS (fun t k => XS.ifYes X25.here hx rfl (pc0 := 66) (pc' := 77) rfl (hb hby at_66) rfl ((if0 _ _).trans (feq (fun q => hq0 (Eq.symm q))).2) (by decide) (by decide) k) ?_
            refine oS (fun t k => XS.iloadN X25.here hx rfl (hb hby at_77) rfl k) ?_
            refine oS (fun t k => oBp lb_8 X25.here hx rfl (hb hby at_78) k) ?_
            refine oS (fun t k => XS.icmpYes X25.here hx rfl (pc0 := 80) (pc' := 91) rfl (hb hby at_80) rfl (feq (fun q => hq8 (Eq.symm q))).2 (by decide) (by decide) k) ?_
            refine oS (fun t k => XS.aconstNull X25.here hx rfl (hb hby at_91) k) ?_
            refine oS (fun t k => XS.astore X25.here hx rfl (hb hby at_92) rfl rfl (l' := #[.val (.int p1), .val (.int p2), .val (.int (p2 &&& (3 : Int32))), .val (.int (p1 &&& (-248 : Int32))), .val .null, .val .null]) rfl k) ?_
            refine oS (fun t k => XS.aload X25.here hx rfl (hb hby at_94) rfl rfl k) ?_
            refine oS (fun t k => XS.aload X25.here hx rfl (hb hby at_96) rfl rfl k) ?_
            show oG _ _ _ _ _ _ _ (T25.setTop (mkF m 98 #[.val (.int p1), .val (.int p2), .val (.int (p2 &&& (3 : Int32))), .val (.int (p1 &&& (-248 : Int32))), .val .null, .val .null] [.null, .null]))
            refine oS (fun t k => Jvm.RoadKit.acmp (g := (mkF m 98 #[.val (.int p1), .val (.int p2), .val (.int (p2 &&& (3 : Int32))), .val (.int (p1 &&& (-248 : Int32))), .val .null, .val .null] [.null, .null])) X25 hx rfl rfl rfl (pc0 := 98) (pc' := 101) (same := true) rfl (hb hby at_98) rfl (decide_eq_true rfl) (by decide) (by decide) k) ?_
            refine oS (fun t k => oIc li_1 X25.here hx rfl (hb hby at_101) k) ?_
            refine oS (fun t k => XS.goto X25.here hx rfl (pc0 := 102) (pc' := 106) rfl (hb hby at_102) (by decide) (by decide) k) ?_
            exact own_ret (v := some (.int 1)) X25 (fun h => by rw [Bd.returns] at h; cases h) Bd.notSynchronized (fun fs hr => retN X25 hx (t := .boolean) Bd.returns (by simp) (hb hby at_106) hr) (by rw [e25]; exact ⟨rfl, N25⟩) (by decide) (by decide)
set_option maxRecDepth 65536 in
set_option maxHeartbeats 40000000 in
theorem comes_1 {Post : Tables → Env → Array Value → State → Outcome → State → Prop} (hpost : ∀ tb e args s v u, (limb_1_1.after args s (.returned v) u = true ∧ limb_1_2.after args s (.returned v) u = true ∧ True) → FrameEnd s (.returned v) u (Jvm.fieldLocs frame_1_writes args s ++ Jvm.arrayLocs frame_1_arrays args s ++ Jvm.staticLocs frame_1_statics s) 0 0 → Post tb e args s (.returned v) u) :
    ArmFor flags0 classFile x code maxLocals ret World_1 tables_1 room_1 Calls_1 rest_1 Pre_1 Post := by
  intro l hfl _ _ p e ha hc hk s m args below hf hA hF happ hP
  obtain ⟨hcalls, hrest, hpre⟩ := hP
  obtain ⟨-, -, -, hnamed, -, -, -, hat⟩ := (Spec.applies_iff hf).mp happ
  obtain ⟨hg, hn⟩ := and_e (Cond.before_iff.mp (show (Jvm.Cond.and given_1 narrow_1).before args s = true from hpre))
  obtain ⟨g0, g1⟩ := and_e hg
  obtain ⟨g2, g3⟩ := and_e g1
  obtain ⟨w0, w1, rfl⟩ : ∃ w0 w1 : Value, args = #[w0, w1] := by
    have hs : args.size = 2 := by simpa [Cond.value, given_1] using g0
    obtain ⟨L⟩ := args
    match L, hs with
    | [w0, w1], _ => exact ⟨w0, w1, rfl⟩
  have hw := fun d (hd : d ∈ tables_1) => atoms_spec (ws := Jvm.Cond.code x code maxLocals ret :: tables_1) hat d (List.mem_cons_of_mem _ hd)
  have hfit : Fit s := fun {y c} hc i hi => by
    obtain ⟨ha, rfl⟩ := Array.getElem?_eq_some_iff.mp hc
    have q := List.all_eq_true.mp ((Array.all_eq_true_iff_forall_mem.mp hF) _ (Array.getElem_mem ha)) i (List.mem_range.mpr hi)
    simpa [Array.getElem?_eq_getElem hi] using q
  obtain ⟨i0, ei0⟩ := is_v g2
  obtain rfl : w0 = (.int i0) := Option.some.inj ei0
  obtain ⟨i1, ei1⟩ := is_v g3
  obtain rfl : w1 = (.int i1) := Option.some.inj ei1
  obtain ⟨w, W⟩ := own_world hw hfit hn
  obtain ⟨n, o, h1, h2, h3, _, L, rfl, ⟨rfl, N⟩, hq⟩ := rm_law l s _ hw tables_1 i0 i1 w s.heap s.heap.size (Old.start s) W  p e ha hc hk s m _ below hf ((Spec.applies_iff_loose hf).mp happ).1 ⟨rfl, State.Warmed39.refl s, rfl⟩ trivial
  refine ⟨n, _, h1, h2, h3, hpost _ _ _ _ _ _ ⟨Cond.after_iff.mpr rfl, Cond.after_iff.mpr (eq_i res_at (Term.int_eval (1)) rfl), trivial⟩ ⟨hq.1, hq.2.1, (hq.2.2.sift fun y hy => Or.inr (N y hy)).mono (by decide) (by decide)⟩⟩
theorem main_1_1 : Claimed_1_1 := comes_1 fun _ _ _ _ _ _ h hF => ⟨h.1, hF⟩
theorem main_1_2 : Claimed_1_2 := comes_1 fun _ _ _ _ _ _ h hF => ⟨h.2.1, hF⟩
end Jvm.Pilot.@@N@@
namespace Jvm.Pilot.@@N@@
open Jvm Jvm.ClassFile Sem Op Lib Jvm.Free Jvm.Stand Jvm.Pilot.@@N@@.Jvm.D
/-! MADE BY PROGRAM (witnessworld.py) out of the Statement's table words and the real class files: 13 classes; the members and pool entries that the words name. The judged class is class 1, her method 1. -/
namespace start1
open Jvm.ClassFile
def u (s : String) : CpInfo := .utf8 (stringToUtf16 s)
/-- a pool by its gaps: so many unusable entries, then the entry; so many at the end -/
def gap : Nat → List CpInfo → List CpInfo
  | 0, r => r
  | n + 1, r => .unusable :: gap n r
def poolList (es : List (Nat × CpInfo)) (last : Nat) : List CpInfo := es.foldr (fun e r => gap e.1 (e.2 :: r)) (gap last [])
def pool (es : List (Nat × CpInfo)) (last : Nat) : Array CpInfo := ⟨poolList es last⟩
def fileOf (pool : Array CpInfo) (this : Nat) (attrs : Array Attribute := #[]) (ms : Array MethodInfo := #[]) (fl : Nat := 33) (sup : Nat := 0) (ifs : Array Nat := #[]) (fds : Array FieldInfo := #[]) : ClassFile where
  minorVersion := 0
  majorVersion := 65
  constantPool := pool
  accessFlags := fl
  thisClass := this
  superClass := sup
  interfaces := ifs
  fields := fds
  methods := ms
  attributes := attrs
def plain (name : String) (sup : Option ClassId) : Class where
  name := name
  kind := .ordinary
  loader := none
  accessFlags := 33
  super := sup
  interfaces := #[]
  cf := none
  fields := #[]
  methods := #[]
  instanceTypes := #[]
  staticTypes := #[]
  resolved := #[]
  callSites := []
  init := .initialized
  statics := none
  mirror := none

def pool0 : Array CpInfo := pool [(5, u "<init>"), (0, u "()V"), (1, .class_ 10), (1, u "java/lang/Object")] 113

def k0m0 : Method := { name := "<init>", desc := "()V", sig := { parameters := [], returnType := none }, accessFlags := 1, code := none }
/-- java/lang/Object -/
def k0 : Class := { plain "java/lang/Object" none with
  accessFlags := 33
  interfaces := #[]
  cf := some (fileOf pool0 8 #[] #[{ accessFlags := 1, nameIndex := 5, descriptorIndex := 6, attributes := #[] }] 33 0 #[] #[])
  fields := #[]
  methods := #[k0m0]
  instanceTypes := #[]
  staticTypes := #[]
  resolved := Array.replicate 124 none
  statics := none }

def pool1 : Array CpInfo := pool [(2, .class_ 4), (1, u "java/lang/Object"), (0, u "<init>"), (0, u "()V"), (0, .methodref 8 9), (0, .class_ 10), (0, .nameAndType 11 12), (0, u "com/example/loudline/loudline/audio/G711"), (0, u "forPayloadType"), (0, u "(I)Lcom/example/loudline/loudline/audio/G711;"), (0, .fieldref 8 14), (0, .nameAndType 15 16), (0, u "MU_LAW"), (0, u "Lcom/example/loudline/loudline/audio/G711;"), (0, .fieldref 8 18), (0, .nameAndType 19 16), (0, u "A_LAW"), (0, .class_ 21), (0, u "com/example/loudline/loudline/audio/G711ForPayloadTypePinLaw"), (2, u "law"), (0, u "(II)Z")] 3

def k1m0 : Method := { name := "<init>", desc := "()V", sig := { parameters := [], returnType := none }, accessFlags := 1, code := none }
def k1c1 : Code := { maxStack := 3, maxLocals := 6, code := code, exceptionTable := #[], attributes := #[] }
def k1m1 : Method := { name := "law", desc := "(II)Z", sig := { parameters := [.int, .int], returnType := some .boolean }, accessFlags := 9, code := some k1c1 }
/-- com/example/loudline/loudline/audio/G711ForPayloadTypePinLaw -/
def k1 : Class := { plain "com/example/loudline/loudline/audio/G711ForPayloadTypePinLaw" (some 0) with
  accessFlags := 49
  interfaces := #[]
  cf := some (fileOf pool1 20 #[] #[{ accessFlags := 1, nameIndex := 5, descriptorIndex := 6, attributes := #[] }, { accessFlags := 9, nameIndex := 24, descriptorIndex := 25, attributes := #[] }] 49 2 #[] #[])
  fields := #[]
  methods := #[k1m0, k1m1]
  instanceTypes := #[]
  staticTypes := #[]
  resolved := Array.replicate 29 none
  statics := none }

def pool2 : Array CpInfo := pool [(1, .class_ 2), (0, u "java/lang/constant/Constable"), (0, .class_ 4), (0, u "java/lang/Object")] 6

/-- java/lang/constant/Constable -/
def k2 : Class := { plain "java/lang/constant/Constable" (some 0) with
  accessFlags := 1537
  interfaces := #[]
  cf := some (fileOf pool2 1 #[] #[] 1537 3 #[] #[])
  fields := #[]
  methods := #[]
  instanceTypes := #[]
  staticTypes := #[]
  resolved := Array.replicate 11 none
  statics := none }

def pool3 : Array CpInfo := pool [(1, .class_ 2), (0, u "java/lang/Comparable"), (0, .class_ 4), (0, u "java/lang/Object")] 7

/-- java/lang/Comparable -/
def k3 : Class := { plain "java/lang/Comparable" (some 0) with
  accessFlags := 1537
  interfaces := #[]
  cf := some (fileOf pool3 1 #[] #[] 1537 3 #[] #[])
  fields := #[]
  methods := #[]
  instanceTypes := #[]
  staticTypes := #[]
  resolved := Array.replicate 12 none
  statics := none }

def pool4 : Array CpInfo := pool [(1, .class_ 2), (0, u "java/io/Serializable"), (0, .class_ 4), (0, u "java/lang/Object")] 2

/-- java/io/Serializable -/
def k4 : Class := { plain "java/io/Serializable" (some 0) with
  accessFlags := 1537
  interfaces := #[]
  cf := some (fileOf pool4 1 #[] #[] 1537 3 #[] #[])
  fields := #[]
  methods := #[]
  instanceTypes := #[]
  staticTypes := #[]
  resolved := Array.replicate 7 none
  statics := none }

def pool5 : Array CpInfo := pool [(2, .class_ 4), (1, u "java/lang/Enum"), (0, u "name"), (0, u "Ljava/lang/String;"), (2, u "ordinal"), (0, u "I"), (1, .class_ 14), (1, u "java/lang/Object"), (4, u "hash"), (86, .class_ 108), (1, u "java/lang/Enum$EnumDesc"), (2, .class_ 112), (0, u "java/lang/constant/Constable"), (0, .class_ 114), (0, u "java/lang/Comparable"), (0, .class_ 116), (0, u "java/io/Serializable")] 87

/-- java/lang/Enum -/
def k5 : Class := { plain "java/lang/Enum" (some 0) with
  accessFlags := 1057
  interfaces := #[2, 3, 4]
  cf := some (fileOf pool5 2 #[.nestMembers #[106]] #[] 1057 12 #[111, 113, 115] #[{ accessFlags := 18, nameIndex := 5, descriptorIndex := 6, attributes := #[] }, { accessFlags := 18, nameIndex := 9, descriptorIndex := 10, attributes := #[] }, { accessFlags := 2, nameIndex := 19, descriptorIndex := 10, attributes := #[] }])
  fields := #[{ name := "name", type := (.object "java/lang/String"), accessFlags := 18, slot := 0, constantValue := 0 }, { name := "ordinal", type := .int, accessFlags := 18, slot := 1, constantValue := 0 }, { name := "hash", type := .int, accessFlags := 2, slot := 2, constantValue := 0 }]
  methods := #[]
  instanceTypes := #[(.object "java/lang/String"), .int, .int]
  staticTypes := #[]
  resolved := Array.replicate 204 none
  statics := none }

def pool6 : Array CpInfo := pool [(1, .class_ 2), (0, u "com/example/loudline/loudline/audio/G711"), (2, u "MU_LAW"), (0, u "Lcom/example/loudline/loudline/audio/G711;"), (2, u "A_LAW"), (2, u "$VALUES"), (0, u "[Lcom/example/loudline/loudline/audio/G711;"), (6, .class_ 22), (1, u "java/lang/Enum"), (6, .fieldref 1 30), (0, .nameAndType 31 32), (0, u "payloadType"), (0, u "I"), (2, u "samples"), (0, u "[S"), (18, u "fullScale"), (2, u "smallestMagnitude"), (0, .fieldref 1 60), (0, .nameAndType 61 13), (0, u "LAWS"), (46, u "CODES"), (2, u "MU_LAW_BIAS"), (1, u "MU_LAW_LARGEST"), (1, u "A_LAW_LARGEST"), (11, u "forPayloadType"), (0, u "(I)Lcom/example/loudline/loudline/audio/G711;")] 10

def k6c0 : Code := { maxStack := 2, maxLocals := 5, code := prog_6_method_4_code, exceptionTable := #[], attributes := #[] }
def k6m0 : Method := { name := "forPayloadType", desc := "(I)Lcom/example/loudline/loudline/audio/G711;", sig := { parameters := [.int], returnType := some (.object "com/example/loudline/loudline/audio/G711") }, accessFlags := 9, code := some k6c0 }
/-- com/example/loudline/loudline/audio/G711 -/
def k6 : Class := { plain "com/example/loudline/loudline/audio/G711" (some 5) with
  accessFlags := 16433
  interfaces := #[]
  cf := some (fileOf pool6 1 #[] #[{ accessFlags := 9, nameIndex := 127, descriptorIndex := 128, attributes := #[] }] 16433 20 #[] #[{ accessFlags := 16409, nameIndex := 5, descriptorIndex := 6, attributes := #[] }, { accessFlags := 16409, nameIndex := 9, descriptorIndex := 6, attributes := #[] }, { accessFlags := 26, nameIndex := 61, descriptorIndex := 13, attributes := #[] }, { accessFlags := 26, nameIndex := 108, descriptorIndex := 32, attributes := #[] }, { accessFlags := 26, nameIndex := 111, descriptorIndex := 32, attributes := #[] }, { accessFlags := 26, nameIndex := 113, descriptorIndex := 32, attributes := #[] }, { accessFlags := 26, nameIndex := 115, descriptorIndex := 32, attributes := #[] }, { accessFlags := 18, nameIndex := 31, descriptorIndex := 32, attributes := #[] }, { accessFlags := 18, nameIndex := 35, descriptorIndex := 36, attributes := #[] }, { accessFlags := 18, nameIndex := 55, descriptorIndex := 32, attributes := #[] }, { accessFlags := 18, nameIndex := 58, descriptorIndex := 32, attributes := #[] }, { accessFlags := 4122, nameIndex := 12, descriptorIndex := 13, attributes := #[] }])
  fields := #[{ name := "MU_LAW", type := (.object "com/example/loudline/loudline/audio/G711"), accessFlags := 16409, slot := 0, constantValue := 0 }, { name := "A_LAW", type := (.object "com/example/loudline/loudline/audio/G711"), accessFlags := 16409, slot := 1, constantValue := 0 }, { name := "LAWS", type := (.array (.object "com/example/loudline/loudline/audio/G711")), accessFlags := 26, slot := 2, constantValue := 0 }, { name := "CODES", type := .int, accessFlags := 26, slot := 3, constantValue := 0 }, { name := "MU_LAW_BIAS", type := .int, accessFlags := 26, slot := 4, constantValue := 0 }, { name := "MU_LAW_LARGEST", type := .int, accessFlags := 26, slot := 5, constantValue := 0 }, { name := "A_LAW_LARGEST", type := .int, accessFlags := 26, slot := 6, constantValue := 0 }, { name := "payloadType", type := .int, accessFlags := 18, slot := 3, constantValue := 0 }, { name := "samples", type := (.array .short), accessFlags := 18, slot := 4, constantValue := 0 }, { name := "fullScale", type := .int, accessFlags := 18, slot := 5, constantValue := 0 }, { name := "smallestMagnitude", type := .int, accessFlags := 18, slot := 6, constantValue := 0 }, { name := "$VALUES", type := (.array (.object "com/example/loudline/loudline/audio/G711")), accessFlags := 4122, slot := 7, constantValue := 0 }]
  methods := #[k6m0]
  instanceTypes := #[(.object "java/lang/String"), .int, .int, .int, (.array .short), .int, .int]
  staticTypes := #[(.object "com/example/loudline/loudline/audio/G711"), (.object "com/example/loudline/loudline/audio/G711"), (.array (.object "com/example/loudline/loudline/audio/G711")), .int, .int, .int, .int, (.array (.object "com/example/loudline/loudline/audio/G711"))]
  resolved := Array.replicate 139 none
  statics := some 0 }

def pool7 : Array CpInfo := pool [(1, u "java/lang/Cloneable"), (0, .class_ 1), (0, u "java/lang/Object"), (0, .class_ 3)] 3

/-- java/lang/Cloneable -/
def k7 : Class := { plain "java/lang/Cloneable" (some 0) with
  accessFlags := 1537
  interfaces := #[]
  cf := some (fileOf pool7 2 #[] #[] 1537 4 #[] #[])
  fields := #[]
  methods := #[]
  instanceTypes := #[]
  staticTypes := #[]
  resolved := Array.replicate 8 none
  statics := none }

/-- the primitive byte -/
def k8 : Class := { plain "byte" none with kind := .primitive 'B', accessFlags := 0x411 }
/-- [B -/
def k9 : Class := { plain "[B" (some 0) with kind := .array 8 .byte, interfaces := #[7, 4], accessFlags := 1041 }

/-- the primitive int -/
def k10 : Class := { plain "int" none with kind := .primitive 'I', accessFlags := 0x411 }
/-- [I -/
def k11 : Class := { plain "[I" (some 0) with kind := .array 10 .int, interfaces := #[7, 4], accessFlags := 1041 }

/-- [Lcom/example/loudline/loudline/audio/G711; -/
def k12 : Class := { plain "[Lcom/example/loudline/loudline/audio/G711;" (some 0) with kind := .array 6 (.object "com/example/loudline/loudline/audio/G711"), interfaces := #[7, 4], accessFlags := 1041 }

def heap : Heap := #[{ cls := 6, slots := #[.ref 2, .ref 3, .ref 1, .int 0, .int 0, .int 0, .int 0, .null], vm := .statics 6 },
  { cls := 12, slots := #[.ref 2, .ref 3], vm := .none },
  { cls := 6, slots := #[.null, .int 0, .int 0, .int 0, .null, .int 0, .int 0], vm := .none },
  { cls := 6, slots := #[.null, .int 0, .int 0, .int 8, .null, .int 0, .int 0], vm := .none }]
def classes : Array Class := #[k0, k1, k2, k3, k4, k5, k6, k7, k8, k9, k10, k11, k12]
def interned : List (Array UInt16 × Addr) := []
def slotsUsed : Nat := 24
def theMethod : MethodId := ⟨1, 1⟩
def args0 : Array Value := #[.int 8, .int 0]
def aboutOver (below : List Frame) : State where
  vm := { classes := classes, interned := interned.toArray }
  heap := heap
  slotsUsed := slotsUsed
  threads := #[{ frames := .invoking theMethod args0 :: below }]
def below0 : List Frame := [.native { method := ⟨0, 0⟩, args := #[] }]
def about1 : State := aboutOver below0
def p0 : Program := .bare "" "" ""
def e0 : Env := launch0.env 0 0 0
theorem w_frames : about1.frames = Frame.invoking theMethod args0 :: below0 := rfl
set_option maxRecDepth 65536 in
theorem w_args : argsFit about1.vm theMethod args0 = true := by decide +kernel
set_option maxRecDepth 65536 in
theorem w_heap : heapFits about1 = true := by decide +kernel
set_option maxRecDepth 65536 in
theorem w_runnable : about1.curStatus? = some .runnable := by decide +kernel
set_option maxRecDepth 65536 in
theorem w_alone : about1.alone = true := by decide +kernel
set_option maxRecDepth 65536 in
theorem w_named : about1.methodNamed? x = some theMethod := by decide +kernel
set_option maxRecDepth 65536 in
theorem w_hears : about1.hears theMethod below0 = true := by decide +kernel
set_option maxRecDepth 65536 in
theorem w_ripe : about1.ripe theMethod args0 below0 = true := by decide +kernel
theorem w_running : about1.status = .running := rfl
set_option maxRecDepth 65536 in
theorem w_room : about1.hasRoom e0.platform room_1 = true :=
  launch0.hasRoom_least _ room_1 (by decide +kernel) (by decide +kernel) (by decide +kernel) (by decide +kernel) (by decide +kernel) (by decide +kernel)
theorem allAtoms_all (ts : List Jvm.Cond) (a : Array Jvm.Value) (st : Jvm.State) : (allAtoms ts).before a st = ts.all (fun c => c.before a st) := by
  induction ts with
  | nil => rfl
  | cons c t ih =>
    show (Jvm.Cond.and c (allAtoms t)).before a st = _
    rw [Jvm.Cond.before_and, ih, List.all_cons]
def words1 : List Jvm.Cond := Jvm.Cond.code x code maxLocals ret :: tables_1
/-- a 'code' word, met by the world's own term for the bytes: nothing is compared byte by byte -/
theorem code_word {y : MethodName} {bytes : ByteArray} {mx : Nat} {rt : Option FieldType} {a : Array Value} {s : State} {m : MethodId} {meth : Method} {c : Code} (h1 : s.methodNamed? y = some m) (h2 : s.vm.method? m = some meth) (h3 : meth.code = some c) (h4 : c.code = bytes)
    (h5 : (c.maxLocals == mx && c.exceptionTable.isEmpty && decide (c.maxStack ≤ mostOperands) && decide (meth.sig.returnType = rt) && !meth.locks && decide (parseMethodDescriptor y.desc = some meth.sig)) = true) : (Jvm.Cond.code y bytes mx rt).before a s = true := by
  simp only [Bool.and_eq_true, beq_iff_eq, Bool.not_eq_true', decide_eq_true_eq] at h5
  obtain ⟨⟨⟨⟨⟨g1, g2⟩, g3⟩, g4⟩, g5⟩, g6⟩ := h5
  simp [Cond.before, Cond.holds, Cond.value, h1, h2, h3, h4, g1, g2, g3, g4, g5, g6]
def isCode : Jvm.Cond → Bool
  | .code _ _ _ _ => true
  | _ => false
theorem all_split {L : List Jvm.Cond} {P : Jvm.Cond → Bool} (h1 : L.all (fun c => isCode c || P c) = true) (h2 : ∀ c ∈ L.filter isCode, P c = true) : L.all P = true := by
  refine List.all_eq_true.mpr fun c hc => ?_
  have h := List.all_eq_true.mp h1 c hc
  rcases Bool.eq_false_or_eq_true (isCode c) with hi | hi
  · exact h2 c (List.mem_filter.mpr ⟨hc, hi⟩)
  · simpa [hi] using h
set_option maxRecDepth 65536 in
theorem w_c0 : (Jvm.Cond.code x code maxLocals ret).before args0 about1 = true := code_word (m := ⟨1, 1⟩) (meth := k1m1) (c := k1c1) (by decide +kernel) rfl rfl rfl (by decide +kernel)
set_option maxRecDepth 65536 in
theorem w_c1 : (Jvm.Cond.code ({ cls := "com/example/loudline/loudline/audio/G711", name := "forPayloadType", desc := "(I)Lcom/example/loudline/loudline/audio/G711;" } : Jvm.MethodName) prog_6_method_4_code (5 : Nat) (Option.some (Jvm.ClassFile.FieldType.object "com/example/loudline/loudline/audio/G711"))).before args0 about1 = true := code_word (m := ⟨6, 0⟩) (meth := k6m0) (c := k6c0) (by decide +kernel) rfl rfl rfl (by decide +kernel)
def codes1 : List Jvm.Cond := [Jvm.Cond.code x code maxLocals ret, Jvm.Cond.code ({ cls := "com/example/loudline/loudline/audio/G711", name := "forPayloadType", desc := "(I)Lcom/example/loudline/loudline/audio/G711;" } : Jvm.MethodName) prog_6_method_4_code (5 : Nat) (Option.some (Jvm.ClassFile.FieldType.object "com/example/loudline/loudline/audio/G711"))]
set_option maxRecDepth 65536 in
theorem codes_eq : words1.filter isCode = codes1 := rfl
theorem w_codes : ∀ c ∈ words1.filter isCode, c.before args0 about1 = true := by
  rw [codes_eq]
  intro c hc
  simp only [codes1, List.mem_cons, List.not_mem_nil, or_false] at hc
  rcases hc with rfl | rfl
  · exact w_c0
  · exact w_c1
set_option maxRecDepth 65536 in
theorem w_t1 : words1.all (fun c => isCode c || c.before args0 about1) = true := by decide +kernel
theorem w_tables : (allAtoms (Jvm.Cond.code x code maxLocals ret :: tables_1)).before args0 about1 = true := by
  rw [allAtoms_all]
  show words1.all (fun c => c.before args0 about1) = true
  refine all_split ?_ w_codes
  rw [w_t1]
set_option maxRecDepth 65536 in
theorem w_case : (Jvm.Cond.and given_1 narrow_1).before args0 about1 = true := by decide +kernel
theorem w_applies : (headSpec (Jvm.Cond.code x code maxLocals ret :: tables_1) room_1).applies x e0.platform about1 = true :=
  (Spec.applies_iff w_frames).mpr ⟨w_running, w_runnable, w_alone, w_named, w_hears, w_ripe, w_room, w_tables⟩
theorem atStart : AtStart classFile x code maxLocals ret World_1 tables_1 room_1 Calls_1 rest_1 Pre_1 launch0 p0 e0 about1 theMethod args0 below0 :=
  ⟨lists_1, trivial, launch0.admits_env _ _ _, launch0.least_env, fairChoices_fair.cas, fairChoices_fair.clock, w_frames, w_args, w_heap, w_applies, trivial, trivial, w_case⟩
end start1
theorem witness_1 : WitnessClaimed_1 := ⟨start1.p0, start1.e0, start1.about1, start1.theMethod, start1.args0, start1.below0, start1.atStart⟩
end Jvm.Pilot.@@N@@
