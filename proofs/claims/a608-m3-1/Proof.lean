import JvmDerived
import JvmDerived.Pilot.@@N@@Statement
import JvmDerived.Pilot.@@N@@Code
set_option linter.unusedVariables false
set_option linter.unusedSimpArgs false
namespace Jvm.Pilot.@@N@@
open Jvm Jvm.ClassFile Sem Op Lib Jvm.Free Jvm.Stand Jvm.LawKit Jvm.RoadKit Bundle Jvm.Pilot.@@N@@.Jvm.D
/-! what is left of a run: it comes to its end, and there Q holds -/
def oG (p : Program) (e : Env) (below : List Frame) (s : State) (Q : Option Value → Heap → List Loc → Prop) (rc rs : Nat) (S : State) : Prop :=
  ∃ s₂ o, Steps p.tables e below S s₂ ∧ s₂.status = .running ∧ Ended s₂ below o ∧ ∃ v L, o = .returned v ∧ Q v s₂.heap L ∧ FrameEnd s o s₂ L rc rs
theorem oS {p : Program} {e : Env} {below : List Frame} {s : State} {Q : Option Value → Heap → List Loc → Prop} {rc rs : Nat} {S S' : State} (k : ∀ t, Steps p.tables e below S' t → Steps p.tables e below S t) (g : oG p e below s Q rc rs S') : oG p e below s Q rc rs S := by
  obtain ⟨s₂, o, h1, h2⟩ := g
  exact ⟨s₂, o, k _ h1, h2⟩
theorem own_ret {p : Program} {l : Launch} {e : Env} {R : Room} {s : State} {m : MethodId} {args : Array Value} {below : List Frame} {meth : Method} {c : Code} {T : State} {locs : List Loc} {cells slots : Nat} {Q : Option Value → Heap → List Loc → Prop} {rc rs : Nat} {S : State} {v : Option Value} (X : Stand p l e R s m args below meth c T locs cells slots) (hv : meth.sig.returnType = none → v = none) (hlocks : meth.locks = false)
    (st : ∀ fs, (∀ (f : JFrame) (acts : List Action), f.method = m → f.locked = none → f.entered = [] → (doReturn e (T.setTop f) acts v).1 = T.setFrames fs) → Steps p.tables e below S (T.setFrames fs)) (q : Q v T.heap locs) (hc : cells ≤ rc) (hs : slots ≤ rs) : oG p e below s Q rc rs S := by
  obtain ⟨fs, hr, hrun, hended, hW, hsame⟩ := X.leave hv hlocks
  exact ⟨_, _, st fs hr, hrun, hended, _, _, rfl, q, ⟨_, rfl⟩, hW, hsame.mono hc hs⟩
theorem oIc {tb : Tables} [Ours tb] {e : Env} {below : List Frame} {T target : State} {m : MethodId} {c : Code} {g : JFrame} {i : Int} {z : Int32} (hz : Int32.ofInt i = z) (h : At T m c below) (hx : tb.exec = Jvm.exec) (hg : g.method = m) (hd : decode c.code g.pc = .ok (.iconst i, 1)) (hr : Steps tb e below (T.setTop { g with pc := g.pc + 1, stack := .int z :: g.stack }) target) : Steps tb e below (T.setTop g) target := XS.iconst h hx hg hd (by rw [hz]; exact hr)
theorem oBp {tb : Tables} [Ours tb] {e : Env} {below : List Frame} {T target : State} {m : MethodId} {c : Code} {g : JFrame} {i : Int} {z : Int32} (hz : (Int8.ofInt i).toInt32 = z) (h : At T m c below) (hx : tb.exec = Jvm.exec) (hg : g.method = m) (hd : decode c.code g.pc = .ok (.bipush i, 2)) (hr : Steps tb e below (T.setTop { g with pc := g.pc + 2, stack := .int z :: g.stack }) target) : Steps tb e below (T.setTop g) target := XS.bipush h hx hg hd (by rw [hz]; exact hr)
theorem oSp {tb : Tables} [Ours tb] {e : Env} {below : List Frame} {T target : State} {m : MethodId} {c : Code} {g : JFrame} {i : Int} {z : Int32} (hz : (Int16.ofInt i).toInt32 = z) (h : At T m c below) (hx : tb.exec = Jvm.exec) (hg : g.method = m) (hd : decode c.code g.pc = .ok (.sipush i, 3)) (hr : Steps tb e below (T.setTop { g with pc := g.pc + 3, stack := .int z :: g.stack }) target) : Steps tb e below (T.setTop g) target := XS.sipush h hx hg hd (by rw [hz]; exact hr)
theorem oLc {tb : Tables} [Ours tb] {e : Env} {below : List Frame} {T target : State} {m : MethodId} {c : Code} {g : JFrame} {i : Fin 2} {z : Int64} (hz : Int64.ofNat i = z) (h : At T m c below) (hx : tb.exec = Jvm.exec) (hg : g.method = m) (hd : decode c.code g.pc = .ok (.lconst i, 1)) (hr : Steps tb e below (T.setTop { g with pc := g.pc + 1, stack := .long z :: g.stack }) target) : Steps tb e below (T.setTop g) target := XS.lconst h hx hg hd (by rw [hz]; exact hr)
theorem oW {a0 : Array Value} {Z : State} (hw : ∀ d ∈ tables_1, d.before a0 Z = true) (i : Nat) {d : Jvm.Cond} (h : tables_1[i]? = some d) : d.before a0 Z = true := hw _ (List.mem_of_getElem? h)
theorem own_eqv {args : Array Value} {s : State} {a b : Term} {v : Value} (h : (Jvm.Cond.eq a b).value args s none s [] = some true) (hb : b.eval args s none [] s = some v) : a.eval args s none [] s = some v := by
  obtain ⟨x, y, ha, hb', -, -⟩ := cmp_v (Or.inl h)
  cases hb.symm.trans hb'
  rw [ha]
  cases x <;> cases v <;> simp [Cond.value, ha, hb] at h ⊢ <;> exact h
theorem own_len {args : Array Value} {s : State} {t : Term} {a : Addr} {cl : Cell} {ty : FieldType} {z : Int32} (h : (Term.length t).eval args s none [] s = some (.int z)) (ht : t.eval args s none [] s = some (.ref a)) (A : Arr s s.heap a cl ty) : cl.slots.size < 2 ^ 31 ∧ cl.slots.size.toInt32 = z := by
  have hA := A.fin (Vm.Alike.refl _)
  obtain ⟨a', cell, h1, h2, h3⟩ := Term.length_spec h
  cases ht.symm.trans h1
  cases hA.symm.trans h2
  refine ⟨?_, (Value.int.inj h3).symm⟩
  simp only [Term.eval, ht, hA, Option.bind_eq_bind, Option.bind_some] at h
  split at h
  · assumption
  · cases h
theorem own_sz {n : Nat} {z : Int32} (h1 : n < 2 ^ 31) (h2 : n.toInt32 = z) : n = z.toNatClampNeg := by
  rw [← h2]; simp only [Int32.toNatClampNeg, len_toInt h1]; rfl
theorem own_box {args : Array Value} {s : State} {t : Term} {a : Addr} {c : Cell} {K : String} {G : Jvm.Cond} (et : ∀ idx, t.eval args s none idx s = some (.ref a)) (A : Arr s s.heap a c (.object K)) (h : (Jvm.Cond.all t (.and (.exactly (.elem t (.index 0)) K) G)).value args s none s [] = some true) :
    ∀ j : Int32, ¬ (j < 0 ∨ c.slots.size ≤ j.toNatClampNeg) → ∃ b : Addr, c.slots[j.toNatClampNeg]? = some (.ref b) ∧ Exa s s.heap b K := fun j hj => by
  have nn : ¬ j < 0 := fun x => hj (Or.inl x)
  obtain ⟨u1, -⟩ := and_e (Cond.all_elim (et []) (A.fin (Vm.Alike.refl _)) h j.toNatClampNeg (Nat.lt_of_not_le fun x => hj (Or.inr x)))
  obtain ⟨b, eb⟩ := exa_v u1
  exact ⟨b, (elem_f (et _) (idx_at nn) (A.fin (Vm.Alike.refl _)) nn).symm.trans eb, exa_at eb u1⟩
theorem own_neI {Z : State} {h : Heap} {a b : Addr} {C n d : String} {x y : Int32} (F : Fld Z h a C n d (.int x)) (G : Fld Z h b C n d (.int y)) (hn : x ≠ y) : ¬ a = b := fun e => by
  subst e
  obtain ⟨c1, cf1, k1, i1, f1, a1, a2, -, -, -, -, a7⟩ := F
  obtain ⟨c2, cf2, k2, i2, f2, b1, b2, -, -, -, -, b7⟩ := G
  cases a1.symm.trans b1
  cases a2.symm.trans b2
  cases a7.symm.trans b7
  exact hn rfl
theorem own_neJ {Z : State} {h : Heap} {a b : Addr} {C n d : String} {x y : Int64} (F : Fld Z h a C n d (.long x)) (G : Fld Z h b C n d (.long y)) (hn : x ≠ y) : ¬ a = b := fun e => by
  subst e
  obtain ⟨c1, cf1, k1, i1, f1, a1, a2, -, -, -, -, a7⟩ := F
  obtain ⟨c2, cf2, k2, i2, f2, b1, b2, -, -, -, -, b7⟩ := G
  cases a1.symm.trans b1
  cases a2.symm.trans b2
  cases a7.symm.trans b7
  exact hn rfl
def own_mem (c : Int32) : Int32 := if ¬ c < 128 then 0 else if c = 9 then 524 else if ¬ c < 10 ∧ ¬ 13 < c then 520 else if c < 32 ∨ c = 127 then 8 else if c = 32 then 644 else if ¬ c < 48 ∧ ¬ 57 < c then 2225 else if ¬ c < 65 ∧ ¬ 70 < c then 3235 else if ¬ c < 71 ∧ ¬ 90 < c then 1187 else if ¬ c < 97 ∧ ¬ 102 < c then 2275 else if ¬ c < 103 ∧ ¬ 122 < c then 227 else 416
def own_lo (c : Int32) : Int32 := if c < (97 : Int32) then (0 : Int32) else if (122 : Int32) < c then (0 : Int32) else (1 : Int32)
def own_up (c : Int32) : Int32 := if c < (65 : Int32) then (0 : Int32) else if (90 : Int32) < c then (0 : Int32) else (1 : Int32)
def own_dg (c : Int32) : Int32 := if c < (48 : Int32) then (0 : Int32) else if (57 : Int32) < c then (0 : Int32) else (1 : Int32)
def own_gr (c : Int32) : Int32 := if (32 : Int32) < c then (if c < (127 : Int32) then (1 : Int32) else (0 : Int32)) else (0 : Int32)
def own_in (k c : Int32) : Int32 := if (((own_mem c) >>> (k &&& 31)) &&& (1 : Int32)) = (0 : Int32) then 0 else 1
theorem own_fin {F : Int32 → Int32} {b : Int32} {lo hi : Nat} (c : Int32) (h1 : (lo : Int) ≤ c.toInt) (h2 : c.toInt ≤ (hi : Int)) (h3 : hi < 256) (hd : ∀ i : Fin 256, lo ≤ i.1 → i.1 ≤ hi → F (Int32.ofNat i.1) = b) : F c = b := by
  obtain ⟨n, hn⟩ : ∃ n : Nat, c.toInt = n := ⟨c.toInt.toNat, by omega⟩
  have hs : c = Int32.ofNat n := by rw [← Int32.toInt_inj, hn, Int32.toInt_ofNat_small (by omega)]
  rw [hs]
  exact hd ⟨n, by omega⟩ (by show lo ≤ n; omega) (by show n ≤ hi; omega)
theorem own_all {P : Int32 → Prop} (c : Int32) (h1 : ¬ (c < (0 : Int32))) (h2 : c < (256 : Int32)) (hd : ∀ i : Fin 256, P (Int32.ofNat i.1)) : P c := by
  have z1 : ¬ c.toInt < 0 := fun q => h1 (Int32.lt_iff_toInt_lt.mpr q)
  have z2 : c.toInt < 256 := Int32.lt_iff_toInt_lt.mp h2
  obtain ⟨n, hn⟩ : ∃ n : Nat, c.toInt = n := ⟨c.toInt.toNat, by omega⟩
  have hs : c = Int32.ofNat n := by rw [← Int32.toInt_inj, hn, Int32.toInt_ofNat_small (by omega)]
  rw [hs]
  exact hd ⟨n, by omega⟩
theorem own_twelve (p : Int32) : ((p &&& (2147483647 : Int32)) % (12 : Int32)) = (0 : Int32) ∨ ((p &&& (2147483647 : Int32)) % (12 : Int32)) = (1 : Int32) ∨ ((p &&& (2147483647 : Int32)) % (12 : Int32)) = (2 : Int32) ∨ ((p &&& (2147483647 : Int32)) % (12 : Int32)) = (3 : Int32) ∨ ((p &&& (2147483647 : Int32)) % (12 : Int32)) = (4 : Int32) ∨ ((p &&& (2147483647 : Int32)) % (12 : Int32)) = (5 : Int32) ∨ ((p &&& (2147483647 : Int32)) % (12 : Int32)) = (6 : Int32) ∨ ((p &&& (2147483647 : Int32)) % (12 : Int32)) = (7 : Int32) ∨ ((p &&& (2147483647 : Int32)) % (12 : Int32)) = (8 : Int32) ∨ ((p &&& (2147483647 : Int32)) % (12 : Int32)) = (9 : Int32) ∨ ((p &&& (2147483647 : Int32)) % (12 : Int32)) = (10 : Int32) ∨ ((p &&& (2147483647 : Int32)) % (12 : Int32)) = (11 : Int32) := by
  have h0 : (p &&& (2147483647 : Int32)).toInt = p.toInt % 2147483648 := c_mask p 2147483647 31 (by decide) (by decide)
  have h1 := (c_irem (p &&& (2147483647 : Int32)) 12 12 rfl).1 (by omega)
  generalize ((p &&& (2147483647 : Int32)) % (12 : Int32)) = z at *
  have e0 : (0 : Int32).toInt = 0 := rfl
  have e1 : (1 : Int32).toInt = 1 := rfl
  have e2 : (2 : Int32).toInt = 2 := rfl
  have e3 : (3 : Int32).toInt = 3 := rfl
  have e4 : (4 : Int32).toInt = 4 := rfl
  have e5 : (5 : Int32).toInt = 5 := rfl
  have e6 : (6 : Int32).toInt = 6 := rfl
  have e7 : (7 : Int32).toInt = 7 := rfl
  have e8 : (8 : Int32).toInt = 8 := rfl
  have e9 : (9 : Int32).toInt = 9 := rfl
  have e10 : (10 : Int32).toInt = 10 := rfl
  have e11 : (11 : Int32).toInt = 11 := rfl
  simp only [← Int32.toInt_inj, e0, e1, e2, e3, e4, e5, e6, e7, e8, e9, e10, e11]
  omega
def own_pick (w : Nat → Addr) (k : Int32) : Addr := if k = (0 : Int32) then (w 4) else if k = (1 : Int32) then (w 1) else if k = (2 : Int32) then (w 9) else if k = (3 : Int32) then (w 0) else if k = (4 : Int32) then (w 5) else if k = (5 : Int32) then (w 7) else if k = (6 : Int32) then (w 10) else if k = (7 : Int32) then (w 6) else if k = (8 : Int32) then (w 3) else if k = (9 : Int32) then (w 11) else if k = (10 : Int32) then (w 8) else (w 2)
theorem own_b (p : Int32) : ¬ ((p &&& (255 : Int32)) < (0 : Int32)) ∧ (p &&& (255 : Int32)) < (256 : Int32) := by
  have h0 : (p &&& (255 : Int32)).toInt = p.toInt % 256 := c_mask p 255 8 (by decide) (by decide)
  generalize (p &&& (255 : Int32)) = z at *
  have e0 : (0 : Int32).toInt = 0 := rfl
  have e1 : (256 : Int32).toInt = 256 := rfl
  rw [Int32.lt_iff_toInt_lt, Int32.lt_iff_toInt_lt, e0, e1]; omega
def own_World (Z : State) (w : Nat → Addr) : Prop := Sta Z Z.heap "com/example/lamassu/lamassu/builtin/CharClass" "CNTRL" "Lcom/example/lamassu/lamassu/builtin/CharClass;" (.ref (w 0)) ∧ Exa Z Z.heap (w 0) "com/example/lamassu/lamassu/builtin/CharClass" ∧ Sta Z Z.heap "com/example/lamassu/lamassu/builtin/CharClass" "ALPHA" "Lcom/example/lamassu/lamassu/builtin/CharClass;" (.ref (w 1)) ∧ Exa Z Z.heap (w 1) "com/example/lamassu/lamassu/builtin/CharClass" ∧ Sta Z Z.heap "com/example/lamassu/lamassu/builtin/CharClass" "XDIGIT" "Lcom/example/lamassu/lamassu/builtin/CharClass;" (.ref (w 2)) ∧ Exa Z Z.heap (w 2) "com/example/lamassu/lamassu/builtin/CharClass" ∧ Sta Z Z.heap "com/example/lamassu/lamassu/builtin/CharClass" "PUNCT" "Lcom/example/lamassu/lamassu/builtin/CharClass;" (.ref (w 3)) ∧ Exa Z Z.heap (w 3) "com/example/lamassu/lamassu/builtin/CharClass" ∧ Sta Z Z.heap "com/example/lamassu/lamassu/builtin/CharClass" "ALNUM" "Lcom/example/lamassu/lamassu/builtin/CharClass;" (.ref (w 4)) ∧ Exa Z Z.heap (w 4) "com/example/lamassu/lamassu/builtin/CharClass" ∧ Sta Z Z.heap "com/example/lamassu/lamassu/builtin/CharClass" "DIGIT" "Lcom/example/lamassu/lamassu/builtin/CharClass;" (.ref (w 5)) ∧ Exa Z Z.heap (w 5) "com/example/lamassu/lamassu/builtin/CharClass" ∧ Sta Z Z.heap "com/example/lamassu/lamassu/builtin/CharClass" "PRINT" "Lcom/example/lamassu/lamassu/builtin/CharClass;" (.ref (w 6)) ∧ Exa Z Z.heap (w 6) "com/example/lamassu/lamassu/builtin/CharClass" ∧ Sta Z Z.heap "com/example/lamassu/lamassu/builtin/CharClass" "GRAPH" "Lcom/example/lamassu/lamassu/builtin/CharClass;" (.ref (w 7)) ∧ Exa Z Z.heap (w 7) "com/example/lamassu/lamassu/builtin/CharClass" ∧ Sta Z Z.heap "com/example/lamassu/lamassu/builtin/CharClass" "UPPER" "Lcom/example/lamassu/lamassu/builtin/CharClass;" (.ref (w 8)) ∧ Exa Z Z.heap (w 8) "com/example/lamassu/lamassu/builtin/CharClass" ∧ Sta Z Z.heap "com/example/lamassu/lamassu/builtin/CharClass" "BLANK" "Lcom/example/lamassu/lamassu/builtin/CharClass;" (.ref (w 9)) ∧ Exa Z Z.heap (w 9) "com/example/lamassu/lamassu/builtin/CharClass" ∧ Sta Z Z.heap "com/example/lamassu/lamassu/builtin/CharClass" "LOWER" "Lcom/example/lamassu/lamassu/builtin/CharClass;" (.ref (w 10)) ∧ Exa Z Z.heap (w 10) "com/example/lamassu/lamassu/builtin/CharClass" ∧ Sta Z Z.heap "com/example/lamassu/lamassu/builtin/CharClass" "SPACE" "Lcom/example/lamassu/lamassu/builtin/CharClass;" (.ref (w 11)) ∧ Exa Z Z.heap (w 11) "com/example/lamassu/lamassu/builtin/CharClass" ∧ Fld Z Z.heap (w 0) "java/lang/Enum" "ordinal" "I" (.int 3) ∧ Fld Z Z.heap (w 1) "java/lang/Enum" "ordinal" "I" (.int 1) ∧ Fld Z Z.heap (w 2) "java/lang/Enum" "ordinal" "I" (.int 11) ∧ Fld Z Z.heap (w 3) "java/lang/Enum" "ordinal" "I" (.int 8) ∧ Fld Z Z.heap (w 4) "java/lang/Enum" "ordinal" "I" (.int 0) ∧ Fld Z Z.heap (w 5) "java/lang/Enum" "ordinal" "I" (.int 4) ∧ Fld Z Z.heap (w 6) "java/lang/Enum" "ordinal" "I" (.int 7) ∧ Fld Z Z.heap (w 7) "java/lang/Enum" "ordinal" "I" (.int 5) ∧ Fld Z Z.heap (w 8) "java/lang/Enum" "ordinal" "I" (.int 10) ∧ Fld Z Z.heap (w 9) "java/lang/Enum" "ordinal" "I" (.int 2) ∧ Fld Z Z.heap (w 10) "java/lang/Enum" "ordinal" "I" (.int 6) ∧ Fld Z Z.heap (w 11) "java/lang/Enum" "ordinal" "I" (.int 9)
theorem own_world {args : Array Value} {s : State} (hw : ∀ d ∈ tables_1, d.before args s = true) (hfit : Fit s) (hn : narrow_1.value args s none s [] = some true) : ∃ w : Nat → Addr, own_World s w := by
  obtain ⟨h0, q1⟩ := and_e hn
  obtain ⟨h1, q3⟩ := and_e q1
  obtain ⟨h2, q5⟩ := and_e q3
  obtain ⟨h3, q7⟩ := and_e q5
  obtain ⟨h4, q9⟩ := and_e q7
  obtain ⟨h5, q11⟩ := and_e q9
  obtain ⟨h6, q13⟩ := and_e q11
  obtain ⟨h7, q15⟩ := and_e q13
  obtain ⟨h8, q17⟩ := and_e q15
  obtain ⟨h9, q19⟩ := and_e q17
  obtain ⟨h10, q21⟩ := and_e q19
  obtain ⟨h11, q23⟩ := and_e q21
  obtain ⟨h12, q25⟩ := and_e q23
  obtain ⟨h13, q27⟩ := and_e q25
  obtain ⟨h14, q29⟩ := and_e q27
  obtain ⟨h15, q31⟩ := and_e q29
  obtain ⟨h16, q33⟩ := and_e q31
  obtain ⟨h17, q35⟩ := and_e q33
  obtain ⟨h18, q37⟩ := and_e q35
  obtain ⟨h19, q39⟩ := and_e q37
  obtain ⟨h20, q41⟩ := and_e q39
  obtain ⟨h21, q43⟩ := and_e q41
  obtain ⟨h22, h23⟩ := and_e q43
  obtain ⟨c0, e0⟩ := exa_v h0
  obtain ⟨c1, e1⟩ := exa_v h2
  obtain ⟨c2, e2⟩ := exa_v h4
  obtain ⟨c3, e3⟩ := exa_v h6
  obtain ⟨c4, e4⟩ := exa_v h8
  obtain ⟨c5, e5⟩ := exa_v h10
  obtain ⟨c6, e6⟩ := exa_v h12
  obtain ⟨c7, e7⟩ := exa_v h14
  obtain ⟨c8, e8⟩ := exa_v h16
  obtain ⟨c9, e9⟩ := exa_v h18
  obtain ⟨c10, e10⟩ := exa_v h20
  obtain ⟨c11, e11⟩ := exa_v h22
  exact ⟨fun n => ([c0, c1, c2, c3, c4, c5, c6, c7, c8, c9, c10, c11] : List Nat).getD n 0, Sta.start e0 (Or.inr ⟨(oW hw 6 rfl), (oW hw 7 rfl)⟩), Exa.start e0 h0, Sta.start e1 (Or.inr ⟨(oW hw 6 rfl), (oW hw 26 rfl)⟩), Exa.start e1 h2, Sta.start e2 (Or.inr ⟨(oW hw 6 rfl), (oW hw 28 rfl)⟩), Exa.start e2 h4, Sta.start e3 (Or.inr ⟨(oW hw 6 rfl), (oW hw 30 rfl)⟩), Exa.start e3 h6, Sta.start e4 (Or.inr ⟨(oW hw 6 rfl), (oW hw 32 rfl)⟩), Exa.start e4 h8, Sta.start e5 (Or.inr ⟨(oW hw 6 rfl), (oW hw 34 rfl)⟩), Exa.start e5 h10, Sta.start e6 (Or.inr ⟨(oW hw 6 rfl), (oW hw 36 rfl)⟩), Exa.start e6 h12, Sta.start e7 (Or.inr ⟨(oW hw 6 rfl), (oW hw 38 rfl)⟩), Exa.start e7 h14, Sta.start e8 (Or.inr ⟨(oW hw 6 rfl), (oW hw 40 rfl)⟩), Exa.start e8 h16, Sta.start e9 (Or.inr ⟨(oW hw 6 rfl), (oW hw 42 rfl)⟩), Exa.start e9 h18, Sta.start e10 (Or.inr ⟨(oW hw 6 rfl), (oW hw 44 rfl)⟩), Exa.start e10 h20, Sta.start e11 (Or.inr ⟨(oW hw 6 rfl), (oW hw 46 rfl)⟩), Exa.start e11 h22, Fld.start ((fld_at e0).symm.trans (own_eqv h1 rfl)), Fld.start ((fld_at e1).symm.trans (own_eqv h3 rfl)), Fld.start ((fld_at e2).symm.trans (own_eqv h5 rfl)), Fld.start ((fld_at e3).symm.trans (own_eqv h7 rfl)), Fld.start ((fld_at e4).symm.trans (own_eqv h9 rfl)), Fld.start ((fld_at e5).symm.trans (own_eqv h11 rfl)), Fld.start ((fld_at e6).symm.trans (own_eqv h13 rfl)), Fld.start ((fld_at e7).symm.trans (own_eqv h15 rfl)), Fld.start ((fld_at e8).symm.trans (own_eqv h17 rfl)), Fld.start ((fld_at e9).symm.trans (own_eqv h19 rfl)), Fld.start ((fld_at e10).symm.trans (own_eqv h21 rfl)), Fld.start ((fld_at e11).symm.trans (own_eqv h23 rfl))⟩
theorem wS0 {Z : State} {w : Nat → Addr} (W : own_World Z w) : Sta Z Z.heap "com/example/lamassu/lamassu/builtin/CharClass" "CNTRL" "Lcom/example/lamassu/lamassu/builtin/CharClass;" (.ref (w 0)) := W.1
theorem wE0 {Z : State} {w : Nat → Addr} (W : own_World Z w) : Exa Z Z.heap (w 0) "com/example/lamassu/lamassu/builtin/CharClass" := W.2.1
theorem wS1 {Z : State} {w : Nat → Addr} (W : own_World Z w) : Sta Z Z.heap "com/example/lamassu/lamassu/builtin/CharClass" "ALPHA" "Lcom/example/lamassu/lamassu/builtin/CharClass;" (.ref (w 1)) := W.2.2.1
theorem wE1 {Z : State} {w : Nat → Addr} (W : own_World Z w) : Exa Z Z.heap (w 1) "com/example/lamassu/lamassu/builtin/CharClass" := W.2.2.2.1
theorem wS2 {Z : State} {w : Nat → Addr} (W : own_World Z w) : Sta Z Z.heap "com/example/lamassu/lamassu/builtin/CharClass" "XDIGIT" "Lcom/example/lamassu/lamassu/builtin/CharClass;" (.ref (w 2)) := W.2.2.2.2.1
theorem wE2 {Z : State} {w : Nat → Addr} (W : own_World Z w) : Exa Z Z.heap (w 2) "com/example/lamassu/lamassu/builtin/CharClass" := W.2.2.2.2.2.1
theorem wS3 {Z : State} {w : Nat → Addr} (W : own_World Z w) : Sta Z Z.heap "com/example/lamassu/lamassu/builtin/CharClass" "PUNCT" "Lcom/example/lamassu/lamassu/builtin/CharClass;" (.ref (w 3)) := W.2.2.2.2.2.2.1
theorem wE3 {Z : State} {w : Nat → Addr} (W : own_World Z w) : Exa Z Z.heap (w 3) "com/example/lamassu/lamassu/builtin/CharClass" := W.2.2.2.2.2.2.2.1
theorem wS4 {Z : State} {w : Nat → Addr} (W : own_World Z w) : Sta Z Z.heap "com/example/lamassu/lamassu/builtin/CharClass" "ALNUM" "Lcom/example/lamassu/lamassu/builtin/CharClass;" (.ref (w 4)) := W.2.2.2.2.2.2.2.2.1
theorem wE4 {Z : State} {w : Nat → Addr} (W : own_World Z w) : Exa Z Z.heap (w 4) "com/example/lamassu/lamassu/builtin/CharClass" := W.2.2.2.2.2.2.2.2.2.1
theorem wS5 {Z : State} {w : Nat → Addr} (W : own_World Z w) : Sta Z Z.heap "com/example/lamassu/lamassu/builtin/CharClass" "DIGIT" "Lcom/example/lamassu/lamassu/builtin/CharClass;" (.ref (w 5)) := W.2.2.2.2.2.2.2.2.2.2.1
theorem wE5 {Z : State} {w : Nat → Addr} (W : own_World Z w) : Exa Z Z.heap (w 5) "com/example/lamassu/lamassu/builtin/CharClass" := W.2.2.2.2.2.2.2.2.2.2.2.1
theorem wS6 {Z : State} {w : Nat → Addr} (W : own_World Z w) : Sta Z Z.heap "com/example/lamassu/lamassu/builtin/CharClass" "PRINT" "Lcom/example/lamassu/lamassu/builtin/CharClass;" (.ref (w 6)) := W.2.2.2.2.2.2.2.2.2.2.2.2.1
theorem wE6 {Z : State} {w : Nat → Addr} (W : own_World Z w) : Exa Z Z.heap (w 6) "com/example/lamassu/lamassu/builtin/CharClass" := W.2.2.2.2.2.2.2.2.2.2.2.2.2.1
theorem wS7 {Z : State} {w : Nat → Addr} (W : own_World Z w) : Sta Z Z.heap "com/example/lamassu/lamassu/builtin/CharClass" "GRAPH" "Lcom/example/lamassu/lamassu/builtin/CharClass;" (.ref (w 7)) := W.2.2.2.2.2.2.2.2.2.2.2.2.2.2.1
theorem wE7 {Z : State} {w : Nat → Addr} (W : own_World Z w) : Exa Z Z.heap (w 7) "com/example/lamassu/lamassu/builtin/CharClass" := W.2.2.2.2.2.2.2.2.2.2.2.2.2.2.2.1
theorem wS8 {Z : State} {w : Nat → Addr} (W : own_World Z w) : Sta Z Z.heap "com/example/lamassu/lamassu/builtin/CharClass" "UPPER" "Lcom/example/lamassu/lamassu/builtin/CharClass;" (.ref (w 8)) := W.2.2.2.2.2.2.2.2.2.2.2.2.2.2.2.2.1
theorem wE8 {Z : State} {w : Nat → Addr} (W : own_World Z w) : Exa Z Z.heap (w 8) "com/example/lamassu/lamassu/builtin/CharClass" := W.2.2.2.2.2.2.2.2.2.2.2.2.2.2.2.2.2.1
theorem wS9 {Z : State} {w : Nat → Addr} (W : own_World Z w) : Sta Z Z.heap "com/example/lamassu/lamassu/builtin/CharClass" "BLANK" "Lcom/example/lamassu/lamassu/builtin/CharClass;" (.ref (w 9)) := W.2.2.2.2.2.2.2.2.2.2.2.2.2.2.2.2.2.2.1
theorem wE9 {Z : State} {w : Nat → Addr} (W : own_World Z w) : Exa Z Z.heap (w 9) "com/example/lamassu/lamassu/builtin/CharClass" := W.2.2.2.2.2.2.2.2.2.2.2.2.2.2.2.2.2.2.2.1
theorem wS10 {Z : State} {w : Nat → Addr} (W : own_World Z w) : Sta Z Z.heap "com/example/lamassu/lamassu/builtin/CharClass" "LOWER" "Lcom/example/lamassu/lamassu/builtin/CharClass;" (.ref (w 10)) := W.2.2.2.2.2.2.2.2.2.2.2.2.2.2.2.2.2.2.2.2.1
theorem wE10 {Z : State} {w : Nat → Addr} (W : own_World Z w) : Exa Z Z.heap (w 10) "com/example/lamassu/lamassu/builtin/CharClass" := W.2.2.2.2.2.2.2.2.2.2.2.2.2.2.2.2.2.2.2.2.2.1
theorem wS11 {Z : State} {w : Nat → Addr} (W : own_World Z w) : Sta Z Z.heap "com/example/lamassu/lamassu/builtin/CharClass" "SPACE" "Lcom/example/lamassu/lamassu/builtin/CharClass;" (.ref (w 11)) := W.2.2.2.2.2.2.2.2.2.2.2.2.2.2.2.2.2.2.2.2.2.2.1
theorem wE11 {Z : State} {w : Nat → Addr} (W : own_World Z w) : Exa Z Z.heap (w 11) "com/example/lamassu/lamassu/builtin/CharClass" := W.2.2.2.2.2.2.2.2.2.2.2.2.2.2.2.2.2.2.2.2.2.2.2.1
theorem wF0_ordinal {Z : State} {w : Nat → Addr} (W : own_World Z w) : Fld Z Z.heap (w 0) "java/lang/Enum" "ordinal" "I" (.int 3) := W.2.2.2.2.2.2.2.2.2.2.2.2.2.2.2.2.2.2.2.2.2.2.2.2.1
theorem wF1_ordinal {Z : State} {w : Nat → Addr} (W : own_World Z w) : Fld Z Z.heap (w 1) "java/lang/Enum" "ordinal" "I" (.int 1) := W.2.2.2.2.2.2.2.2.2.2.2.2.2.2.2.2.2.2.2.2.2.2.2.2.2.1
theorem wF2_ordinal {Z : State} {w : Nat → Addr} (W : own_World Z w) : Fld Z Z.heap (w 2) "java/lang/Enum" "ordinal" "I" (.int 11) := W.2.2.2.2.2.2.2.2.2.2.2.2.2.2.2.2.2.2.2.2.2.2.2.2.2.2.1
theorem wF3_ordinal {Z : State} {w : Nat → Addr} (W : own_World Z w) : Fld Z Z.heap (w 3) "java/lang/Enum" "ordinal" "I" (.int 8) := W.2.2.2.2.2.2.2.2.2.2.2.2.2.2.2.2.2.2.2.2.2.2.2.2.2.2.2.1
theorem wF4_ordinal {Z : State} {w : Nat → Addr} (W : own_World Z w) : Fld Z Z.heap (w 4) "java/lang/Enum" "ordinal" "I" (.int 0) := W.2.2.2.2.2.2.2.2.2.2.2.2.2.2.2.2.2.2.2.2.2.2.2.2.2.2.2.2.1
theorem wF5_ordinal {Z : State} {w : Nat → Addr} (W : own_World Z w) : Fld Z Z.heap (w 5) "java/lang/Enum" "ordinal" "I" (.int 4) := W.2.2.2.2.2.2.2.2.2.2.2.2.2.2.2.2.2.2.2.2.2.2.2.2.2.2.2.2.2.1
theorem wF6_ordinal {Z : State} {w : Nat → Addr} (W : own_World Z w) : Fld Z Z.heap (w 6) "java/lang/Enum" "ordinal" "I" (.int 7) := W.2.2.2.2.2.2.2.2.2.2.2.2.2.2.2.2.2.2.2.2.2.2.2.2.2.2.2.2.2.2.1
theorem wF7_ordinal {Z : State} {w : Nat → Addr} (W : own_World Z w) : Fld Z Z.heap (w 7) "java/lang/Enum" "ordinal" "I" (.int 5) := W.2.2.2.2.2.2.2.2.2.2.2.2.2.2.2.2.2.2.2.2.2.2.2.2.2.2.2.2.2.2.2.1
theorem wF8_ordinal {Z : State} {w : Nat → Addr} (W : own_World Z w) : Fld Z Z.heap (w 8) "java/lang/Enum" "ordinal" "I" (.int 10) := W.2.2.2.2.2.2.2.2.2.2.2.2.2.2.2.2.2.2.2.2.2.2.2.2.2.2.2.2.2.2.2.2.1
theorem wF9_ordinal {Z : State} {w : Nat → Addr} (W : own_World Z w) : Fld Z Z.heap (w 9) "java/lang/Enum" "ordinal" "I" (.int 2) := W.2.2.2.2.2.2.2.2.2.2.2.2.2.2.2.2.2.2.2.2.2.2.2.2.2.2.2.2.2.2.2.2.2.1
theorem wF10_ordinal {Z : State} {w : Nat → Addr} (W : own_World Z w) : Fld Z Z.heap (w 10) "java/lang/Enum" "ordinal" "I" (.int 6) := W.2.2.2.2.2.2.2.2.2.2.2.2.2.2.2.2.2.2.2.2.2.2.2.2.2.2.2.2.2.2.2.2.2.2.1
theorem wF11_ordinal {Z : State} {w : Nat → Addr} (W : own_World Z w) : Fld Z Z.heap (w 11) "java/lang/Enum" "ordinal" "I" (.int 9) := W.2.2.2.2.2.2.2.2.2.2.2.2.2.2.2.2.2.2.2.2.2.2.2.2.2.2.2.2.2.2.2.2.2.2.2
theorem d2_0 : decode method_2_code 0 = .ok (.iload_n 0, 1) := by decide +kernel
theorem d2_1 : decode method_2_code 1 = .ok (.sipush 128, 3) := by decide +kernel
theorem ls_128 : (Int16.ofInt (128)).toInt32 = (128 : Int32) := by decide
theorem d2_4 : decode method_2_code 4 = .ok (.if_icmp .lt 5, 3) := by decide +kernel
theorem d2_9 : decode method_2_code 9 = .ok (.iload_n 0, 1) := by decide +kernel
theorem d2_10 : decode method_2_code 10 = .ok (.bipush 9, 2) := by decide +kernel
theorem lb_9 : (Int8.ofInt (9)).toInt32 = (9 : Int32) := by decide
theorem d2_12 : decode method_2_code 12 = .ok (.if_icmp .ne 7, 3) := by decide +kernel
theorem d2_15 : decode method_2_code 15 = .ok (.sipush 524, 3) := by decide +kernel
theorem ls_524 : (Int16.ofInt (524)).toInt32 = (524 : Int32) := by decide
theorem d2_18 : decode method_2_code 18 = .ok (.ireturn, 1) := by decide +kernel
theorem d2_19 : decode method_2_code 19 = .ok (.iload_n 0, 1) := by decide +kernel
theorem d2_20 : decode method_2_code 20 = .ok (.bipush 10, 2) := by decide +kernel
theorem lb_10 : (Int8.ofInt (10)).toInt32 = (10 : Int32) := by decide
theorem d2_22 : decode method_2_code 22 = .ok (.if_icmp .lt 13, 3) := by decide +kernel
theorem d2_35 : decode method_2_code 35 = .ok (.iload_n 0, 1) := by decide +kernel
theorem d2_36 : decode method_2_code 36 = .ok (.bipush 32, 2) := by decide +kernel
theorem lb_32 : (Int8.ofInt (32)).toInt32 = (32 : Int32) := by decide
theorem d2_38 : decode method_2_code 38 = .ok (.if_icmp .lt 9, 3) := by decide +kernel
theorem d2_47 : decode method_2_code 47 = .ok (.bipush 8, 2) := by decide +kernel
theorem lb_8 : (Int8.ofInt (8)).toInt32 = (8 : Int32) := by decide
theorem d2_49 : decode method_2_code 49 = .ok (.ireturn, 1) := by decide +kernel
theorem d2_25 : decode method_2_code 25 = .ok (.iload_n 0, 1) := by decide +kernel
theorem d2_26 : decode method_2_code 26 = .ok (.bipush 13, 2) := by decide +kernel
theorem lb_13 : (Int8.ofInt (13)).toInt32 = (13 : Int32) := by decide
theorem d2_28 : decode method_2_code 28 = .ok (.if_icmp .gt 7, 3) := by decide +kernel
theorem d2_41 : decode method_2_code 41 = .ok (.iload_n 0, 1) := by decide +kernel
theorem d2_42 : decode method_2_code 42 = .ok (.bipush 127, 2) := by decide +kernel
theorem lb_127 : (Int8.ofInt (127)).toInt32 = (127 : Int32) := by decide
theorem d2_44 : decode method_2_code 44 = .ok (.if_icmp .ne 6, 3) := by decide +kernel
theorem d2_50 : decode method_2_code 50 = .ok (.iload_n 0, 1) := by decide +kernel
theorem d2_51 : decode method_2_code 51 = .ok (.bipush 32, 2) := by decide +kernel
theorem d2_53 : decode method_2_code 53 = .ok (.if_icmp .ne 7, 3) := by decide +kernel
theorem d2_56 : decode method_2_code 56 = .ok (.sipush 644, 3) := by decide +kernel
theorem ls_644 : (Int16.ofInt (644)).toInt32 = (644 : Int32) := by decide
theorem d2_59 : decode method_2_code 59 = .ok (.ireturn, 1) := by decide +kernel
theorem d2_60 : decode method_2_code 60 = .ok (.iload_n 0, 1) := by decide +kernel
theorem d2_61 : decode method_2_code 61 = .ok (.bipush 48, 2) := by decide +kernel
theorem lb_48 : (Int8.ofInt (48)).toInt32 = (48 : Int32) := by decide
theorem d2_63 : decode method_2_code 63 = .ok (.if_icmp .lt 13, 3) := by decide +kernel
theorem d2_76 : decode method_2_code 76 = .ok (.iload_n 0, 1) := by decide +kernel
theorem d2_77 : decode method_2_code 77 = .ok (.bipush 65, 2) := by decide +kernel
theorem lb_65 : (Int8.ofInt (65)).toInt32 = (65 : Int32) := by decide
theorem d2_79 : decode method_2_code 79 = .ok (.if_icmp .lt 13, 3) := by decide +kernel
theorem d2_92 : decode method_2_code 92 = .ok (.iload_n 0, 1) := by decide +kernel
theorem d2_93 : decode method_2_code 93 = .ok (.bipush 71, 2) := by decide +kernel
theorem lb_71 : (Int8.ofInt (71)).toInt32 = (71 : Int32) := by decide
theorem d2_95 : decode method_2_code 95 = .ok (.if_icmp .lt 13, 3) := by decide +kernel
theorem d2_108 : decode method_2_code 108 = .ok (.iload_n 0, 1) := by decide +kernel
theorem d2_109 : decode method_2_code 109 = .ok (.bipush 97, 2) := by decide +kernel
theorem lb_97 : (Int8.ofInt (97)).toInt32 = (97 : Int32) := by decide
theorem d2_111 : decode method_2_code 111 = .ok (.if_icmp .lt 13, 3) := by decide +kernel
theorem d2_124 : decode method_2_code 124 = .ok (.iload_n 0, 1) := by decide +kernel
theorem d2_125 : decode method_2_code 125 = .ok (.bipush 103, 2) := by decide +kernel
theorem lb_103 : (Int8.ofInt (103)).toInt32 = (103 : Int32) := by decide
theorem d2_127 : decode method_2_code 127 = .ok (.if_icmp .lt 13, 3) := by decide +kernel
theorem d2_140 : decode method_2_code 140 = .ok (.sipush 416, 3) := by decide +kernel
theorem ls_416 : (Int16.ofInt (416)).toInt32 = (416 : Int32) := by decide
theorem d2_143 : decode method_2_code 143 = .ok (.ireturn, 1) := by decide +kernel
theorem d2_66 : decode method_2_code 66 = .ok (.iload_n 0, 1) := by decide +kernel
theorem d2_67 : decode method_2_code 67 = .ok (.bipush 57, 2) := by decide +kernel
theorem lb_57 : (Int8.ofInt (57)).toInt32 = (57 : Int32) := by decide
theorem d2_69 : decode method_2_code 69 = .ok (.if_icmp .gt 7, 3) := by decide +kernel
theorem d2_82 : decode method_2_code 82 = .ok (.iload_n 0, 1) := by decide +kernel
theorem d2_83 : decode method_2_code 83 = .ok (.bipush 70, 2) := by decide +kernel
theorem lb_70 : (Int8.ofInt (70)).toInt32 = (70 : Int32) := by decide
theorem d2_85 : decode method_2_code 85 = .ok (.if_icmp .gt 7, 3) := by decide +kernel
theorem d2_98 : decode method_2_code 98 = .ok (.iload_n 0, 1) := by decide +kernel
theorem d2_99 : decode method_2_code 99 = .ok (.bipush 90, 2) := by decide +kernel
theorem lb_90 : (Int8.ofInt (90)).toInt32 = (90 : Int32) := by decide
theorem d2_101 : decode method_2_code 101 = .ok (.if_icmp .gt 7, 3) := by decide +kernel
theorem d2_114 : decode method_2_code 114 = .ok (.iload_n 0, 1) := by decide +kernel
theorem d2_115 : decode method_2_code 115 = .ok (.bipush 102, 2) := by decide +kernel
theorem lb_102 : (Int8.ofInt (102)).toInt32 = (102 : Int32) := by decide
theorem d2_117 : decode method_2_code 117 = .ok (.if_icmp .gt 7, 3) := by decide +kernel
theorem d2_130 : decode method_2_code 130 = .ok (.iload_n 0, 1) := by decide +kernel
theorem d2_131 : decode method_2_code 131 = .ok (.bipush 122, 2) := by decide +kernel
theorem lb_122 : (Int8.ofInt (122)).toInt32 = (122 : Int32) := by decide
theorem d2_133 : decode method_2_code 133 = .ok (.if_icmp .gt 7, 3) := by decide +kernel
theorem d2_136 : decode method_2_code 136 = .ok (.sipush 227, 3) := by decide +kernel
theorem ls_227 : (Int16.ofInt (227)).toInt32 = (227 : Int32) := by decide
theorem d2_139 : decode method_2_code 139 = .ok (.ireturn, 1) := by decide +kernel
theorem d2_120 : decode method_2_code 120 = .ok (.sipush 2275, 3) := by decide +kernel
theorem ls_2275 : (Int16.ofInt (2275)).toInt32 = (2275 : Int32) := by decide
theorem d2_123 : decode method_2_code 123 = .ok (.ireturn, 1) := by decide +kernel
theorem d2_104 : decode method_2_code 104 = .ok (.sipush 1187, 3) := by decide +kernel
theorem ls_1187 : (Int16.ofInt (1187)).toInt32 = (1187 : Int32) := by decide
theorem d2_107 : decode method_2_code 107 = .ok (.ireturn, 1) := by decide +kernel
theorem d2_88 : decode method_2_code 88 = .ok (.sipush 3235, 3) := by decide +kernel
theorem ls_3235 : (Int16.ofInt (3235)).toInt32 = (3235 : Int32) := by decide
theorem d2_91 : decode method_2_code 91 = .ok (.ireturn, 1) := by decide +kernel
theorem d2_72 : decode method_2_code 72 = .ok (.sipush 2225, 3) := by decide +kernel
theorem ls_2225 : (Int16.ofInt (2225)).toInt32 = (2225 : Int32) := by decide
theorem d2_75 : decode method_2_code 75 = .ok (.ireturn, 1) := by decide +kernel
theorem d2_31 : decode method_2_code 31 = .ok (.sipush 520, 3) := by decide +kernel
theorem ls_520 : (Int16.ofInt (520)).toInt32 = (520 : Int32) := by decide
theorem d2_34 : decode method_2_code 34 = .ok (.ireturn, 1) := by decide +kernel
theorem d2_7 : decode method_2_code 7 = .ok (.iconst 0, 1) := by decide +kernel
theorem li_0 : Int32.ofInt (0) = (0 : Int32) := by decide
theorem d2_8 : decode method_2_code 8 = .ok (.ireturn, 1) := by decide +kernel
abbrev mY0 : MethodName := (⟨"com/example/lamassu/lamassu/builtin/CharClassContainsPinLaw", "members", "(I)I"⟩ : MethodName)
theorem ef_2_i (m : MethodId) (x0 : Int32) : entryFrame m #[(.int x0)] 1 = mkF m 0 #[.val (.int x0)] [] := by first | (simp [entryFrame, mkF, argsToLocals, Value.category]; done) | rfl
theorem pn_0 : plainName "com/example/lamassu/lamassu/builtin/CharClassContainsPinLaw" = true := by first | (simp [plainName, overriddenIn]; done) | decide +kernel
def Q_members (Z : State) (p1 : Int32) (h0 : Heap) (n0 : Nat) (v : Option Value) (h : Heap) (L : List Loc) : Prop := v = some (.int (own_mem p1)) ∧ Fr n0 L ∧ h = h0
set_option maxRecDepth 65536 in
set_option maxHeartbeats 40000000 in
theorem rm_members (l : Launch) (Z : State) (a0 : Array Value) (hw : ∀ d ∈ tables_1, d.before a0 Z = true) (ws : List Jvm.Cond) (p1 : Int32) (h0 : Heap) (n0 : Nat) (O0 : Old Z n0 h0) (hlo : ¬ (p1 < (0 : Int32))) (hhi : p1 < (256 : Int32)) :
    MetFree l mY0 (head1 (Jvm.Cond.code mY0 method_2_code 1 (some .int) :: ws) ({ frames := 0, cells := 0, slots := 0, locals := 0 } : Room)) (fun a U => a = #[(.int p1)] ∧ Z.Warmed39 U.vm ∧ U.heap = h0) (fun _ _ _ _ _ => True) (fun _ U o U' => ∃ v L, o = .returned v ∧ Q_members Z p1 h0 n0 v U'.heap L ∧ FrameEnd U o U' L ({ frames := 0, cells := 0, slots := 0, locals := 0 } : Room).cells ({ frames := 0, cells := 0, slots := 0, locals := 0 } : Room).slots) := by
  refine MetFree.of_bodySF (plainFor_of_name pn_0) hisR ?_
  intro p e s m args below meth c s₁ Bd hml0 hP hK
  obtain ⟨rfl, hZ, hh⟩ := hP
  have hx := Bd.exec
  have hby := Bd.bytes
  have hml : c.maxLocals = 1 := hml0
  have hown : s.vm.findClass "com/example/lamassu/lamassu/builtin/CharClassContainsPinLaw" = some m.cls := findClass_of_methodNamed Bd.named
  have hnm := (name_of_methodNamed Bd.named Bd.method).1
  have X0 : Stand p l e ({ frames := 0, cells := 0, slots := 0, locals := 0 } : Room) s m #[(.int p1)] below meth c s₁ [] 0 0 := Stand.of_body Bd
  have e0 : s₁.heap = h0 := by rw [← hh, Bd.state]; rfl
  have N0 := Fr.nil n0
  show oG p e below s (Q_members Z p1 h0 n0) ({ frames := 0, cells := 0, slots := 0, locals := 0 } : Room).cells ({ frames := 0, cells := 0, slots := 0, locals := 0 } : Room).slots _
  refine oS (fun t k => castTop (ef_2_i m p1) k) ?_
  show oG _ _ _ _ _ _ _ (s₁.setTop (mkF m 0 #[.val (.int p1)] []))
  refine oS (fun t k => XS.iloadN X0.here hx rfl (hb hby d2_0) rfl k) ?_
  refine oS (fun t k => oSp ls_128 X0.here hx rfl (hb hby d2_1) k) ?_
  by_cases hc4 : p1 < (128 : Int32)
  · refine oS (fun t k => XS.icmpYes X0.here hx rfl (pc0 := 4) (pc' := 9) rfl (hb hby d2_4) rfl (tlt hc4).1 (by decide) (by decide) k) ?_
    show oG _ _ _ _ _ _ _ (s₁.setTop (mkF m 9 #[.val (.int p1)] []))
    refine oS (fun t k => XS.iloadN X0.here hx rfl (hb hby d2_9) rfl k) ?_
    refine oS (fun t k => oBp lb_9 X0.here hx rfl (hb hby d2_10) k) ?_
    by_cases hc12 : p1 = (9 : Int32)
    · refine oS (fun t k => XS.icmpNo X0.here hx rfl (hb hby d2_12) rfl (teq hc12).2 k) ?_
      show oG _ _ _ _ _ _ _ (s₁.setTop (mkF m 15 #[.val (.int p1)] []))
      refine oS (fun t k => oSp ls_524 X0.here hx rfl (hb hby d2_15) k) ?_
      exact own_ret (v := some (.int 524)) X0 (fun h => by rw [Bd.returns] at h; cases h) Bd.notSynchronized (fun fs hr => retOut X0 hx (t := .int) Bd.returns rfl (Or.inl ⟨rfl, Or.inl rfl, _, rfl⟩) (hb hby d2_18) hr) (by rw [e0]; exact ⟨(congrArg (fun z => some (Value.int z)) (own_fin (F := own_mem) (lo := 9) (hi := 9) p1 (by have z0 : p1.toInt = 9 := (by rw [hc12]; rfl); have z1 : p1.toInt = 9 := (by rw [hc12]; rfl); omega) (by have z0 : p1.toInt = 9 := (by rw [hc12]; rfl); have z1 : p1.toInt = 9 := (by rw [hc12]; rfl); omega) (by decide) (by decide +kernel)).symm), N0, rfl⟩) (by decide) (by decide)
    · refine oS (fun t k => XS.icmpYes X0.here hx rfl (pc0 := 12) (pc' := 19) rfl (hb hby d2_12) rfl (feq hc12).2 (by decide) (by decide) k) ?_
      show oG _ _ _ _ _ _ _ (s₁.setTop (mkF m 19 #[.val (.int p1)] []))
      refine oS (fun t k => XS.iloadN X0.here hx rfl (hb hby d2_19) rfl k) ?_
      refine oS (fun t k => oBp lb_10 X0.here hx rfl (hb hby d2_20) k) ?_
      by_cases hc22 : p1 < (10 : Int32)
      · refine oS (fun t k => XS.icmpYes X0.here hx rfl (pc0 := 22) (pc' := 35) rfl (hb hby d2_22) rfl (tlt hc22).1 (by decide) (by decide) k) ?_
        show oG _ _ _ _ _ _ _ (s₁.setTop (mkF m 35 #[.val (.int p1)] []))
        refine oS (fun t k => XS.iloadN X0.here hx rfl (hb hby d2_35) rfl k) ?_
        refine oS (fun t k => oBp lb_32 X0.here hx rfl (hb hby d2_36) k) ?_
        refine oS (fun t k => XS.icmpYes X0.here hx rfl (pc0 := 38) (pc' := 47) rfl (hb hby d2_38) rfl (tlt (Int32.lt_iff_toInt_lt.mpr (show p1.toInt < 32 by have z0 : p1.toInt < 10 := Int32.lt_iff_toInt_lt.mp hc22; have z1 : ¬ p1.toInt = 9 := fun q => hc12 (Int32.toInt_inj.mp q); omega))).1 (by decide) (by decide) k) ?_
        show oG _ _ _ _ _ _ _ (s₁.setTop (mkF m 47 #[.val (.int p1)] []))
        refine oS (fun t k => oBp lb_8 X0.here hx rfl (hb hby d2_47) k) ?_
        exact own_ret (v := some (.int 8)) X0 (fun h => by rw [Bd.returns] at h; cases h) Bd.notSynchronized (fun fs hr => retOut X0 hx (t := .int) Bd.returns rfl (Or.inl ⟨rfl, Or.inl rfl, _, rfl⟩) (hb hby d2_49) hr) (by rw [e0]; exact ⟨(congrArg (fun z => some (Value.int z)) (own_fin (F := own_mem) (lo := 0) (hi := 8) p1 (by have z0 : ¬ p1.toInt < 0 := fun q => hlo (Int32.lt_iff_toInt_lt.mpr q); have z1 : p1.toInt < 10 := Int32.lt_iff_toInt_lt.mp hc22; have z2 : ¬ p1.toInt = 9 := fun q => hc12 (Int32.toInt_inj.mp q); omega) (by have z0 : ¬ p1.toInt < 0 := fun q => hlo (Int32.lt_iff_toInt_lt.mpr q); have z1 : p1.toInt < 10 := Int32.lt_iff_toInt_lt.mp hc22; have z2 : ¬ p1.toInt = 9 := fun q => hc12 (Int32.toInt_inj.mp q); omega) (by decide) (by decide +kernel)).symm), N0, rfl⟩) (by decide) (by decide)
      · refine oS (fun t k => XS.icmpNo X0.here hx rfl (hb hby d2_22) rfl (flt hc22).1 k) ?_
        show oG _ _ _ _ _ _ _ (s₁.setTop (mkF m 25 #[.val (.int p1)] []))
        refine oS (fun t k => XS.iloadN X0.here hx rfl (hb hby d2_25) rfl k) ?_
        refine oS (fun t k => oBp lb_13 X0.here hx rfl (hb hby d2_26) k) ?_
        by_cases hc28 : (13 : Int32) < p1
        · refine oS (fun t k => XS.icmpYes X0.here hx rfl (pc0 := 28) (pc' := 35) rfl (hb hby d2_28) rfl (tlt hc28).2.2.1 (by decide) (by decide) k) ?_
          show oG _ _ _ _ _ _ _ (s₁.setTop (mkF m 35 #[.val (.int p1)] []))
          refine oS (fun t k => XS.iloadN X0.here hx rfl (hb hby d2_35) rfl k) ?_
          refine oS (fun t k => oBp lb_32 X0.here hx rfl (hb hby d2_36) k) ?_
          by_cases hc38 : p1 < (32 : Int32)
          · refine oS (fun t k => XS.icmpYes X0.here hx rfl (pc0 := 38) (pc' := 47) rfl (hb hby d2_38) rfl (tlt hc38).1 (by decide) (by decide) k) ?_
            show oG _ _ _ _ _ _ _ (s₁.setTop (mkF m 47 #[.val (.int p1)] []))
            refine oS (fun t k => oBp lb_8 X0.here hx rfl (hb hby d2_47) k) ?_
            exact own_ret (v := some (.int 8)) X0 (fun h => by rw [Bd.returns] at h; cases h) Bd.notSynchronized (fun fs hr => retOut X0 hx (t := .int) Bd.returns rfl (Or.inl ⟨rfl, Or.inl rfl, _, rfl⟩) (hb hby d2_49) hr) (by rw [e0]; exact ⟨(congrArg (fun z => some (Value.int z)) (own_fin (F := own_mem) (lo := 14) (hi := 31) p1 (by have z0 : 13 < p1.toInt := Int32.lt_iff_toInt_lt.mp hc28; have z1 : p1.toInt < 32 := Int32.lt_iff_toInt_lt.mp hc38; omega) (by have z0 : 13 < p1.toInt := Int32.lt_iff_toInt_lt.mp hc28; have z1 : p1.toInt < 32 := Int32.lt_iff_toInt_lt.mp hc38; omega) (by decide) (by decide +kernel)).symm), N0, rfl⟩) (by decide) (by decide)
          · refine oS (fun t k => XS.icmpNo X0.here hx rfl (hb hby d2_38) rfl (flt hc38).1 k) ?_
            show oG _ _ _ _ _ _ _ (s₁.setTop (mkF m 41 #[.val (.int p1)] []))
            refine oS (fun t k => XS.iloadN X0.here hx rfl (hb hby d2_41) rfl k) ?_
            refine oS (fun t k => oBp lb_127 X0.here hx rfl (hb hby d2_42) k) ?_
            by_cases hc44 : p1 = (127 : Int32)
            · refine oS (fun t k => XS.icmpNo X0.here hx rfl (hb hby d2_44) rfl (teq hc44).2 k) ?_
              show oG _ _ _ _ _ _ _ (s₁.setTop (mkF m 47 #[.val (.int p1)] []))
              refine oS (fun t k => oBp lb_8 X0.here hx rfl (hb hby d2_47) k) ?_
              exact own_ret (v := some (.int 8)) X0 (fun h => by rw [Bd.returns] at h; cases h) Bd.notSynchronized (fun fs hr => retOut X0 hx (t := .int) Bd.returns rfl (Or.inl ⟨rfl, Or.inl rfl, _, rfl⟩) (hb hby d2_49) hr) (by rw [e0]; exact ⟨(congrArg (fun z => some (Value.int z)) (own_fin (F := own_mem) (lo := 127) (hi := 127) p1 (by have z0 : p1.toInt = 127 := (by rw [hc44]; rfl); have z1 : p1.toInt = 127 := (by rw [hc44]; rfl); omega) (by have z0 : p1.toInt = 127 := (by rw [hc44]; rfl); have z1 : p1.toInt = 127 := (by rw [hc44]; rfl); omega) (by decide) (by decide +kernel)).symm), N0, rfl⟩) (by decide) (by decide)
            · refine oS (fun t k => XS.icmpYes X0.here hx rfl (pc0 := 44) (pc' := 50) rfl (hb hby d2_44) rfl (feq hc44).2 (by decide) (by decide) k) ?_
              show oG _ _ _ _ _ _ _ (s₁.setTop (mkF m 50 #[.val (.int p1)] []))
              refine oS (fun t k => XS.iloadN X0.here hx rfl (hb hby d2_50) rfl k) ?_
              refine oS (fun t k => oBp lb_32 X0.here hx rfl (hb hby d2_51) k) ?_
              by_cases hc53 : p1 = (32 : Int32)
              · refine oS (fun t k => XS.icmpNo X0.here hx rfl (hb hby d2_53) rfl (teq hc53).2 k) ?_
                show oG _ _ _ _ _ _ _ (s₁.setTop (mkF m 56 #[.val (.int p1)] []))
                refine oS (fun t k => oSp ls_644 X0.here hx rfl (hb hby d2_56) k) ?_
                exact own_ret (v := some (.int 644)) X0 (fun h => by rw [Bd.returns] at h; cases h) Bd.notSynchronized (fun fs hr => retOut X0 hx (t := .int) Bd.returns rfl (Or.inl ⟨rfl, Or.inl rfl, _, rfl⟩) (hb hby d2_59) hr) (by rw [e0]; exact ⟨(congrArg (fun z => some (Value.int z)) (own_fin (F := own_mem) (lo := 32) (hi := 32) p1 (by have z0 : p1.toInt = 32 := (by rw [hc53]; rfl); have z1 : p1.toInt = 32 := (by rw [hc53]; rfl); omega) (by have z0 : p1.toInt = 32 := (by rw [hc53]; rfl); have z1 : p1.toInt = 32 := (by rw [hc53]; rfl); omega) (by decide) (by decide +kernel)).symm), N0, rfl⟩) (by decide) (by decide)
              · refine oS (fun t k => XS.icmpYes X0.here hx rfl (pc0 := 53) (pc' := 60) rfl (hb hby d2_53) rfl (feq hc53).2 (by decide) (by decide) k) ?_
                show oG _ _ _ _ _ _ _ (s₁.setTop (mkF m 60 #[.val (.int p1)] []))
                refine oS (fun t k => XS.iloadN X0.here hx rfl (hb hby d2_60) rfl k) ?_
                refine oS (fun t k => oBp lb_48 X0.here hx rfl (hb hby d2_61) k) ?_
                by_cases hc63 : p1 < (48 : Int32)
                · refine oS (fun t k => XS.icmpYes X0.here hx rfl (pc0 := 63) (pc' := 76) rfl (hb hby d2_63) rfl (tlt hc63).1 (by decide) (by decide) k) ?_
                  show oG _ _ _ _ _ _ _ (s₁.setTop (mkF m 76 #[.val (.int p1)] []))
                  refine oS (fun t k => XS.iloadN X0.here hx rfl (hb hby d2_76) rfl k) ?_
                  refine oS (fun t k => oBp lb_65 X0.here hx rfl (hb hby d2_77) k) ?_
                  refine oS (fun t k => XS.icmpYes X0.here hx rfl (pc0 := 79) (pc' := 92) rfl (hb hby d2_79) rfl (tlt (Int32.lt_iff_toInt_lt.mpr (show p1.toInt < 65 by have z0 : p1.toInt < 48 := Int32.lt_iff_toInt_lt.mp hc63; omega))).1 (by decide) (by decide) k) ?_
                  show oG _ _ _ _ _ _ _ (s₁.setTop (mkF m 92 #[.val (.int p1)] []))
                  refine oS (fun t k => XS.iloadN X0.here hx rfl (hb hby d2_92) rfl k) ?_
                  refine oS (fun t k => oBp lb_71 X0.here hx rfl (hb hby d2_93) k) ?_
                  refine oS (fun t k => XS.icmpYes X0.here hx rfl (pc0 := 95) (pc' := 108) rfl (hb hby d2_95) rfl (tlt (Int32.lt_iff_toInt_lt.mpr (show p1.toInt < 71 by have z0 : p1.toInt < 48 := Int32.lt_iff_toInt_lt.mp hc63; omega))).1 (by decide) (by decide) k) ?_
                  show oG _ _ _ _ _ _ _ (s₁.setTop (mkF m 108 #[.val (.int p1)] []))
                  refine oS (fun t k => XS.iloadN X0.here hx rfl (hb hby d2_108) rfl k) ?_
                  refine oS (fun t k => oBp lb_97 X0.here hx rfl (hb hby d2_109) k) ?_
                  refine oS (fun t k => XS.icmpYes X0.here hx rfl (pc0 := 111) (pc' := 124) rfl (hb hby d2_111) rfl (tlt (Int32.lt_iff_toInt_lt.mpr (show p1.toInt < 97 by have z0 : p1.toInt < 48 := Int32.lt_iff_toInt_lt.mp hc63; omega))).1 (by decide) (by decide) k) ?_
                  show oG _ _ _ _ _ _ _ (s₁.setTop (mkF m 124 #[.val (.int p1)] []))
                  refine oS (fun t k => XS.iloadN X0.here hx rfl (hb hby d2_124) rfl k) ?_
                  refine oS (fun t k => oBp lb_103 X0.here hx rfl (hb hby d2_125) k) ?_
                  refine oS (fun t k => XS.icmpYes X0.here hx rfl (pc0 := 127) (pc' := 140) rfl (hb hby d2_127) rfl (tlt (Int32.lt_iff_toInt_lt.mpr (show p1.toInt < 103 by have z0 : p1.toInt < 48 := Int32.lt_iff_toInt_lt.mp hc63; omega))).1 (by decide) (by decide) k) ?_
                  show oG _ _ _ _ _ _ _ (s₁.setTop (mkF m 140 #[.val (.int p1)] []))
                  refine oS (fun t k => oSp ls_416 X0.here hx rfl (hb hby d2_140) k) ?_
                  exact own_ret (v := some (.int 416)) X0 (fun h => by rw [Bd.returns] at h; cases h) Bd.notSynchronized (fun fs hr => retOut X0 hx (t := .int) Bd.returns rfl (Or.inl ⟨rfl, Or.inl rfl, _, rfl⟩) (hb hby d2_143) hr) (by rw [e0]; exact ⟨(congrArg (fun z => some (Value.int z)) (own_fin (F := own_mem) (lo := 33) (hi := 47) p1 (by have z0 : ¬ p1.toInt < 32 := fun q => hc38 (Int32.lt_iff_toInt_lt.mpr q); have z1 : ¬ p1.toInt = 32 := fun q => hc53 (Int32.toInt_inj.mp q); have z2 : p1.toInt < 48 := Int32.lt_iff_toInt_lt.mp hc63; omega) (by have z0 : ¬ p1.toInt < 32 := fun q => hc38 (Int32.lt_iff_toInt_lt.mpr q); have z1 : ¬ p1.toInt = 32 := fun q => hc53 (Int32.toInt_inj.mp q); have z2 : p1.toInt < 48 := Int32.lt_iff_toInt_lt.mp hc63; omega) (by decide) (by decide +kernel)).symm), N0, rfl⟩) (by decide) (by decide)
                · refine oS (fun t k => XS.icmpNo X0.here hx rfl (hb hby d2_63) rfl (flt hc63).1 k) ?_
                  show oG _ _ _ _ _ _ _ (s₁.setTop (mkF m 66 #[.val (.int p1)] []))
                  refine oS (fun t k => XS.iloadN X0.here hx rfl (hb hby d2_66) rfl k) ?_
                  refine oS (fun t k => oBp lb_57 X0.here hx rfl (hb hby d2_67) k) ?_
                  by_cases hc69 : (57 : Int32) < p1
                  · refine oS (fun t k => XS.icmpYes X0.here hx rfl (pc0 := 69) (pc' := 76) rfl (hb hby d2_69) rfl (tlt hc69).2.2.1 (by decide) (by decide) k) ?_
                    show oG _ _ _ _ _ _ _ (s₁.setTop (mkF m 76 #[.val (.int p1)] []))
                    refine oS (fun t k => XS.iloadN X0.here hx rfl (hb hby d2_76) rfl k) ?_
                    refine oS (fun t k => oBp lb_65 X0.here hx rfl (hb hby d2_77) k) ?_
                    by_cases hc79 : p1 < (65 : Int32)
                    · refine oS (fun t k => XS.icmpYes X0.here hx rfl (pc0 := 79) (pc' := 92) rfl (hb hby d2_79) rfl (tlt hc79).1 (by decide) (by decide) k) ?_
                      show oG _ _ _ _ _ _ _ (s₁.setTop (mkF m 92 #[.val (.int p1)] []))
                      refine oS (fun t k => XS.iloadN X0.here hx rfl (hb hby d2_92) rfl k) ?_
                      refine oS (fun t k => oBp lb_71 X0.here hx rfl (hb hby d2_93) k) ?_
                      refine oS (fun t k => XS.icmpYes X0.here hx rfl (pc0 := 95) (pc' := 108) rfl (hb hby d2_95) rfl (tlt (Int32.lt_iff_toInt_lt.mpr (show p1.toInt < 71 by have z0 : p1.toInt < 65 := Int32.lt_iff_toInt_lt.mp hc79; omega))).1 (by decide) (by decide) k) ?_
                      show oG _ _ _ _ _ _ _ (s₁.setTop (mkF m 108 #[.val (.int p1)] []))
                      refine oS (fun t k => XS.iloadN X0.here hx rfl (hb hby d2_108) rfl k) ?_
                      refine oS (fun t k => oBp lb_97 X0.here hx rfl (hb hby d2_109) k) ?_
                      refine oS (fun t k => XS.icmpYes X0.here hx rfl (pc0 := 111) (pc' := 124) rfl (hb hby d2_111) rfl (tlt (Int32.lt_iff_toInt_lt.mpr (show p1.toInt < 97 by have z0 : p1.toInt < 65 := Int32.lt_iff_toInt_lt.mp hc79; omega))).1 (by decide) (by decide) k) ?_
                      show oG _ _ _ _ _ _ _ (s₁.setTop (mkF m 124 #[.val (.int p1)] []))
                      refine oS (fun t k => XS.iloadN X0.here hx rfl (hb hby d2_124) rfl k) ?_
                      refine oS (fun t k => oBp lb_103 X0.here hx rfl (hb hby d2_125) k) ?_
                      refine oS (fun t k => XS.icmpYes X0.here hx rfl (pc0 := 127) (pc' := 140) rfl (hb hby d2_127) rfl (tlt (Int32.lt_iff_toInt_lt.mpr (show p1.toInt < 103 by have z0 : p1.toInt < 65 := Int32.lt_iff_toInt_lt.mp hc79; omega))).1 (by decide) (by decide) k) ?_
                      show oG _ _ _ _ _ _ _ (s₁.setTop (mkF m 140 #[.val (.int p1)] []))
                      refine oS (fun t k => oSp ls_416 X0.here hx rfl (hb hby d2_140) k) ?_
                      exact own_ret (v := some (.int 416)) X0 (fun h => by rw [Bd.returns] at h; cases h) Bd.notSynchronized (fun fs hr => retOut X0 hx (t := .int) Bd.returns rfl (Or.inl ⟨rfl, Or.inl rfl, _, rfl⟩) (hb hby d2_143) hr) (by rw [e0]; exact ⟨(congrArg (fun z => some (Value.int z)) (own_fin (F := own_mem) (lo := 58) (hi := 64) p1 (by have z0 : 57 < p1.toInt := Int32.lt_iff_toInt_lt.mp hc69; have z1 : p1.toInt < 65 := Int32.lt_iff_toInt_lt.mp hc79; omega) (by have z0 : 57 < p1.toInt := Int32.lt_iff_toInt_lt.mp hc69; have z1 : p1.toInt < 65 := Int32.lt_iff_toInt_lt.mp hc79; omega) (by decide) (by decide +kernel)).symm), N0, rfl⟩) (by decide) (by decide)
                    · refine oS (fun t k => XS.icmpNo X0.here hx rfl (hb hby d2_79) rfl (flt hc79).1 k) ?_
                      show oG _ _ _ _ _ _ _ (s₁.setTop (mkF m 82 #[.val (.int p1)] []))
                      refine oS (fun t k => XS.iloadN X0.here hx rfl (hb hby d2_82) rfl k) ?_
                      refine oS (fun t k => oBp lb_70 X0.here hx rfl (hb hby d2_83) k) ?_
                      by_cases hc85 : (70 : Int32) < p1
                      · refine oS (fun t k => XS.icmpYes X0.here hx rfl (pc0 := 85) (pc' := 92) rfl (hb hby d2_85) rfl (tlt hc85).2.2.1 (by decide) (by decide) k) ?_
                        show oG _ _ _ _ _ _ _ (s₁.setTop (mkF m 92 #[.val (.int p1)] []))
                        refine oS (fun t k => XS.iloadN X0.here hx rfl (hb hby d2_92) rfl k) ?_
                        refine oS (fun t k => oBp lb_71 X0.here hx rfl (hb hby d2_93) k) ?_
                        refine oS (fun t k => XS.icmpNo X0.here hx rfl (hb hby d2_95) rfl (flt (fun q => by have zq : p1.toInt < 71 := Int32.lt_iff_toInt_lt.mp q; have z0 : 70 < p1.toInt := Int32.lt_iff_toInt_lt.mp hc85; omega)).1 k) ?_
                        show oG _ _ _ _ _ _ _ (s₁.setTop (mkF m 98 #[.val (.int p1)] []))
                        refine oS (fun t k => XS.iloadN X0.here hx rfl (hb hby d2_98) rfl k) ?_
                        refine oS (fun t k => oBp lb_90 X0.here hx rfl (hb hby d2_99) k) ?_
                        by_cases hc101 : (90 : Int32) < p1
                        · refine oS (fun t k => XS.icmpYes X0.here hx rfl (pc0 := 101) (pc' := 108) rfl (hb hby d2_101) rfl (tlt hc101).2.2.1 (by decide) (by decide) k) ?_
                          show oG _ _ _ _ _ _ _ (s₁.setTop (mkF m 108 #[.val (.int p1)] []))
                          refine oS (fun t k => XS.iloadN X0.here hx rfl (hb hby d2_108) rfl k) ?_
                          refine oS (fun t k => oBp lb_97 X0.here hx rfl (hb hby d2_109) k) ?_
                          by_cases hc111 : p1 < (97 : Int32)
                          · refine oS (fun t k => XS.icmpYes X0.here hx rfl (pc0 := 111) (pc' := 124) rfl (hb hby d2_111) rfl (tlt hc111).1 (by decide) (by decide) k) ?_
                            show oG _ _ _ _ _ _ _ (s₁.setTop (mkF m 124 #[.val (.int p1)] []))
                            refine oS (fun t k => XS.iloadN X0.here hx rfl (hb hby d2_124) rfl k) ?_
                            refine oS (fun t k => oBp lb_103 X0.here hx rfl (hb hby d2_125) k) ?_
                            refine oS (fun t k => XS.icmpYes X0.here hx rfl (pc0 := 127) (pc' := 140) rfl (hb hby d2_127) rfl (tlt (Int32.lt_iff_toInt_lt.mpr (show p1.toInt < 103 by have z0 : p1.toInt < 97 := Int32.lt_iff_toInt_lt.mp hc111; omega))).1 (by decide) (by decide) k) ?_
                            show oG _ _ _ _ _ _ _ (s₁.setTop (mkF m 140 #[.val (.int p1)] []))
                            refine oS (fun t k => oSp ls_416 X0.here hx rfl (hb hby d2_140) k) ?_
                            exact own_ret (v := some (.int 416)) X0 (fun h => by rw [Bd.returns] at h; cases h) Bd.notSynchronized (fun fs hr => retOut X0 hx (t := .int) Bd.returns rfl (Or.inl ⟨rfl, Or.inl rfl, _, rfl⟩) (hb hby d2_143) hr) (by rw [e0]; exact ⟨(congrArg (fun z => some (Value.int z)) (own_fin (F := own_mem) (lo := 91) (hi := 96) p1 (by have z0 : 90 < p1.toInt := Int32.lt_iff_toInt_lt.mp hc101; have z1 : p1.toInt < 97 := Int32.lt_iff_toInt_lt.mp hc111; omega) (by have z0 : 90 < p1.toInt := Int32.lt_iff_toInt_lt.mp hc101; have z1 : p1.toInt < 97 := Int32.lt_iff_toInt_lt.mp hc111; omega) (by decide) (by decide +kernel)).symm), N0, rfl⟩) (by decide) (by decide)
                          · refine oS (fun t k => XS.icmpNo X0.here hx rfl (hb hby d2_111) rfl (flt hc111).1 k) ?_
                            show oG _ _ _ _ _ _ _ (s₁.setTop (mkF m 114 #[.val (.int p1)] []))
                            refine oS (fun t k => XS.iloadN X0.here hx rfl (hb hby d2_114) rfl k) ?_
                            refine oS (fun t k => oBp lb_102 X0.here hx rfl (hb hby d2_115) k) ?_
                            by_cases hc117 : (102 : Int32) < p1
                            · refine oS (fun t k => XS.icmpYes X0.here hx rfl (pc0 := 117) (pc' := 124) rfl (hb hby d2_117) rfl (tlt hc117).2.2.1 (by decide) (by decide) k) ?_
                              show oG _ _ _ _ _ _ _ (s₁.setTop (mkF m 124 #[.val (.int p1)] []))
                              refine oS (fun t k => XS.iloadN X0.here hx rfl (hb hby d2_124) rfl k) ?_
                              refine oS (fun t k => oBp lb_103 X0.here hx rfl (hb hby d2_125) k) ?_
                              refine oS (fun t k => XS.icmpNo X0.here hx rfl (hb hby d2_127) rfl (flt (fun q => by have zq : p1.toInt < 103 := Int32.lt_iff_toInt_lt.mp q; have z0 : 102 < p1.toInt := Int32.lt_iff_toInt_lt.mp hc117; omega)).1 k) ?_
                              show oG _ _ _ _ _ _ _ (s₁.setTop (mkF m 130 #[.val (.int p1)] []))
                              refine oS (fun t k => XS.iloadN X0.here hx rfl (hb hby d2_130) rfl k) ?_
                              refine oS (fun t k => oBp lb_122 X0.here hx rfl (hb hby d2_131) k) ?_
                              by_cases hc133 : (122 : Int32) < p1
                              · refine oS (fun t k => XS.icmpYes X0.here hx rfl (pc0 := 133) (pc' := 140) rfl (hb hby d2_133) rfl (tlt hc133).2.2.1 (by decide) (by decide) k) ?_
                                show oG _ _ _ _ _ _ _ (s₁.setTop (mkF m 140 #[.val (.int p1)] []))
                                refine oS (fun t k => oSp ls_416 X0.here hx rfl (hb hby d2_140) k) ?_
                                exact own_ret (v := some (.int 416)) X0 (fun h => by rw [Bd.returns] at h; cases h) Bd.notSynchronized (fun fs hr => retOut X0 hx (t := .int) Bd.returns rfl (Or.inl ⟨rfl, Or.inl rfl, _, rfl⟩) (hb hby d2_143) hr) (by rw [e0]; exact ⟨(congrArg (fun z => some (Value.int z)) (own_fin (F := own_mem) (lo := 123) (hi := 126) p1 (by have z0 : 122 < p1.toInt := Int32.lt_iff_toInt_lt.mp hc133; have z1 : p1.toInt < 128 := Int32.lt_iff_toInt_lt.mp hc4; have z2 : ¬ p1.toInt = 127 := fun q => hc44 (Int32.toInt_inj.mp q); omega) (by have z0 : 122 < p1.toInt := Int32.lt_iff_toInt_lt.mp hc133; have z1 : p1.toInt < 128 := Int32.lt_iff_toInt_lt.mp hc4; have z2 : ¬ p1.toInt = 127 := fun q => hc44 (Int32.toInt_inj.mp q); omega) (by decide) (by decide +kernel)).symm), N0, rfl⟩) (by decide) (by decide)
                              · refine oS (fun t k => XS.icmpNo X0.here hx rfl (hb hby d2_133) rfl (flt hc133).2.2.1 k) ?_
                                show oG _ _ _ _ _ _ _ (s₁.setTop (mkF m 136 #[.val (.int p1)] []))
                                refine oS (fun t k => oSp ls_227 X0.here hx rfl (hb hby d2_136) k) ?_
                                exact own_ret (v := some (.int 227)) X0 (fun h => by rw [Bd.returns] at h; cases h) Bd.notSynchronized (fun fs hr => retOut X0 hx (t := .int) Bd.returns rfl (Or.inl ⟨rfl, Or.inl rfl, _, rfl⟩) (hb hby d2_139) hr) (by rw [e0]; exact ⟨(congrArg (fun z => some (Value.int z)) (own_fin (F := own_mem) (lo := 103) (hi := 122) p1 (by have z0 : 102 < p1.toInt := Int32.lt_iff_toInt_lt.mp hc117; have z1 : ¬ 122 < p1.toInt := fun q => hc133 (Int32.lt_iff_toInt_lt.mpr q); omega) (by have z0 : 102 < p1.toInt := Int32.lt_iff_toInt_lt.mp hc117; have z1 : ¬ 122 < p1.toInt := fun q => hc133 (Int32.lt_iff_toInt_lt.mpr q); omega) (by decide) (by decide +kernel)).symm), N0, rfl⟩) (by decide) (by decide)
                            · refine oS (fun t k => XS.icmpNo X0.here hx rfl (hb hby d2_117) rfl (flt hc117).2.2.1 k) ?_
                              show oG _ _ _ _ _ _ _ (s₁.setTop (mkF m 120 #[.val (.int p1)] []))
                              refine oS (fun t k => oSp ls_2275 X0.here hx rfl (hb hby d2_120) k) ?_
                              exact own_ret (v := some (.int 2275)) X0 (fun h => by rw [Bd.returns] at h; cases h) Bd.notSynchronized (fun fs hr => retOut X0 hx (t := .int) Bd.returns rfl (Or.inl ⟨rfl, Or.inl rfl, _, rfl⟩) (hb hby d2_123) hr) (by rw [e0]; exact ⟨(congrArg (fun z => some (Value.int z)) (own_fin (F := own_mem) (lo := 97) (hi := 102) p1 (by have z0 : ¬ p1.toInt < 97 := fun q => hc111 (Int32.lt_iff_toInt_lt.mpr q); have z1 : ¬ 102 < p1.toInt := fun q => hc117 (Int32.lt_iff_toInt_lt.mpr q); omega) (by have z0 : ¬ p1.toInt < 97 := fun q => hc111 (Int32.lt_iff_toInt_lt.mpr q); have z1 : ¬ 102 < p1.toInt := fun q => hc117 (Int32.lt_iff_toInt_lt.mpr q); omega) (by decide) (by decide +kernel)).symm), N0, rfl⟩) (by decide) (by decide)
                        · refine oS (fun t k => XS.icmpNo X0.here hx rfl (hb hby d2_101) rfl (flt hc101).2.2.1 k) ?_
                          show oG _ _ _ _ _ _ _ (s₁.setTop (mkF m 104 #[.val (.int p1)] []))
                          refine oS (fun t k => oSp ls_1187 X0.here hx rfl (hb hby d2_104) k) ?_
                          exact own_ret (v := some (.int 1187)) X0 (fun h => by rw [Bd.returns] at h; cases h) Bd.notSynchronized (fun fs hr => retOut X0 hx (t := .int) Bd.returns rfl (Or.inl ⟨rfl, Or.inl rfl, _, rfl⟩) (hb hby d2_107) hr) (by rw [e0]; exact ⟨(congrArg (fun z => some (Value.int z)) (own_fin (F := own_mem) (lo := 71) (hi := 90) p1 (by have z0 : 70 < p1.toInt := Int32.lt_iff_toInt_lt.mp hc85; have z1 : ¬ 90 < p1.toInt := fun q => hc101 (Int32.lt_iff_toInt_lt.mpr q); omega) (by have z0 : 70 < p1.toInt := Int32.lt_iff_toInt_lt.mp hc85; have z1 : ¬ 90 < p1.toInt := fun q => hc101 (Int32.lt_iff_toInt_lt.mpr q); omega) (by decide) (by decide +kernel)).symm), N0, rfl⟩) (by decide) (by decide)
                      · refine oS (fun t k => XS.icmpNo X0.here hx rfl (hb hby d2_85) rfl (flt hc85).2.2.1 k) ?_
                        show oG _ _ _ _ _ _ _ (s₁.setTop (mkF m 88 #[.val (.int p1)] []))
                        refine oS (fun t k => oSp ls_3235 X0.here hx rfl (hb hby d2_88) k) ?_
                        exact own_ret (v := some (.int 3235)) X0 (fun h => by rw [Bd.returns] at h; cases h) Bd.notSynchronized (fun fs hr => retOut X0 hx (t := .int) Bd.returns rfl (Or.inl ⟨rfl, Or.inl rfl, _, rfl⟩) (hb hby d2_91) hr) (by rw [e0]; exact ⟨(congrArg (fun z => some (Value.int z)) (own_fin (F := own_mem) (lo := 65) (hi := 70) p1 (by have z0 : ¬ p1.toInt < 65 := fun q => hc79 (Int32.lt_iff_toInt_lt.mpr q); have z1 : ¬ 70 < p1.toInt := fun q => hc85 (Int32.lt_iff_toInt_lt.mpr q); omega) (by have z0 : ¬ p1.toInt < 65 := fun q => hc79 (Int32.lt_iff_toInt_lt.mpr q); have z1 : ¬ 70 < p1.toInt := fun q => hc85 (Int32.lt_iff_toInt_lt.mpr q); omega) (by decide) (by decide +kernel)).symm), N0, rfl⟩) (by decide) (by decide)
                  · refine oS (fun t k => XS.icmpNo X0.here hx rfl (hb hby d2_69) rfl (flt hc69).2.2.1 k) ?_
                    show oG _ _ _ _ _ _ _ (s₁.setTop (mkF m 72 #[.val (.int p1)] []))
                    refine oS (fun t k => oSp ls_2225 X0.here hx rfl (hb hby d2_72) k) ?_
                    exact own_ret (v := some (.int 2225)) X0 (fun h => by rw [Bd.returns] at h; cases h) Bd.notSynchronized (fun fs hr => retOut X0 hx (t := .int) Bd.returns rfl (Or.inl ⟨rfl, Or.inl rfl, _, rfl⟩) (hb hby d2_75) hr) (by rw [e0]; exact ⟨(congrArg (fun z => some (Value.int z)) (own_fin (F := own_mem) (lo := 48) (hi := 57) p1 (by have z0 : ¬ p1.toInt < 48 := fun q => hc63 (Int32.lt_iff_toInt_lt.mpr q); have z1 : ¬ 57 < p1.toInt := fun q => hc69 (Int32.lt_iff_toInt_lt.mpr q); omega) (by have z0 : ¬ p1.toInt < 48 := fun q => hc63 (Int32.lt_iff_toInt_lt.mpr q); have z1 : ¬ 57 < p1.toInt := fun q => hc69 (Int32.lt_iff_toInt_lt.mpr q); omega) (by decide) (by decide +kernel)).symm), N0, rfl⟩) (by decide) (by decide)
        · refine oS (fun t k => XS.icmpNo X0.here hx rfl (hb hby d2_28) rfl (flt hc28).2.2.1 k) ?_
          show oG _ _ _ _ _ _ _ (s₁.setTop (mkF m 31 #[.val (.int p1)] []))
          refine oS (fun t k => oSp ls_520 X0.here hx rfl (hb hby d2_31) k) ?_
          exact own_ret (v := some (.int 520)) X0 (fun h => by rw [Bd.returns] at h; cases h) Bd.notSynchronized (fun fs hr => retOut X0 hx (t := .int) Bd.returns rfl (Or.inl ⟨rfl, Or.inl rfl, _, rfl⟩) (hb hby d2_34) hr) (by rw [e0]; exact ⟨(congrArg (fun z => some (Value.int z)) (own_fin (F := own_mem) (lo := 10) (hi := 13) p1 (by have z0 : ¬ p1.toInt < 10 := fun q => hc22 (Int32.lt_iff_toInt_lt.mpr q); have z1 : ¬ 13 < p1.toInt := fun q => hc28 (Int32.lt_iff_toInt_lt.mpr q); omega) (by have z0 : ¬ p1.toInt < 10 := fun q => hc22 (Int32.lt_iff_toInt_lt.mpr q); have z1 : ¬ 13 < p1.toInt := fun q => hc28 (Int32.lt_iff_toInt_lt.mpr q); omega) (by decide) (by decide +kernel)).symm), N0, rfl⟩) (by decide) (by decide)
  · refine oS (fun t k => XS.icmpNo X0.here hx rfl (hb hby d2_4) rfl (flt hc4).1 k) ?_
    show oG _ _ _ _ _ _ _ (s₁.setTop (mkF m 7 #[.val (.int p1)] []))
    refine oS (fun t k => oIc li_0 X0.here hx rfl (hb hby d2_7) k) ?_
    exact own_ret (v := some (.int 0)) X0 (fun h => by rw [Bd.returns] at h; cases h) Bd.notSynchronized (fun fs hr => retOut X0 hx (t := .int) Bd.returns rfl (Or.inl ⟨rfl, Or.inl rfl, _, rfl⟩) (hb hby d2_8) hr) (by rw [e0]; exact ⟨(congrArg (fun z => some (Value.int z)) (own_fin (F := own_mem) (lo := 128) (hi := 255) p1 (by have z0 : ¬ p1.toInt < 128 := fun q => hc4 (Int32.lt_iff_toInt_lt.mpr q); have z1 : p1.toInt < 256 := Int32.lt_iff_toInt_lt.mp hhi; omega) (by have z0 : ¬ p1.toInt < 128 := fun q => hc4 (Int32.lt_iff_toInt_lt.mpr q); have z1 : p1.toInt < 256 := Int32.lt_iff_toInt_lt.mp hhi; omega) (by decide) (by decide +kernel)).symm), N0, rfl⟩) (by decide) (by decide)
theorem d1_0 : decode method_3_code 0 = .ok (.iload_n 0, 1) := by decide +kernel
theorem d1_1 : decode method_3_code 1 = .ok (.ifCond .ne 7, 3) := by decide +kernel
theorem d1_4 : decode method_3_code 4 = .ok (.getstatic 7, 3) := by decide +kernel
theorem d1_7 : decode method_3_code 7 = .ok (.areturn, 1) := by decide +kernel
theorem d1_8 : decode method_3_code 8 = .ok (.iload_n 0, 1) := by decide +kernel
theorem d1_9 : decode method_3_code 9 = .ok (.iconst 1, 1) := by decide +kernel
theorem li_1 : Int32.ofInt (1) = (1 : Int32) := by decide
theorem d1_10 : decode method_3_code 10 = .ok (.if_icmp .ne 7, 3) := by decide +kernel
theorem d1_13 : decode method_3_code 13 = .ok (.getstatic 13, 3) := by decide +kernel
theorem d1_16 : decode method_3_code 16 = .ok (.areturn, 1) := by decide +kernel
theorem d1_17 : decode method_3_code 17 = .ok (.iload_n 0, 1) := by decide +kernel
theorem d1_18 : decode method_3_code 18 = .ok (.iconst 2, 1) := by decide +kernel
theorem li_2 : Int32.ofInt (2) = (2 : Int32) := by decide
theorem d1_19 : decode method_3_code 19 = .ok (.if_icmp .ne 7, 3) := by decide +kernel
theorem d1_22 : decode method_3_code 22 = .ok (.getstatic 16, 3) := by decide +kernel
theorem d1_25 : decode method_3_code 25 = .ok (.areturn, 1) := by decide +kernel
theorem d1_26 : decode method_3_code 26 = .ok (.iload_n 0, 1) := by decide +kernel
theorem d1_27 : decode method_3_code 27 = .ok (.iconst 3, 1) := by decide +kernel
theorem li_3 : Int32.ofInt (3) = (3 : Int32) := by decide
theorem d1_28 : decode method_3_code 28 = .ok (.if_icmp .ne 7, 3) := by decide +kernel
theorem d1_31 : decode method_3_code 31 = .ok (.getstatic 19, 3) := by decide +kernel
theorem d1_34 : decode method_3_code 34 = .ok (.areturn, 1) := by decide +kernel
theorem d1_35 : decode method_3_code 35 = .ok (.iload_n 0, 1) := by decide +kernel
theorem d1_36 : decode method_3_code 36 = .ok (.iconst 4, 1) := by decide +kernel
theorem li_4 : Int32.ofInt (4) = (4 : Int32) := by decide
theorem d1_37 : decode method_3_code 37 = .ok (.if_icmp .ne 7, 3) := by decide +kernel
theorem d1_40 : decode method_3_code 40 = .ok (.getstatic 22, 3) := by decide +kernel
theorem d1_43 : decode method_3_code 43 = .ok (.areturn, 1) := by decide +kernel
theorem d1_44 : decode method_3_code 44 = .ok (.iload_n 0, 1) := by decide +kernel
theorem d1_45 : decode method_3_code 45 = .ok (.iconst 5, 1) := by decide +kernel
theorem li_5 : Int32.ofInt (5) = (5 : Int32) := by decide
theorem d1_46 : decode method_3_code 46 = .ok (.if_icmp .ne 7, 3) := by decide +kernel
theorem d1_49 : decode method_3_code 49 = .ok (.getstatic 25, 3) := by decide +kernel
theorem d1_52 : decode method_3_code 52 = .ok (.areturn, 1) := by decide +kernel
theorem d1_53 : decode method_3_code 53 = .ok (.iload_n 0, 1) := by decide +kernel
theorem d1_54 : decode method_3_code 54 = .ok (.bipush 6, 2) := by decide +kernel
theorem lb_6 : (Int8.ofInt (6)).toInt32 = (6 : Int32) := by decide
theorem d1_56 : decode method_3_code 56 = .ok (.if_icmp .ne 7, 3) := by decide +kernel
theorem d1_59 : decode method_3_code 59 = .ok (.getstatic 28, 3) := by decide +kernel
theorem d1_62 : decode method_3_code 62 = .ok (.areturn, 1) := by decide +kernel
theorem d1_63 : decode method_3_code 63 = .ok (.iload_n 0, 1) := by decide +kernel
theorem d1_64 : decode method_3_code 64 = .ok (.bipush 7, 2) := by decide +kernel
theorem lb_7 : (Int8.ofInt (7)).toInt32 = (7 : Int32) := by decide
theorem d1_66 : decode method_3_code 66 = .ok (.if_icmp .ne 7, 3) := by decide +kernel
theorem d1_69 : decode method_3_code 69 = .ok (.getstatic 31, 3) := by decide +kernel
theorem d1_72 : decode method_3_code 72 = .ok (.areturn, 1) := by decide +kernel
theorem d1_73 : decode method_3_code 73 = .ok (.iload_n 0, 1) := by decide +kernel
theorem d1_74 : decode method_3_code 74 = .ok (.bipush 8, 2) := by decide +kernel
theorem d1_76 : decode method_3_code 76 = .ok (.if_icmp .ne 7, 3) := by decide +kernel
theorem d1_79 : decode method_3_code 79 = .ok (.getstatic 34, 3) := by decide +kernel
theorem d1_82 : decode method_3_code 82 = .ok (.areturn, 1) := by decide +kernel
theorem d1_83 : decode method_3_code 83 = .ok (.iload_n 0, 1) := by decide +kernel
theorem d1_84 : decode method_3_code 84 = .ok (.bipush 9, 2) := by decide +kernel
theorem d1_86 : decode method_3_code 86 = .ok (.if_icmp .ne 7, 3) := by decide +kernel
theorem d1_89 : decode method_3_code 89 = .ok (.getstatic 37, 3) := by decide +kernel
theorem d1_92 : decode method_3_code 92 = .ok (.areturn, 1) := by decide +kernel
theorem d1_93 : decode method_3_code 93 = .ok (.iload_n 0, 1) := by decide +kernel
theorem d1_94 : decode method_3_code 94 = .ok (.bipush 10, 2) := by decide +kernel
theorem d1_96 : decode method_3_code 96 = .ok (.if_icmp .ne 7, 3) := by decide +kernel
theorem d1_99 : decode method_3_code 99 = .ok (.getstatic 40, 3) := by decide +kernel
theorem d1_102 : decode method_3_code 102 = .ok (.areturn, 1) := by decide +kernel
theorem d1_103 : decode method_3_code 103 = .ok (.getstatic 43, 3) := by decide +kernel
theorem d1_106 : decode method_3_code 106 = .ok (.areturn, 1) := by decide +kernel
abbrev mY1 : MethodName := (⟨"com/example/lamassu/lamassu/builtin/CharClassContainsPinLaw", "pick", "(I)Lcom/example/lamassu/lamassu/builtin/CharClass;"⟩ : MethodName)
theorem ef_1_i (m : MethodId) (x0 : Int32) : entryFrame m #[(.int x0)] 1 = mkF m 0 #[.val (.int x0)] [] := by first | (simp [entryFrame, mkF, argsToLocals, Value.category]; done) | rfl
def Q_pick (Z : State) (p1 : Int32) (w : Nat → Addr) (h0 : Heap) (n0 : Nat) (v : Option Value) (h : Heap) (L : List Loc) : Prop := v = some (.ref (own_pick w p1)) ∧ Fr n0 L ∧ h = h0
set_option maxRecDepth 65536 in
set_option maxHeartbeats 40000000 in
theorem rm_pick (l : Launch) (Z : State) (a0 : Array Value) (hw : ∀ d ∈ tables_1, d.before a0 Z = true) (ws : List Jvm.Cond) (p1 : Int32) (w : Nat → Addr) (h0 : Heap) (n0 : Nat) (O0 : Old Z n0 h0) (W : own_World Z w) :
    MetFree l mY1 (head1 (Jvm.Cond.code mY1 method_3_code 1 (some (.object "com/example/lamassu/lamassu/builtin/CharClass")) :: ws) ({ frames := 0, cells := 0, slots := 0, locals := 0 } : Room)) (fun a U => a = #[(.int p1)] ∧ Z.Warmed39 U.vm ∧ U.heap = h0) (fun _ _ _ _ _ => True) (fun _ U o U' => ∃ v L, o = .returned v ∧ Q_pick Z p1 w h0 n0 v U'.heap L ∧ FrameEnd U o U' L ({ frames := 0, cells := 0, slots := 0, locals := 0 } : Room).cells ({ frames := 0, cells := 0, slots := 0, locals := 0 } : Room).slots) := by
  refine MetFree.of_bodySF (plainFor_of_name pn_0) hisR ?_
  intro p e s m args below meth c s₁ Bd hml0 hP hK
  obtain ⟨rfl, hZ, hh⟩ := hP
  have hx := Bd.exec
  have hby := Bd.bytes
  have hml : c.maxLocals = 1 := hml0
  have hown : s.vm.findClass "com/example/lamassu/lamassu/builtin/CharClassContainsPinLaw" = some m.cls := findClass_of_methodNamed Bd.named
  have hnm := (name_of_methodNamed Bd.named Bd.method).1
  have X0 : Stand p l e ({ frames := 0, cells := 0, slots := 0, locals := 0 } : Room) s m #[(.int p1)] below meth c s₁ [] 0 0 := Stand.of_body Bd
  have e0 : s₁.heap = h0 := by rw [← hh, Bd.state]; rfl
  have N0 := Fr.nil n0
  show oG p e below s (Q_pick Z p1 w h0 n0) ({ frames := 0, cells := 0, slots := 0, locals := 0 } : Room).cells ({ frames := 0, cells := 0, slots := 0, locals := 0 } : Room).slots _
  refine oS (fun t k => castTop (ef_1_i m p1) k) ?_
  show oG _ _ _ _ _ _ _ (s₁.setTop (mkF m 0 #[.val (.int p1)] []))
  refine oS (fun t k => XS.iloadN X0.here hx rfl (hb hby d1_0) rfl k) ?_
  by_cases hc1 : p1 = (0 : Int32)
  · refine oS (fun t k => XS.ifNo X0.here hx rfl (hb hby d1_1) rfl ((if0 _ _).trans (teq hc1).2) k) ?_
    obtain ⟨T1, X1, e1, st1⟩ := getS2 X0 hx hZ hown (host := "") (Or.inl (oW hw 31 rfl)) Via.refl e0 ((wS4 W).ext O0.2) (g := (mkF m 4 #[.val (.int p1)] [])) rfl (hb hby d1_4)
    refine oS (fun t k => st1 t k) ?_
    show oG _ _ _ _ _ _ _ (T1.setTop (mkF m 7 #[.val (.int p1)] [(.ref (w 4))]))
    try clear st1
    exact own_ret (v := some (.ref (w 4))) X1 (fun h => by rw [Bd.returns] at h; cases h) Bd.notSynchronized (fun fs hr => retOut X1 hx (t := (.object "com/example/lamassu/lamassu/builtin/CharClass")) Bd.returns rfl (Or.inr (Or.inr (Or.inr (Or.inr ⟨rfl, rfl, rfl⟩)))) (hb hby d1_7) hr) (by rw [e1]; exact ⟨(by simp only [own_pick, if_pos hc1]), N0, rfl⟩) (by decide) (by decide)
  · refine oS (fun t k => XS.ifYes X0.here hx rfl (pc0 := 1) (pc' := 8) rfl (hb hby d1_1) rfl ((if0 _ _).trans (feq hc1).2) (by decide) (by decide) k) ?_
    refine oS (fun t k => XS.iloadN X0.here hx rfl (hb hby d1_8) rfl k) ?_
    show oG _ _ _ _ _ _ _ (s₁.setTop (mkF m 9 #[.val (.int p1)] [(.int p1)]))
    refine oS (fun t k => oIc li_1 X0.here hx rfl (hb hby d1_9) k) ?_
    by_cases hc10 : p1 = (1 : Int32)
    · refine oS (fun t k => XS.icmpNo X0.here hx rfl (hb hby d1_10) rfl (teq hc10).2 k) ?_
      obtain ⟨T2, X2, e2, st2⟩ := getS2 X0 hx hZ hown (host := "") (Or.inl (oW hw 25 rfl)) Via.refl e0 ((wS1 W).ext O0.2) (g := (mkF m 13 #[.val (.int p1)] [])) rfl (hb hby d1_13)
      refine oS (fun t k => st2 t k) ?_
      show oG _ _ _ _ _ _ _ (T2.setTop (mkF m 16 #[.val (.int p1)] [(.ref (w 1))]))
      try clear st2
      exact own_ret (v := some (.ref (w 1))) X2 (fun h => by rw [Bd.returns] at h; cases h) Bd.notSynchronized (fun fs hr => retOut X2 hx (t := (.object "com/example/lamassu/lamassu/builtin/CharClass")) Bd.returns rfl (Or.inr (Or.inr (Or.inr (Or.inr ⟨rfl, rfl, rfl⟩)))) (hb hby d1_16) hr) (by rw [e2]; exact ⟨(by simp only [own_pick, if_neg hc1, if_pos hc10]), N0, rfl⟩) (by decide) (by decide)
    · refine oS (fun t k => XS.icmpYes X0.here hx rfl (pc0 := 10) (pc' := 17) rfl (hb hby d1_10) rfl (feq hc10).2 (by decide) (by decide) k) ?_
      refine oS (fun t k => XS.iloadN X0.here hx rfl (hb hby d1_17) rfl k) ?_
      show oG _ _ _ _ _ _ _ (s₁.setTop (mkF m 18 #[.val (.int p1)] [(.int p1)]))
      refine oS (fun t k => oIc li_2 X0.here hx rfl (hb hby d1_18) k) ?_
      by_cases hc19 : p1 = (2 : Int32)
      · refine oS (fun t k => XS.icmpNo X0.here hx rfl (hb hby d1_19) rfl (teq hc19).2 k) ?_
        obtain ⟨T3, X3, e3, st3⟩ := getS2 X0 hx hZ hown (host := "") (Or.inl (oW hw 41 rfl)) Via.refl e0 ((wS9 W).ext O0.2) (g := (mkF m 22 #[.val (.int p1)] [])) rfl (hb hby d1_22)
        refine oS (fun t k => st3 t k) ?_
        show oG _ _ _ _ _ _ _ (T3.setTop (mkF m 25 #[.val (.int p1)] [(.ref (w 9))]))
        try clear st3
        exact own_ret (v := some (.ref (w 9))) X3 (fun h => by rw [Bd.returns] at h; cases h) Bd.notSynchronized (fun fs hr => retOut X3 hx (t := (.object "com/example/lamassu/lamassu/builtin/CharClass")) Bd.returns rfl (Or.inr (Or.inr (Or.inr (Or.inr ⟨rfl, rfl, rfl⟩)))) (hb hby d1_25) hr) (by rw [e3]; exact ⟨(by simp only [own_pick, if_neg hc1, if_neg hc10, if_pos hc19]), N0, rfl⟩) (by decide) (by decide)
      · refine oS (fun t k => XS.icmpYes X0.here hx rfl (pc0 := 19) (pc' := 26) rfl (hb hby d1_19) rfl (feq hc19).2 (by decide) (by decide) k) ?_
        refine oS (fun t k => XS.iloadN X0.here hx rfl (hb hby d1_26) rfl k) ?_
        show oG _ _ _ _ _ _ _ (s₁.setTop (mkF m 27 #[.val (.int p1)] [(.int p1)]))
        refine oS (fun t k => oIc li_3 X0.here hx rfl (hb hby d1_27) k) ?_
        by_cases hc28 : p1 = (3 : Int32)
        · refine oS (fun t k => XS.icmpNo X0.here hx rfl (hb hby d1_28) rfl (teq hc28).2 k) ?_
          obtain ⟨T4, X4, e4, st4⟩ := getS2 X0 hx hZ hown (host := "") (Or.inl (oW hw 5 rfl)) Via.refl e0 ((wS0 W).ext O0.2) (g := (mkF m 31 #[.val (.int p1)] [])) rfl (hb hby d1_31)
          refine oS (fun t k => st4 t k) ?_
          show oG _ _ _ _ _ _ _ (T4.setTop (mkF m 34 #[.val (.int p1)] [(.ref (w 0))]))
          try clear st4
          exact own_ret (v := some (.ref (w 0))) X4 (fun h => by rw [Bd.returns] at h; cases h) Bd.notSynchronized (fun fs hr => retOut X4 hx (t := (.object "com/example/lamassu/lamassu/builtin/CharClass")) Bd.returns rfl (Or.inr (Or.inr (Or.inr (Or.inr ⟨rfl, rfl, rfl⟩)))) (hb hby d1_34) hr) (by rw [e4]; exact ⟨(by simp only [own_pick, if_neg hc1, if_neg hc10, if_neg hc19, if_pos hc28]), N0, rfl⟩) (by decide) (by decide)
        · refine oS (fun t k => XS.icmpYes X0.here hx rfl (pc0 := 28) (pc' := 35) rfl (hb hby d1_28) rfl (feq hc28).2 (by decide) (by decide) k) ?_
          refine oS (fun t k => XS.iloadN X0.here hx rfl (hb hby d1_35) rfl k) ?_
          show oG _ _ _ _ _ _ _ (s₁.setTop (mkF m 36 #[.val (.int p1)] [(.int p1)]))
          refine oS (fun t k => oIc li_4 X0.here hx rfl (hb hby d1_36) k) ?_
          by_cases hc37 : p1 = (4 : Int32)
          · refine oS (fun t k => XS.icmpNo X0.here hx rfl (hb hby d1_37) rfl (teq hc37).2 k) ?_
            obtain ⟨T5, X5, e5, st5⟩ := getS2 X0 hx hZ hown (host := "") (Or.inl (oW hw 33 rfl)) Via.refl e0 ((wS5 W).ext O0.2) (g := (mkF m 40 #[.val (.int p1)] [])) rfl (hb hby d1_40)
            refine oS (fun t k => st5 t k) ?_
            show oG _ _ _ _ _ _ _ (T5.setTop (mkF m 43 #[.val (.int p1)] [(.ref (w 5))]))
            try clear st5
            exact own_ret (v := some (.ref (w 5))) X5 (fun h => by rw [Bd.returns] at h; cases h) Bd.notSynchronized (fun fs hr => retOut X5 hx (t := (.object "com/example/lamassu/lamassu/builtin/CharClass")) Bd.returns rfl (Or.inr (Or.inr (Or.inr (Or.inr ⟨rfl, rfl, rfl⟩)))) (hb hby d1_43) hr) (by rw [e5]; exact ⟨(by simp only [own_pick, if_neg hc1, if_neg hc10, if_neg hc19, if_neg hc28, if_pos hc37]), N0, rfl⟩) (by decide) (by decide)
          · refine oS (fun t k => XS.icmpYes X0.here hx rfl (pc0 := 37) (pc' := 44) rfl (hb hby d1_37) rfl (feq hc37).2 (by decide) (by decide) k) ?_
            refine oS (fun t k => XS.iloadN X0.here hx rfl (hb hby d1_44) rfl k) ?_
            show oG _ _ _ _ _ _ _ (s₁.setTop (mkF m 45 #[.val (.int p1)] [(.int p1)]))
            refine oS (fun t k => oIc li_5 X0.here hx rfl (hb hby d1_45) k) ?_
            by_cases hc46 : p1 = (5 : Int32)
            · refine oS (fun t k => XS.icmpNo X0.here hx rfl (hb hby d1_46) rfl (teq hc46).2 k) ?_
              obtain ⟨T6, X6, e6, st6⟩ := getS2 X0 hx hZ hown (host := "") (Or.inl (oW hw 37 rfl)) Via.refl e0 ((wS7 W).ext O0.2) (g := (mkF m 49 #[.val (.int p1)] [])) rfl (hb hby d1_49)
              refine oS (fun t k => st6 t k) ?_
              show oG _ _ _ _ _ _ _ (T6.setTop (mkF m 52 #[.val (.int p1)] [(.ref (w 7))]))
              try clear st6
              exact own_ret (v := some (.ref (w 7))) X6 (fun h => by rw [Bd.returns] at h; cases h) Bd.notSynchronized (fun fs hr => retOut X6 hx (t := (.object "com/example/lamassu/lamassu/builtin/CharClass")) Bd.returns rfl (Or.inr (Or.inr (Or.inr (Or.inr ⟨rfl, rfl, rfl⟩)))) (hb hby d1_52) hr) (by rw [e6]; exact ⟨(by simp only [own_pick, if_neg hc1, if_neg hc10, if_neg hc19, if_neg hc28, if_neg hc37, if_pos hc46]), N0, rfl⟩) (by decide) (by decide)
            · refine oS (fun t k => XS.icmpYes X0.here hx rfl (pc0 := 46) (pc' := 53) rfl (hb hby d1_46) rfl (feq hc46).2 (by decide) (by decide) k) ?_
              refine oS (fun t k => XS.iloadN X0.here hx rfl (hb hby d1_53) rfl k) ?_
              show oG _ _ _ _ _ _ _ (s₁.setTop (mkF m 54 #[.val (.int p1)] [(.int p1)]))
              refine oS (fun t k => oBp lb_6 X0.here hx rfl (hb hby d1_54) k) ?_
              by_cases hc56 : p1 = (6 : Int32)
              · refine oS (fun t k => XS.icmpNo X0.here hx rfl (hb hby d1_56) rfl (teq hc56).2 k) ?_
                obtain ⟨T7, X7, e7, st7⟩ := getS2 X0 hx hZ hown (host := "") (Or.inl (oW hw 43 rfl)) Via.refl e0 ((wS10 W).ext O0.2) (g := (mkF m 59 #[.val (.int p1)] [])) rfl (hb hby d1_59)
                refine oS (fun t k => st7 t k) ?_
                show oG _ _ _ _ _ _ _ (T7.setTop (mkF m 62 #[.val (.int p1)] [(.ref (w 10))]))
                try clear st7
                exact own_ret (v := some (.ref (w 10))) X7 (fun h => by rw [Bd.returns] at h; cases h) Bd.notSynchronized (fun fs hr => retOut X7 hx (t := (.object "com/example/lamassu/lamassu/builtin/CharClass")) Bd.returns rfl (Or.inr (Or.inr (Or.inr (Or.inr ⟨rfl, rfl, rfl⟩)))) (hb hby d1_62) hr) (by rw [e7]; exact ⟨(by simp only [own_pick, if_neg hc1, if_neg hc10, if_neg hc19, if_neg hc28, if_neg hc37, if_neg hc46, if_pos hc56]), N0, rfl⟩) (by decide) (by decide)
              · refine oS (fun t k => XS.icmpYes X0.here hx rfl (pc0 := 56) (pc' := 63) rfl (hb hby d1_56) rfl (feq hc56).2 (by decide) (by decide) k) ?_
                refine oS (fun t k => XS.iloadN X0.here hx rfl (hb hby d1_63) rfl k) ?_
                show oG _ _ _ _ _ _ _ (s₁.setTop (mkF m 64 #[.val (.int p1)] [(.int p1)]))
                refine oS (fun t k => oBp lb_7 X0.here hx rfl (hb hby d1_64) k) ?_
                by_cases hc66 : p1 = (7 : Int32)
                · refine oS (fun t k => XS.icmpNo X0.here hx rfl (hb hby d1_66) rfl (teq hc66).2 k) ?_
                  obtain ⟨T8, X8, e8, st8⟩ := getS2 X0 hx hZ hown (host := "") (Or.inl (oW hw 35 rfl)) Via.refl e0 ((wS6 W).ext O0.2) (g := (mkF m 69 #[.val (.int p1)] [])) rfl (hb hby d1_69)
                  refine oS (fun t k => st8 t k) ?_
                  show oG _ _ _ _ _ _ _ (T8.setTop (mkF m 72 #[.val (.int p1)] [(.ref (w 6))]))
                  try clear st8
                  exact own_ret (v := some (.ref (w 6))) X8 (fun h => by rw [Bd.returns] at h; cases h) Bd.notSynchronized (fun fs hr => retOut X8 hx (t := (.object "com/example/lamassu/lamassu/builtin/CharClass")) Bd.returns rfl (Or.inr (Or.inr (Or.inr (Or.inr ⟨rfl, rfl, rfl⟩)))) (hb hby d1_72) hr) (by rw [e8]; exact ⟨(by simp only [own_pick, if_neg hc1, if_neg hc10, if_neg hc19, if_neg hc28, if_neg hc37, if_neg hc46, if_neg hc56, if_pos hc66]), N0, rfl⟩) (by decide) (by decide)
                · refine oS (fun t k => XS.icmpYes X0.here hx rfl (pc0 := 66) (pc' := 73) rfl (hb hby d1_66) rfl (feq hc66).2 (by decide) (by decide) k) ?_
                  refine oS (fun t k => XS.iloadN X0.here hx rfl (hb hby d1_73) rfl k) ?_
                  show oG _ _ _ _ _ _ _ (s₁.setTop (mkF m 74 #[.val (.int p1)] [(.int p1)]))
                  refine oS (fun t k => oBp lb_8 X0.here hx rfl (hb hby d1_74) k) ?_
                  by_cases hc76 : p1 = (8 : Int32)
                  · refine oS (fun t k => XS.icmpNo X0.here hx rfl (hb hby d1_76) rfl (teq hc76).2 k) ?_
                    obtain ⟨T9, X9, e9, st9⟩ := getS2 X0 hx hZ hown (host := "") (Or.inl (oW hw 29 rfl)) Via.refl e0 ((wS3 W).ext O0.2) (g := (mkF m 79 #[.val (.int p1)] [])) rfl (hb hby d1_79)
                    refine oS (fun t k => st9 t k) ?_
                    show oG _ _ _ _ _ _ _ (T9.setTop (mkF m 82 #[.val (.int p1)] [(.ref (w 3))]))
                    try clear st9
                    exact own_ret (v := some (.ref (w 3))) X9 (fun h => by rw [Bd.returns] at h; cases h) Bd.notSynchronized (fun fs hr => retOut X9 hx (t := (.object "com/example/lamassu/lamassu/builtin/CharClass")) Bd.returns rfl (Or.inr (Or.inr (Or.inr (Or.inr ⟨rfl, rfl, rfl⟩)))) (hb hby d1_82) hr) (by rw [e9]; exact ⟨(by simp only [own_pick, if_neg hc1, if_neg hc10, if_neg hc19, if_neg hc28, if_neg hc37, if_neg hc46, if_neg hc56, if_neg hc66, if_pos hc76]), N0, rfl⟩) (by decide) (by decide)
                  · refine oS (fun t k => XS.icmpYes X0.here hx rfl (pc0 := 76) (pc' := 83) rfl (hb hby d1_76) rfl (feq hc76).2 (by decide) (by decide) k) ?_
                    refine oS (fun t k => XS.iloadN X0.here hx rfl (hb hby d1_83) rfl k) ?_
                    show oG _ _ _ _ _ _ _ (s₁.setTop (mkF m 84 #[.val (.int p1)] [(.int p1)]))
                    refine oS (fun t k => oBp lb_9 X0.here hx rfl (hb hby d1_84) k) ?_
                    by_cases hc86 : p1 = (9 : Int32)
                    · refine oS (fun t k => XS.icmpNo X0.here hx rfl (hb hby d1_86) rfl (teq hc86).2 k) ?_
                      obtain ⟨T10, X10, e10, st10⟩ := getS2 X0 hx hZ hown (host := "") (Or.inl (oW hw 45 rfl)) Via.refl e0 ((wS11 W).ext O0.2) (g := (mkF m 89 #[.val (.int p1)] [])) rfl (hb hby d1_89)
                      refine oS (fun t k => st10 t k) ?_
                      show oG _ _ _ _ _ _ _ (T10.setTop (mkF m 92 #[.val (.int p1)] [(.ref (w 11))]))
                      try clear st10
                      exact own_ret (v := some (.ref (w 11))) X10 (fun h => by rw [Bd.returns] at h; cases h) Bd.notSynchronized (fun fs hr => retOut X10 hx (t := (.object "com/example/lamassu/lamassu/builtin/CharClass")) Bd.returns rfl (Or.inr (Or.inr (Or.inr (Or.inr ⟨rfl, rfl, rfl⟩)))) (hb hby d1_92) hr) (by rw [e10]; exact ⟨(by simp only [own_pick, if_neg hc1, if_neg hc10, if_neg hc19, if_neg hc28, if_neg hc37, if_neg hc46, if_neg hc56, if_neg hc66, if_neg hc76, if_pos hc86]), N0, rfl⟩) (by decide) (by decide)
                    · refine oS (fun t k => XS.icmpYes X0.here hx rfl (pc0 := 86) (pc' := 93) rfl (hb hby d1_86) rfl (feq hc86).2 (by decide) (by decide) k) ?_
                      refine oS (fun t k => XS.iloadN X0.here hx rfl (hb hby d1_93) rfl k) ?_
                      show oG _ _ _ _ _ _ _ (s₁.setTop (mkF m 94 #[.val (.int p1)] [(.int p1)]))
                      refine oS (fun t k => oBp lb_10 X0.here hx rfl (hb hby d1_94) k) ?_
                      by_cases hc96 : p1 = (10 : Int32)
                      · refine oS (fun t k => XS.icmpNo X0.here hx rfl (hb hby d1_96) rfl (teq hc96).2 k) ?_
                        obtain ⟨T11, X11, e11, st11⟩ := getS2 X0 hx hZ hown (host := "") (Or.inl (oW hw 39 rfl)) Via.refl e0 ((wS8 W).ext O0.2) (g := (mkF m 99 #[.val (.int p1)] [])) rfl (hb hby d1_99)
                        refine oS (fun t k => st11 t k) ?_
                        show oG _ _ _ _ _ _ _ (T11.setTop (mkF m 102 #[.val (.int p1)] [(.ref (w 8))]))
                        try clear st11
                        exact own_ret (v := some (.ref (w 8))) X11 (fun h => by rw [Bd.returns] at h; cases h) Bd.notSynchronized (fun fs hr => retOut X11 hx (t := (.object "com/example/lamassu/lamassu/builtin/CharClass")) Bd.returns rfl (Or.inr (Or.inr (Or.inr (Or.inr ⟨rfl, rfl, rfl⟩)))) (hb hby d1_102) hr) (by rw [e11]; exact ⟨(by simp only [own_pick, if_neg hc1, if_neg hc10, if_neg hc19, if_neg hc28, if_neg hc37, if_neg hc46, if_neg hc56, if_neg hc66, if_neg hc76, if_neg hc86, if_pos hc96]), N0, rfl⟩) (by decide) (by decide)
                      · refine oS (fun t k => XS.icmpYes X0.here hx rfl (pc0 := 96) (pc' := 103) rfl (hb hby d1_96) rfl (feq hc96).2 (by decide) (by decide) k) ?_
                        obtain ⟨T12, X12, e12, st12⟩ := getS2 X0 hx hZ hown (host := "") (Or.inl (oW hw 27 rfl)) Via.refl e0 ((wS2 W).ext O0.2) (g := (mkF m 103 #[.val (.int p1)] [])) rfl (hb hby d1_103)
                        refine oS (fun t k => st12 t k) ?_
                        show oG _ _ _ _ _ _ _ (T12.setTop (mkF m 106 #[.val (.int p1)] [(.ref (w 2))]))
                        try clear st12
                        exact own_ret (v := some (.ref (w 2))) X12 (fun h => by rw [Bd.returns] at h; cases h) Bd.notSynchronized (fun fs hr => retOut X12 hx (t := (.object "com/example/lamassu/lamassu/builtin/CharClass")) Bd.returns rfl (Or.inr (Or.inr (Or.inr (Or.inr ⟨rfl, rfl, rfl⟩)))) (hb hby d1_106) hr) (by rw [e12]; exact ⟨(by simp only [own_pick, if_neg hc1, if_neg hc10, if_neg hc19, if_neg hc28, if_neg hc37, if_neg hc46, if_neg hc56, if_neg hc66, if_neg hc76, if_neg hc86, if_neg hc96]), N0, rfl⟩) (by decide) (by decide)
theorem d4_0 : decode jdk_37_method_2_code 0 = .ok (.aload_n 0, 1) := by decide +kernel
theorem d4_1 : decode jdk_37_method_2_code 1 = .ok (.getfield 7, 3) := by decide +kernel
theorem d4_4 : decode jdk_37_method_2_code 4 = .ok (.ireturn, 1) := by decide +kernel
abbrev mY2 : MethodName := (⟨"java/lang/Enum", "ordinal", "()I"⟩ : MethodName)
theorem ef_4_r (m : MethodId) (x0 : Addr) : entryFrame m #[(.ref x0)] 1 = mkF m 0 #[.val (.ref x0)] [] := by first | (simp [entryFrame, mkF, argsToLocals, Value.category]; done) | rfl
theorem pn_1 : plainName "java/lang/Enum" = true := by first | (simp [plainName, overriddenIn]; done) | decide +kernel
def Q_ord_ALNUM (Z : State)  (w : Nat → Addr) (h0 : Heap) (n0 : Nat) (v : Option Value) (h : Heap) (L : List Loc) : Prop := v = some (.int 0) ∧ Fr n0 L ∧ h = h0
set_option maxRecDepth 65536 in
set_option maxHeartbeats 40000000 in
theorem rm_ord_ALNUM (l : Launch) (Z : State) (a0 : Array Value) (hw : ∀ d ∈ tables_1, d.before a0 Z = true) (ws : List Jvm.Cond)  (w : Nat → Addr) (h0 : Heap) (n0 : Nat) (O0 : Old Z n0 h0) (W : own_World Z w) :
    MetFree l mY2 (head1 (Jvm.Cond.code mY2 jdk_37_method_2_code 1 (some .int) :: ws) ({ frames := 0, cells := 0, slots := 0, locals := 0 } : Room)) (fun a U => a = #[(.ref (w 4))] ∧ Z.Warmed39 U.vm ∧ U.heap = h0) (fun _ _ _ _ _ => True) (fun _ U o U' => ∃ v L, o = .returned v ∧ Q_ord_ALNUM Z  w h0 n0 v U'.heap L ∧ FrameEnd U o U' L ({ frames := 0, cells := 0, slots := 0, locals := 0 } : Room).cells ({ frames := 0, cells := 0, slots := 0, locals := 0 } : Room).slots) := by
  refine MetFree.of_bodySF (plainFor_of_name pn_1) hisR ?_
  intro p e s m args below meth c s₁ Bd hml0 hP hK
  obtain ⟨rfl, hZ, hh⟩ := hP
  have hx := Bd.exec
  have hby := Bd.bytes
  have hml : c.maxLocals = 1 := hml0
  have hown : s.vm.findClass "java/lang/Enum" = some m.cls := findClass_of_methodNamed Bd.named
  have hnm := (name_of_methodNamed Bd.named Bd.method).1
  have X0 : Stand p l e ({ frames := 0, cells := 0, slots := 0, locals := 0 } : Room) s m #[(.ref (w 4))] below meth c s₁ [] 0 0 := Stand.of_body Bd
  have e0 : s₁.heap = h0 := by rw [← hh, Bd.state]; rfl
  have N0 := Fr.nil n0
  show oG p e below s (Q_ord_ALNUM Z  w h0 n0) ({ frames := 0, cells := 0, slots := 0, locals := 0 } : Room).cells ({ frames := 0, cells := 0, slots := 0, locals := 0 } : Room).slots _
  refine oS (fun t k => castTop (ef_4_r m (w 4)) k) ?_
  show oG _ _ _ _ _ _ _ (s₁.setTop (mkF m 0 #[.val (.ref (w 4))] []))
  refine oS (fun t k => XS.aloadN X0.here hx rfl (hb hby d4_0) rfl rfl k) ?_
  obtain ⟨T1, X1, e1, st1⟩ := getF X0 hx hZ hown (host := "") (Or.inl (oW hw 23 rfl)) Via.refl e0 ((wF4_ordinal W).ext O0.2) (g := (mkF m 1 #[.val (.ref (w 4))] [(.ref (w 4))])) rfl rfl (hb hby d4_1)
  refine oS (fun t k => st1 t k) ?_
  try clear st1
  exact own_ret (v := some (.int 0)) X1 (fun h => by rw [Bd.returns] at h; cases h) Bd.notSynchronized (fun fs hr => retOut X1 hx (t := .int) Bd.returns rfl (Or.inl ⟨rfl, Or.inl rfl, _, rfl⟩) (hb hby d4_4) hr) (by rw [e1]; exact ⟨rfl, N0, rfl⟩) (by decide) (by decide)
theorem d3_0 : decode prog_6_method_5_code 0 = .ok (.iload_n 1, 1) := by decide +kernel
theorem d3_1 : decode prog_6_method_5_code 1 = .ok (.bipush 97, 2) := by decide +kernel
theorem d3_3 : decode prog_6_method_5_code 3 = .ok (.if_icmp .lt 13, 3) := by decide +kernel
theorem d3_16 : decode prog_6_method_5_code 16 = .ok (.iconst 0, 1) := by decide +kernel
theorem d3_17 : decode prog_6_method_5_code 17 = .ok (.istore_n 2, 1) := by decide +kernel
theorem d3_6 : decode prog_6_method_5_code 6 = .ok (.iload_n 1, 1) := by decide +kernel
theorem d3_7 : decode prog_6_method_5_code 7 = .ok (.bipush 122, 2) := by decide +kernel
theorem d3_9 : decode prog_6_method_5_code 9 = .ok (.if_icmp .gt 7, 3) := by decide +kernel
theorem d3_12 : decode prog_6_method_5_code 12 = .ok (.iconst 1, 1) := by decide +kernel
theorem d3_13 : decode prog_6_method_5_code 13 = .ok (.goto 4, 3) := by decide +kernel
theorem d3_18 : decode prog_6_method_5_code 18 = .ok (.iload_n 1, 1) := by decide +kernel
theorem d3_19 : decode prog_6_method_5_code 19 = .ok (.bipush 65, 2) := by decide +kernel
theorem d3_21 : decode prog_6_method_5_code 21 = .ok (.if_icmp .lt 13, 3) := by decide +kernel
theorem d3_34 : decode prog_6_method_5_code 34 = .ok (.iconst 0, 1) := by decide +kernel
theorem d3_35 : decode prog_6_method_5_code 35 = .ok (.istore_n 3, 1) := by decide +kernel
theorem d3_24 : decode prog_6_method_5_code 24 = .ok (.iload_n 1, 1) := by decide +kernel
theorem d3_25 : decode prog_6_method_5_code 25 = .ok (.bipush 90, 2) := by decide +kernel
theorem d3_27 : decode prog_6_method_5_code 27 = .ok (.if_icmp .gt 7, 3) := by decide +kernel
theorem d3_30 : decode prog_6_method_5_code 30 = .ok (.iconst 1, 1) := by decide +kernel
theorem d3_31 : decode prog_6_method_5_code 31 = .ok (.goto 4, 3) := by decide +kernel
theorem d3_36 : decode prog_6_method_5_code 36 = .ok (.iload_n 1, 1) := by decide +kernel
theorem d3_37 : decode prog_6_method_5_code 37 = .ok (.bipush 48, 2) := by decide +kernel
theorem d3_39 : decode prog_6_method_5_code 39 = .ok (.if_icmp .lt 13, 3) := by decide +kernel
theorem d3_52 : decode prog_6_method_5_code 52 = .ok (.iconst 0, 1) := by decide +kernel
theorem d3_53 : decode prog_6_method_5_code 53 = .ok (.istore 4, 2) := by decide +kernel
theorem d3_42 : decode prog_6_method_5_code 42 = .ok (.iload_n 1, 1) := by decide +kernel
theorem d3_43 : decode prog_6_method_5_code 43 = .ok (.bipush 57, 2) := by decide +kernel
theorem d3_45 : decode prog_6_method_5_code 45 = .ok (.if_icmp .gt 7, 3) := by decide +kernel
theorem d3_48 : decode prog_6_method_5_code 48 = .ok (.iconst 1, 1) := by decide +kernel
theorem d3_49 : decode prog_6_method_5_code 49 = .ok (.goto 4, 3) := by decide +kernel
theorem d3_55 : decode prog_6_method_5_code 55 = .ok (.iload_n 1, 1) := by decide +kernel
theorem d3_56 : decode prog_6_method_5_code 56 = .ok (.bipush 32, 2) := by decide +kernel
theorem d3_58 : decode prog_6_method_5_code 58 = .ok (.if_icmp .le 13, 3) := by decide +kernel
theorem d3_61 : decode prog_6_method_5_code 61 = .ok (.iload_n 1, 1) := by decide +kernel
theorem d3_62 : decode prog_6_method_5_code 62 = .ok (.bipush 127, 2) := by decide +kernel
theorem d3_64 : decode prog_6_method_5_code 64 = .ok (.if_icmp .ge 7, 3) := by decide +kernel
theorem d3_67 : decode prog_6_method_5_code 67 = .ok (.iconst 1, 1) := by decide +kernel
theorem d3_68 : decode prog_6_method_5_code 68 = .ok (.goto 4, 3) := by decide +kernel
theorem d3_72 : decode prog_6_method_5_code 72 = .ok (.istore 5, 2) := by decide +kernel
theorem d3_71 : decode prog_6_method_5_code 71 = .ok (.iconst 0, 1) := by decide +kernel
theorem d3_74 : decode prog_6_method_5_code 74 = .ok (.aload_n 0, 1) := by decide +kernel
theorem d3_75 : decode prog_6_method_5_code 75 = .ok (.invokevirtual 83, 3) := by decide +kernel
theorem pd_0 : parseMethodDescriptor "()I" = some ⟨[], some .int⟩ := by decide +kernel
abbrev mY3 : MethodName := (⟨"com/example/lamassu/lamassu/builtin/CharClass", "ordinal", "()I"⟩ : MethodName)
theorem d3_78 : decode prog_6_method_5_code 78 = .ok (.tableswitch 62 0 11 #[72, 93, 109, 129, 149, 154, 159, 163, 182, 208, 234, 238], 62) := by decide +kernel
theorem d3_150 : decode prog_6_method_5_code 150 = .ok (.iload_n 2, 1) := by decide +kernel
theorem d3_151 : decode prog_6_method_5_code 151 = .ok (.ifCond .ne 12, 3) := by decide +kernel
theorem d3_154 : decode prog_6_method_5_code 154 = .ok (.iload_n 3, 1) := by decide +kernel
theorem d3_155 : decode prog_6_method_5_code 155 = .ok (.ifCond .ne 8, 3) := by decide +kernel
theorem d3_158 : decode prog_6_method_5_code 158 = .ok (.iload 4, 2) := by decide +kernel
theorem d3_160 : decode prog_6_method_5_code 160 = .ok (.ifCond .eq 7, 3) := by decide +kernel
theorem d3_167 : decode prog_6_method_5_code 167 = .ok (.iconst 0, 1) := by decide +kernel
theorem d3_168 : decode prog_6_method_5_code 168 = .ok (.goto 182, 3) := by decide +kernel
theorem d3_350 : decode prog_6_method_5_code 350 = .ok (.ireturn, 1) := by decide +kernel
theorem d3_163 : decode prog_6_method_5_code 163 = .ok (.iconst 1, 1) := by decide +kernel
theorem d3_164 : decode prog_6_method_5_code 164 = .ok (.goto 186, 3) := by decide +kernel
abbrev mY4 : MethodName := (⟨"com/example/lamassu/lamassu/builtin/CharClass", "contains", "(I)Z"⟩ : MethodName)
theorem ef_3_ri (m : MethodId) (x0 : Addr) (x1 : Int32) : entryFrame m #[(.ref x0), (.int x1)] 6 = mkF m 0 #[.val (.ref x0), .val (.int x1), .unset, .unset, .unset, .unset] [] := by first | (simp [entryFrame, mkF, argsToLocals, Value.category]; done) | rfl
theorem pn_2 : plainName "com/example/lamassu/lamassu/builtin/CharClass" = true := by first | (simp [plainName, overriddenIn]; done) | decide +kernel
def Q_con_ALNUM (Z : State) (p1 : Int32) (w : Nat → Addr) (h0 : Heap) (n0 : Nat) (v : Option Value) (h : Heap) (L : List Loc) : Prop := v = some (.int (own_in (0 : Int32) p1)) ∧ Fr n0 L ∧ h = h0
set_option maxRecDepth 65536 in
set_option maxHeartbeats 40000000 in
theorem rm_con_ALNUM (l : Launch) (Z : State) (a0 : Array Value) (hw : ∀ d ∈ tables_1, d.before a0 Z = true) (ws : List Jvm.Cond) (p1 : Int32) (w : Nat → Addr) (h0 : Heap) (n0 : Nat) (O0 : Old Z n0 h0) (W : own_World Z w) (hlo : ¬ (p1 < (0 : Int32))) (hhi : p1 < (256 : Int32)) :
    MetFree l mY4 (head1 (Jvm.Cond.code mY4 prog_6_method_5_code 6 (some .boolean) :: ws) ({ frames := 1, cells := 0, slots := 0, locals := 12 } : Room)) (fun a U => a = #[(.ref (w 4)), (.int p1)] ∧ Z.Warmed39 U.vm ∧ U.heap = h0) (fun _ _ _ _ _ => True) (fun _ U o U' => ∃ v L, o = .returned v ∧ Q_con_ALNUM Z p1 w h0 n0 v U'.heap L ∧ FrameEnd U o U' L ({ frames := 1, cells := 0, slots := 0, locals := 12 } : Room).cells ({ frames := 1, cells := 0, slots := 0, locals := 12 } : Room).slots) := by
  refine MetFree.of_bodySF (plainFor_of_name pn_2) hisR ?_
  intro p e s m args below meth c s₁ Bd hml0 hP hK
  obtain ⟨rfl, hZ, hh⟩ := hP
  have hx := Bd.exec
  have hby := Bd.bytes
  have hml : c.maxLocals = 6 := hml0
  have hown : s.vm.findClass "com/example/lamassu/lamassu/builtin/CharClass" = some m.cls := findClass_of_methodNamed Bd.named
  have hnm := (name_of_methodNamed Bd.named Bd.method).1
  have X0 : Stand p l e ({ frames := 1, cells := 0, slots := 0, locals := 12 } : Room) s m #[(.ref (w 4)), (.int p1)] below meth c s₁ [] 0 0 := Stand.of_body Bd
  have e0 : s₁.heap = h0 := by rw [← hh, Bd.state]; rfl
  have N0 := Fr.nil n0
  show oG p e below s (Q_con_ALNUM Z p1 w h0 n0) ({ frames := 1, cells := 0, slots := 0, locals := 12 } : Room).cells ({ frames := 1, cells := 0, slots := 0, locals := 12 } : Room).slots _
  refine oS (fun t k => castTop (ef_3_ri m (w 4) p1) k) ?_
  show oG _ _ _ _ _ _ _ (s₁.setTop (mkF m 0 #[.val (.ref (w 4)), .val (.int p1), .unset, .unset, .unset, .unset] []))
  suffices cut : oG p e below s (Q_con_ALNUM Z p1 w h0 n0) ({ frames := 1, cells := 0, slots := 0, locals := 12 } : Room).cells ({ frames := 1, cells := 0, slots := 0, locals := 12 } : Room).slots (s₁.setTop (mkF m 18 #[.val (.ref (w 4)), .val (.int p1), .val (.int (own_lo p1)), .unset, .unset, .unset] [])) by
    refine oS (fun t k => XS.iloadN X0.here hx rfl (hb hby d3_0) rfl k) ?_
    refine oS (fun t k => oBp lb_97 X0.here hx rfl (hb hby d3_1) k) ?_
    by_cases hc3 : p1 < (97 : Int32)
    · refine oS (fun t k => XS.icmpYes X0.here hx rfl (pc0 := 3) (pc' := 16) rfl (hb hby d3_3) rfl (tlt hc3).1 (by decide) (by decide) k) ?_
      show oG _ _ _ _ _ _ _ (s₁.setTop (mkF m 16 #[.val (.ref (w 4)), .val (.int p1), .unset, .unset, .unset, .unset] []))
      refine oS (fun t k => oIc li_0 X0.here hx rfl (hb hby d3_16) k) ?_
      refine oS (fun t k => XS.istoreN X0.here hx rfl (hb hby d3_17) rfl (l' := #[.val (.ref (w 4)), .val (.int p1), .val (.int 0), .unset, .unset, .unset]) rfl k) ?_
      have ej0 : (own_lo p1) = (0 : Int32) := (by simp only [own_lo, if_pos hc3])
      rw [ej0] at cut
      exact cut
    · refine oS (fun t k => XS.icmpNo X0.here hx rfl (hb hby d3_3) rfl (flt hc3).1 k) ?_
      show oG _ _ _ _ _ _ _ (s₁.setTop (mkF m 6 #[.val (.ref (w 4)), .val (.int p1), .unset, .unset, .unset, .unset] []))
      refine oS (fun t k => XS.iloadN X0.here hx rfl (hb hby d3_6) rfl k) ?_
      refine oS (fun t k => oBp lb_122 X0.here hx rfl (hb hby d3_7) k) ?_
      by_cases hc9 : (122 : Int32) < p1
      · refine oS (fun t k => XS.icmpYes X0.here hx rfl (pc0 := 9) (pc' := 16) rfl (hb hby d3_9) rfl (tlt hc9).2.2.1 (by decide) (by decide) k) ?_
        show oG _ _ _ _ _ _ _ (s₁.setTop (mkF m 16 #[.val (.ref (w 4)), .val (.int p1), .unset, .unset, .unset, .unset] []))
        refine oS (fun t k => oIc li_0 X0.here hx rfl (hb hby d3_16) k) ?_
        refine oS (fun t k => XS.istoreN X0.here hx rfl (hb hby d3_17) rfl (l' := #[.val (.ref (w 4)), .val (.int p1), .val (.int 0), .unset, .unset, .unset]) rfl k) ?_
        have ej0 : (own_lo p1) = (0 : Int32) := (by simp only [own_lo, if_neg hc3, if_pos hc9])
        rw [ej0] at cut
        exact cut
      · refine oS (fun t k => XS.icmpNo X0.here hx rfl (hb hby d3_9) rfl (flt hc9).2.2.1 k) ?_
        show oG _ _ _ _ _ _ _ (s₁.setTop (mkF m 12 #[.val (.ref (w 4)), .val (.int p1), .unset, .unset, .unset, .unset] []))
        refine oS (fun t k => oIc li_1 X0.here hx rfl (hb hby d3_12) k) ?_
        refine oS (fun t k => XS.goto X0.here hx rfl (pc0 := 13) (pc' := 17) rfl (hb hby d3_13) (by decide) (by decide) k) ?_
        refine oS (fun t k => XS.istoreN X0.here hx rfl (hb hby d3_17) rfl (l' := #[.val (.ref (w 4)), .val (.int p1), .val (.int 1), .unset, .unset, .unset]) rfl k) ?_
        show oG _ _ _ _ _ _ _ (s₁.setTop (mkF m 18 #[.val (.ref (w 4)), .val (.int p1), .val (.int 1), .unset, .unset, .unset] []))
        have ej0 : (own_lo p1) = (1 : Int32) := (by simp only [own_lo, if_neg hc3, if_neg hc9])
        rw [ej0] at cut
        exact cut
  suffices cut : oG p e below s (Q_con_ALNUM Z p1 w h0 n0) ({ frames := 1, cells := 0, slots := 0, locals := 12 } : Room).cells ({ frames := 1, cells := 0, slots := 0, locals := 12 } : Room).slots (s₁.setTop (mkF m 36 #[.val (.ref (w 4)), .val (.int p1), .val (.int (own_lo p1)), .val (.int (own_up p1)), .unset, .unset] [])) by
    refine oS (fun t k => XS.iloadN X0.here hx rfl (hb hby d3_18) rfl k) ?_
    refine oS (fun t k => oBp lb_65 X0.here hx rfl (hb hby d3_19) k) ?_
    by_cases hc21 : p1 < (65 : Int32)
    · refine oS (fun t k => XS.icmpYes X0.here hx rfl (pc0 := 21) (pc' := 34) rfl (hb hby d3_21) rfl (tlt hc21).1 (by decide) (by decide) k) ?_
      show oG _ _ _ _ _ _ _ (s₁.setTop (mkF m 34 #[.val (.ref (w 4)), .val (.int p1), .val (.int (own_lo p1)), .unset, .unset, .unset] []))
      refine oS (fun t k => oIc li_0 X0.here hx rfl (hb hby d3_34) k) ?_
      refine oS (fun t k => XS.istoreN X0.here hx rfl (hb hby d3_35) rfl (l' := #[.val (.ref (w 4)), .val (.int p1), .val (.int (own_lo p1)), .val (.int 0), .unset, .unset]) rfl k) ?_
      have ej0 : (own_up p1) = (0 : Int32) := (by simp only [own_up, if_pos hc21])
      rw [ej0] at cut
      exact cut
    · refine oS (fun t k => XS.icmpNo X0.here hx rfl (hb hby d3_21) rfl (flt hc21).1 k) ?_
      show oG _ _ _ _ _ _ _ (s₁.setTop (mkF m 24 #[.val (.ref (w 4)), .val (.int p1), .val (.int (own_lo p1)), .unset, .unset, .unset] []))
      refine oS (fun t k => XS.iloadN X0.here hx rfl (hb hby d3_24) rfl k) ?_
      refine oS (fun t k => oBp lb_90 X0.here hx rfl (hb hby d3_25) k) ?_
      by_cases hc27 : (90 : Int32) < p1
      · refine oS (fun t k => XS.icmpYes X0.here hx rfl (pc0 := 27) (pc' := 34) rfl (hb hby d3_27) rfl (tlt hc27).2.2.1 (by decide) (by decide) k) ?_
        show oG _ _ _ _ _ _ _ (s₁.setTop (mkF m 34 #[.val (.ref (w 4)), .val (.int p1), .val (.int (own_lo p1)), .unset, .unset, .unset] []))
        refine oS (fun t k => oIc li_0 X0.here hx rfl (hb hby d3_34) k) ?_
        refine oS (fun t k => XS.istoreN X0.here hx rfl (hb hby d3_35) rfl (l' := #[.val (.ref (w 4)), .val (.int p1), .val (.int (own_lo p1)), .val (.int 0), .unset, .unset]) rfl k) ?_
        have ej0 : (own_up p1) = (0 : Int32) := (by simp only [own_up, if_neg hc21, if_pos hc27])
        rw [ej0] at cut
        exact cut
      · refine oS (fun t k => XS.icmpNo X0.here hx rfl (hb hby d3_27) rfl (flt hc27).2.2.1 k) ?_
        show oG _ _ _ _ _ _ _ (s₁.setTop (mkF m 30 #[.val (.ref (w 4)), .val (.int p1), .val (.int (own_lo p1)), .unset, .unset, .unset] []))
        refine oS (fun t k => oIc li_1 X0.here hx rfl (hb hby d3_30) k) ?_
        refine oS (fun t k => XS.goto X0.here hx rfl (pc0 := 31) (pc' := 35) rfl (hb hby d3_31) (by decide) (by decide) k) ?_
        refine oS (fun t k => XS.istoreN X0.here hx rfl (hb hby d3_35) rfl (l' := #[.val (.ref (w 4)), .val (.int p1), .val (.int (own_lo p1)), .val (.int 1), .unset, .unset]) rfl k) ?_
        show oG _ _ _ _ _ _ _ (s₁.setTop (mkF m 36 #[.val (.ref (w 4)), .val (.int p1), .val (.int (own_lo p1)), .val (.int 1), .unset, .unset] []))
        have ej0 : (own_up p1) = (1 : Int32) := (by simp only [own_up, if_neg hc21, if_neg hc27])
        rw [ej0] at cut
        exact cut
  suffices cut : oG p e below s (Q_con_ALNUM Z p1 w h0 n0) ({ frames := 1, cells := 0, slots := 0, locals := 12 } : Room).cells ({ frames := 1, cells := 0, slots := 0, locals := 12 } : Room).slots (s₁.setTop (mkF m 55 #[.val (.ref (w 4)), .val (.int p1), .val (.int (own_lo p1)), .val (.int (own_up p1)), .val (.int (own_dg p1)), .unset] [])) by
    refine oS (fun t k => XS.iloadN X0.here hx rfl (hb hby d3_36) rfl k) ?_
    refine oS (fun t k => oBp lb_48 X0.here hx rfl (hb hby d3_37) k) ?_
    by_cases hc39 : p1 < (48 : Int32)
    · refine oS (fun t k => XS.icmpYes X0.here hx rfl (pc0 := 39) (pc' := 52) rfl (hb hby d3_39) rfl (tlt hc39).1 (by decide) (by decide) k) ?_
      show oG _ _ _ _ _ _ _ (s₁.setTop (mkF m 52 #[.val (.ref (w 4)), .val (.int p1), .val (.int (own_lo p1)), .val (.int (own_up p1)), .unset, .unset] []))
      refine oS (fun t k => oIc li_0 X0.here hx rfl (hb hby d3_52) k) ?_
      refine oS (fun t k => XS.istore X0.here hx rfl (hb hby d3_53) rfl (l' := #[.val (.ref (w 4)), .val (.int p1), .val (.int (own_lo p1)), .val (.int (own_up p1)), .val (.int 0), .unset]) rfl k) ?_
      have ej0 : (own_dg p1) = (0 : Int32) := (by simp only [own_dg, if_pos hc39])
      rw [ej0] at cut
      exact cut
    · refine oS (fun t k => XS.icmpNo X0.here hx rfl (hb hby d3_39) rfl (flt hc39).1 k) ?_
      show oG _ _ _ _ _ _ _ (s₁.setTop (mkF m 42 #[.val (.ref (w 4)), .val (.int p1), .val (.int (own_lo p1)), .val (.int (own_up p1)), .unset, .unset] []))
      refine oS (fun t k => XS.iloadN X0.here hx rfl (hb hby d3_42) rfl k) ?_
      refine oS (fun t k => oBp lb_57 X0.here hx rfl (hb hby d3_43) k) ?_
      by_cases hc45 : (57 : Int32) < p1
      · refine oS (fun t k => XS.icmpYes X0.here hx rfl (pc0 := 45) (pc' := 52) rfl (hb hby d3_45) rfl (tlt hc45).2.2.1 (by decide) (by decide) k) ?_
        show oG _ _ _ _ _ _ _ (s₁.setTop (mkF m 52 #[.val (.ref (w 4)), .val (.int p1), .val (.int (own_lo p1)), .val (.int (own_up p1)), .unset, .unset] []))
        refine oS (fun t k => oIc li_0 X0.here hx rfl (hb hby d3_52) k) ?_
        refine oS (fun t k => XS.istore X0.here hx rfl (hb hby d3_53) rfl (l' := #[.val (.ref (w 4)), .val (.int p1), .val (.int (own_lo p1)), .val (.int (own_up p1)), .val (.int 0), .unset]) rfl k) ?_
        have ej0 : (own_dg p1) = (0 : Int32) := (by simp only [own_dg, if_neg hc39, if_pos hc45])
        rw [ej0] at cut
        exact cut
      · refine oS (fun t k => XS.icmpNo X0.here hx rfl (hb hby d3_45) rfl (flt hc45).2.2.1 k) ?_
        show oG _ _ _ _ _ _ _ (s₁.setTop (mkF m 48 #[.val (.ref (w 4)), .val (.int p1), .val (.int (own_lo p1)), .val (.int (own_up p1)), .unset, .unset] []))
        refine oS (fun t k => oIc li_1 X0.here hx rfl (hb hby d3_48) k) ?_
        refine oS (fun t k => XS.goto X0.here hx rfl (pc0 := 49) (pc' := 53) rfl (hb hby d3_49) (by decide) (by decide) k) ?_
        refine oS (fun t k => XS.istore X0.here hx rfl (hb hby d3_53) rfl (l' := #[.val (.ref (w 4)), .val (.int p1), .val (.int (own_lo p1)), .val (.int (own_up p1)), .val (.int 1), .unset]) rfl k) ?_
        show oG _ _ _ _ _ _ _ (s₁.setTop (mkF m 55 #[.val (.ref (w 4)), .val (.int p1), .val (.int (own_lo p1)), .val (.int (own_up p1)), .val (.int 1), .unset] []))
        have ej0 : (own_dg p1) = (1 : Int32) := (by simp only [own_dg, if_neg hc39, if_neg hc45])
        rw [ej0] at cut
        exact cut
  suffices cut : oG p e below s (Q_con_ALNUM Z p1 w h0 n0) ({ frames := 1, cells := 0, slots := 0, locals := 12 } : Room).cells ({ frames := 1, cells := 0, slots := 0, locals := 12 } : Room).slots (s₁.setTop (mkF m 74 #[.val (.ref (w 4)), .val (.int p1), .val (.int (own_lo p1)), .val (.int (own_up p1)), .val (.int (own_dg p1)), .val (.int (own_gr p1))] [])) by
    refine oS (fun t k => XS.iloadN X0.here hx rfl (hb hby d3_55) rfl k) ?_
    refine oS (fun t k => oBp lb_32 X0.here hx rfl (hb hby d3_56) k) ?_
    by_cases hc58 : (32 : Int32) < p1
    · refine oS (fun t k => XS.icmpNo X0.here hx rfl (hb hby d3_58) rfl (tlt hc58).2.2.2 k) ?_
      show oG _ _ _ _ _ _ _ (s₁.setTop (mkF m 61 #[.val (.ref (w 4)), .val (.int p1), .val (.int (own_lo p1)), .val (.int (own_up p1)), .val (.int (own_dg p1)), .unset] []))
      refine oS (fun t k => XS.iloadN X0.here hx rfl (hb hby d3_61) rfl k) ?_
      refine oS (fun t k => oBp lb_127 X0.here hx rfl (hb hby d3_62) k) ?_
      by_cases hc64 : p1 < (127 : Int32)
      · refine oS (fun t k => XS.icmpNo X0.here hx rfl (hb hby d3_64) rfl (tlt hc64).2.1 k) ?_
        show oG _ _ _ _ _ _ _ (s₁.setTop (mkF m 67 #[.val (.ref (w 4)), .val (.int p1), .val (.int (own_lo p1)), .val (.int (own_up p1)), .val (.int (own_dg p1)), .unset] []))
        refine oS (fun t k => oIc li_1 X0.here hx rfl (hb hby d3_67) k) ?_
        refine oS (fun t k => XS.goto X0.here hx rfl (pc0 := 68) (pc' := 72) rfl (hb hby d3_68) (by decide) (by decide) k) ?_
        refine oS (fun t k => XS.istore X0.here hx rfl (hb hby d3_72) rfl (l' := #[.val (.ref (w 4)), .val (.int p1), .val (.int (own_lo p1)), .val (.int (own_up p1)), .val (.int (own_dg p1)), .val (.int 1)]) rfl k) ?_
        show oG _ _ _ _ _ _ _ (s₁.setTop (mkF m 74 #[.val (.ref (w 4)), .val (.int p1), .val (.int (own_lo p1)), .val (.int (own_up p1)), .val (.int (own_dg p1)), .val (.int 1)] []))
        have ej0 : (own_gr p1) = (1 : Int32) := (by simp only [own_gr, if_pos hc58, if_pos hc64])
        rw [ej0] at cut
        exact cut
      · refine oS (fun t k => XS.icmpYes X0.here hx rfl (pc0 := 64) (pc' := 71) rfl (hb hby d3_64) rfl (flt hc64).2.1 (by decide) (by decide) k) ?_
        show oG _ _ _ _ _ _ _ (s₁.setTop (mkF m 71 #[.val (.ref (w 4)), .val (.int p1), .val (.int (own_lo p1)), .val (.int (own_up p1)), .val (.int (own_dg p1)), .unset] []))
        refine oS (fun t k => oIc li_0 X0.here hx rfl (hb hby d3_71) k) ?_
        refine oS (fun t k => XS.istore X0.here hx rfl (hb hby d3_72) rfl (l' := #[.val (.ref (w 4)), .val (.int p1), .val (.int (own_lo p1)), .val (.int (own_up p1)), .val (.int (own_dg p1)), .val (.int 0)]) rfl k) ?_
        have ej0 : (own_gr p1) = (0 : Int32) := (by simp only [own_gr, if_pos hc58, if_neg hc64])
        rw [ej0] at cut
        exact cut
    · refine oS (fun t k => XS.icmpYes X0.here hx rfl (pc0 := 58) (pc' := 71) rfl (hb hby d3_58) rfl (flt hc58).2.2.2 (by decide) (by decide) k) ?_
      show oG _ _ _ _ _ _ _ (s₁.setTop (mkF m 71 #[.val (.ref (w 4)), .val (.int p1), .val (.int (own_lo p1)), .val (.int (own_up p1)), .val (.int (own_dg p1)), .unset] []))
      refine oS (fun t k => oIc li_0 X0.here hx rfl (hb hby d3_71) k) ?_
      refine oS (fun t k => XS.istore X0.here hx rfl (hb hby d3_72) rfl (l' := #[.val (.ref (w 4)), .val (.int p1), .val (.int (own_lo p1)), .val (.int (own_up p1)), .val (.int (own_dg p1)), .val (.int 0)]) rfl k) ?_
      have ej0 : (own_gr p1) = (0 : Int32) := (by simp only [own_gr, if_neg hc58])
      rw [ej0] at cut
      exact cut
  refine oS (fun t k => XS.aloadN X0.here hx rfl (hb hby d3_74) rfl rfl k) ?_
  obtain ⟨cq1, kq1, q1a, q1b, q1c⟩ := isOf hZ e0 ((wE4 W).ext O0.2)
  obtain ⟨_, _, ⟨T1, L1, k1, n1⟩, -, X1, ⟨Lc1, hQ1, l1, y1, z1⟩, st1⟩ := X0.virtualBackUp hx (x := mY3) (y := mY2) hown (mvT hZ (oW hw 16 rfl)) (mvT hZ (oW hw 17 rfl)) (mvT hZ (oW hw 18 rfl)) (by decide) (mvT hZ (oW hw 20 rfl)) (mvT hZ (oW hw 19 rfl)) (backOf (W := 0) (rm_ord_ALNUM l Z a0 hw []  w h0 n0 O0 W ) hZ (oW hw 22 rfl) (oW hw 21 rfl) (by decide) (by decide)) q1a q1c (g := (mkF m 75 #[.val (.ref (w 4)), .val (.int p1), .val (.int (own_lo p1)), .val (.int (own_up p1)), .val (.int (own_dg p1)), .val (.int (own_gr p1))] [(.ref (w 4))])) rfl (by rw [hml]; rfl) (Steps.refl _) (argsL := []) (rest := []) (lenOf pd_0 rfl) rfl (by show 2 * 0 + _ ≤ _; exact Nat.le_of_eq rfl) (hb hby d3_75) (fun _ _ => ⟨rfl, e0, (by decide : 0 + 0 ≤ _), (by decide : 0 + 0 ≤ _)⟩)
  dsimp only [Pt.U, Pt.locs, Pt.cells, Pt.slots] at X1 l1 y1 z1 st1 hQ1
  subst l1 y1 z1
  obtain ⟨rfl, Nq1, e1⟩ := hQ1
  have N1 := Fr.app N0 Nq1
  refine oS (fun t k => st1.trans k) ?_
  show oG _ _ _ _ _ _ _ (T1.setTop (mkF m 78 #[.val (.ref (w 4)), .val (.int p1), .val (.int (own_lo p1)), .val (.int (own_up p1)), .val (.int (own_dg p1)), .val (.int (own_gr p1))] [(.int 0)]))
  try clear st1
  refine oS (fun t k => XS.tswIn X1.here hx rfl (pc0 := 78) (pc' := 150) rfl (hb hby d3_78) (i := (0 : Int32)) rfl (by decide) (o := 72) rfl (by decide) (by decide) k) ?_
  refine oS (fun t k => XS.iloadN X1.here hx rfl (hb hby d3_150) rfl k) ?_
  by_cases hc151 : (own_lo p1) = (0 : Int32)
  · refine oS (fun t k => XS.ifNo X1.here hx rfl (hb hby d3_151) rfl ((if0 _ _).trans (teq hc151).2) k) ?_
    show oG _ _ _ _ _ _ _ (T1.setTop (mkF m 154 #[.val (.ref (w 4)), .val (.int p1), .val (.int (own_lo p1)), .val (.int (own_up p1)), .val (.int (own_dg p1)), .val (.int (own_gr p1))] []))
    refine oS (fun t k => XS.iloadN X1.here hx rfl (hb hby d3_154) rfl k) ?_
    by_cases hc155 : (own_up p1) = (0 : Int32)
    · refine oS (fun t k => XS.ifNo X1.here hx rfl (hb hby d3_155) rfl ((if0 _ _).trans (teq hc155).2) k) ?_
      refine oS (fun t k => XS.iload X1.here hx rfl (hb hby d3_158) rfl k) ?_
      show oG _ _ _ _ _ _ _ (T1.setTop (mkF m 160 #[.val (.ref (w 4)), .val (.int p1), .val (.int (own_lo p1)), .val (.int (own_up p1)), .val (.int (own_dg p1)), .val (.int (own_gr p1))] [(.int (own_dg p1))]))
      by_cases hc160 : (own_dg p1) = (0 : Int32)
      · refine oS (fun t k => XS.ifYes X1.here hx rfl (pc0 := 160) (pc' := 167) rfl (hb hby d3_160) rfl ((if0 _ _).trans (teq hc160).1) (by decide) (by decide) k) ?_
        refine oS (fun t k => oIc li_0 X1.here hx rfl (hb hby d3_167) k) ?_
        refine oS (fun t k => XS.goto X1.here hx rfl (pc0 := 168) (pc' := 350) rfl (hb hby d3_168) (by decide) (by decide) k) ?_
        show oG _ _ _ _ _ _ _ (T1.setTop (mkF m 350 #[.val (.ref (w 4)), .val (.int p1), .val (.int (own_lo p1)), .val (.int (own_up p1)), .val (.int (own_dg p1)), .val (.int (own_gr p1))] [(.int 0)]))
        exact own_ret (v := some (.int 0)) X1 (fun h => by rw [Bd.returns] at h; cases h) Bd.notSynchronized (fun fs hr => retN X1 hx (t := .boolean) Bd.returns (by simp) (hb hby d3_350) hr) (by rw [e1]; exact ⟨(congrArg (fun z => some (Value.int z)) (own_all (P := fun c => ((own_lo c) = (0 : Int32)) → ((own_up c) = (0 : Int32)) → ((own_dg c) = (0 : Int32)) → (0 : Int32) = (own_in (0 : Int32) c)) p1 hlo hhi (by decide +kernel) hc151 hc155 hc160)), N1, rfl⟩) (by decide) (by decide)
      · refine oS (fun t k => XS.ifNo X1.here hx rfl (hb hby d3_160) rfl ((if0 _ _).trans (feq hc160).1) k) ?_
        refine oS (fun t k => oIc li_1 X1.here hx rfl (hb hby d3_163) k) ?_
        refine oS (fun t k => XS.goto X1.here hx rfl (pc0 := 164) (pc' := 350) rfl (hb hby d3_164) (by decide) (by decide) k) ?_
        show oG _ _ _ _ _ _ _ (T1.setTop (mkF m 350 #[.val (.ref (w 4)), .val (.int p1), .val (.int (own_lo p1)), .val (.int (own_up p1)), .val (.int (own_dg p1)), .val (.int (own_gr p1))] [(.int 1)]))
        exact own_ret (v := some (.int 1)) X1 (fun h => by rw [Bd.returns] at h; cases h) Bd.notSynchronized (fun fs hr => retN X1 hx (t := .boolean) Bd.returns (by simp) (hb hby d3_350) hr) (by rw [e1]; exact ⟨(congrArg (fun z => some (Value.int z)) (own_all (P := fun c => ((own_lo c) = (0 : Int32)) → ((own_up c) = (0 : Int32)) → ¬ ((own_dg c) = (0 : Int32)) → (1 : Int32) = (own_in (0 : Int32) c)) p1 hlo hhi (by decide +kernel) hc151 hc155 hc160)), N1, rfl⟩) (by decide) (by decide)
    · refine oS (fun t k => XS.ifYes X1.here hx rfl (pc0 := 155) (pc' := 163) rfl (hb hby d3_155) rfl ((if0 _ _).trans (feq hc155).2) (by decide) (by decide) k) ?_
      refine oS (fun t k => oIc li_1 X1.here hx rfl (hb hby d3_163) k) ?_
      show oG _ _ _ _ _ _ _ (T1.setTop (mkF m 164 #[.val (.ref (w 4)), .val (.int p1), .val (.int (own_lo p1)), .val (.int (own_up p1)), .val (.int (own_dg p1)), .val (.int (own_gr p1))] [(.int 1)]))
      refine oS (fun t k => XS.goto X1.here hx rfl (pc0 := 164) (pc' := 350) rfl (hb hby d3_164) (by decide) (by decide) k) ?_
      exact own_ret (v := some (.int 1)) X1 (fun h => by rw [Bd.returns] at h; cases h) Bd.notSynchronized (fun fs hr => retN X1 hx (t := .boolean) Bd.returns (by simp) (hb hby d3_350) hr) (by rw [e1]; exact ⟨(congrArg (fun z => some (Value.int z)) (own_all (P := fun c => ((own_lo c) = (0 : Int32)) → ¬ ((own_up c) = (0 : Int32)) → (1 : Int32) = (own_in (0 : Int32) c)) p1 hlo hhi (by decide +kernel) hc151 hc155)), N1, rfl⟩) (by decide) (by decide)
  · refine oS (fun t k => XS.ifYes X1.here hx rfl (pc0 := 151) (pc' := 163) rfl (hb hby d3_151) rfl ((if0 _ _).trans (feq hc151).2) (by decide) (by decide) k) ?_
    show oG _ _ _ _ _ _ _ (T1.setTop (mkF m 163 #[.val (.ref (w 4)), .val (.int p1), .val (.int (own_lo p1)), .val (.int (own_up p1)), .val (.int (own_dg p1)), .val (.int (own_gr p1))] []))
    refine oS (fun t k => oIc li_1 X1.here hx rfl (hb hby d3_163) k) ?_
    refine oS (fun t k => XS.goto X1.here hx rfl (pc0 := 164) (pc' := 350) rfl (hb hby d3_164) (by decide) (by decide) k) ?_
    exact own_ret (v := some (.int 1)) X1 (fun h => by rw [Bd.returns] at h; cases h) Bd.notSynchronized (fun fs hr => retN X1 hx (t := .boolean) Bd.returns (by simp) (hb hby d3_350) hr) (by rw [e1]; exact ⟨(congrArg (fun z => some (Value.int z)) (own_all (P := fun c => ¬ ((own_lo c) = (0 : Int32)) → (1 : Int32) = (own_in (0 : Int32) c)) p1 hlo hhi (by decide +kernel) hc151)), N1, rfl⟩) (by decide) (by decide)
def Q_ord_ALPHA (Z : State)  (w : Nat → Addr) (h0 : Heap) (n0 : Nat) (v : Option Value) (h : Heap) (L : List Loc) : Prop := v = some (.int 1) ∧ Fr n0 L ∧ h = h0
set_option maxRecDepth 65536 in
set_option maxHeartbeats 40000000 in
theorem rm_ord_ALPHA (l : Launch) (Z : State) (a0 : Array Value) (hw : ∀ d ∈ tables_1, d.before a0 Z = true) (ws : List Jvm.Cond)  (w : Nat → Addr) (h0 : Heap) (n0 : Nat) (O0 : Old Z n0 h0) (W : own_World Z w) :
    MetFree l mY2 (head1 (Jvm.Cond.code mY2 jdk_37_method_2_code 1 (some .int) :: ws) ({ frames := 0, cells := 0, slots := 0, locals := 0 } : Room)) (fun a U => a = #[(.ref (w 1))] ∧ Z.Warmed39 U.vm ∧ U.heap = h0) (fun _ _ _ _ _ => True) (fun _ U o U' => ∃ v L, o = .returned v ∧ Q_ord_ALPHA Z  w h0 n0 v U'.heap L ∧ FrameEnd U o U' L ({ frames := 0, cells := 0, slots := 0, locals := 0 } : Room).cells ({ frames := 0, cells := 0, slots := 0, locals := 0 } : Room).slots) := by
  refine MetFree.of_bodySF (plainFor_of_name pn_1) hisR ?_
  intro p e s m args below meth c s₁ Bd hml0 hP hK
  obtain ⟨rfl, hZ, hh⟩ := hP
  have hx := Bd.exec
  have hby := Bd.bytes
  have hml : c.maxLocals = 1 := hml0
  have hown : s.vm.findClass "java/lang/Enum" = some m.cls := findClass_of_methodNamed Bd.named
  have hnm := (name_of_methodNamed Bd.named Bd.method).1
  have X0 : Stand p l e ({ frames := 0, cells := 0, slots := 0, locals := 0 } : Room) s m #[(.ref (w 1))] below meth c s₁ [] 0 0 := Stand.of_body Bd
  have e0 : s₁.heap = h0 := by rw [← hh, Bd.state]; rfl
  have N0 := Fr.nil n0
  show oG p e below s (Q_ord_ALPHA Z  w h0 n0) ({ frames := 0, cells := 0, slots := 0, locals := 0 } : Room).cells ({ frames := 0, cells := 0, slots := 0, locals := 0 } : Room).slots _
  refine oS (fun t k => castTop (ef_4_r m (w 1)) k) ?_
  show oG _ _ _ _ _ _ _ (s₁.setTop (mkF m 0 #[.val (.ref (w 1))] []))
  refine oS (fun t k => XS.aloadN X0.here hx rfl (hb hby d4_0) rfl rfl k) ?_
  obtain ⟨T1, X1, e1, st1⟩ := getF X0 hx hZ hown (host := "") (Or.inl (oW hw 23 rfl)) Via.refl e0 ((wF1_ordinal W).ext O0.2) (g := (mkF m 1 #[.val (.ref (w 1))] [(.ref (w 1))])) rfl rfl (hb hby d4_1)
  refine oS (fun t k => st1 t k) ?_
  try clear st1
  exact own_ret (v := some (.int 1)) X1 (fun h => by rw [Bd.returns] at h; cases h) Bd.notSynchronized (fun fs hr => retOut X1 hx (t := .int) Bd.returns rfl (Or.inl ⟨rfl, Or.inl rfl, _, rfl⟩) (hb hby d4_4) hr) (by rw [e1]; exact ⟨rfl, N0, rfl⟩) (by decide) (by decide)
theorem d3_171 : decode prog_6_method_5_code 171 = .ok (.iload_n 2, 1) := by decide +kernel
theorem d3_172 : decode prog_6_method_5_code 172 = .ok (.ifCond .ne 7, 3) := by decide +kernel
theorem d3_175 : decode prog_6_method_5_code 175 = .ok (.iload_n 3, 1) := by decide +kernel
theorem d3_176 : decode prog_6_method_5_code 176 = .ok (.ifCond .eq 7, 3) := by decide +kernel
theorem d3_183 : decode prog_6_method_5_code 183 = .ok (.iconst 0, 1) := by decide +kernel
theorem d3_184 : decode prog_6_method_5_code 184 = .ok (.goto 166, 3) := by decide +kernel
theorem d3_179 : decode prog_6_method_5_code 179 = .ok (.iconst 1, 1) := by decide +kernel
theorem d3_180 : decode prog_6_method_5_code 180 = .ok (.goto 170, 3) := by decide +kernel
def Q_con_ALPHA (Z : State) (p1 : Int32) (w : Nat → Addr) (h0 : Heap) (n0 : Nat) (v : Option Value) (h : Heap) (L : List Loc) : Prop := v = some (.int (own_in (1 : Int32) p1)) ∧ Fr n0 L ∧ h = h0
set_option maxRecDepth 65536 in
set_option maxHeartbeats 40000000 in
theorem rm_con_ALPHA (l : Launch) (Z : State) (a0 : Array Value) (hw : ∀ d ∈ tables_1, d.before a0 Z = true) (ws : List Jvm.Cond) (p1 : Int32) (w : Nat → Addr) (h0 : Heap) (n0 : Nat) (O0 : Old Z n0 h0) (W : own_World Z w) (hlo : ¬ (p1 < (0 : Int32))) (hhi : p1 < (256 : Int32)) :
    MetFree l mY4 (head1 (Jvm.Cond.code mY4 prog_6_method_5_code 6 (some .boolean) :: ws) ({ frames := 1, cells := 0, slots := 0, locals := 12 } : Room)) (fun a U => a = #[(.ref (w 1)), (.int p1)] ∧ Z.Warmed39 U.vm ∧ U.heap = h0) (fun _ _ _ _ _ => True) (fun _ U o U' => ∃ v L, o = .returned v ∧ Q_con_ALPHA Z p1 w h0 n0 v U'.heap L ∧ FrameEnd U o U' L ({ frames := 1, cells := 0, slots := 0, locals := 12 } : Room).cells ({ frames := 1, cells := 0, slots := 0, locals := 12 } : Room).slots) := by
  refine MetFree.of_bodySF (plainFor_of_name pn_2) hisR ?_
  intro p e s m args below meth c s₁ Bd hml0 hP hK
  obtain ⟨rfl, hZ, hh⟩ := hP
  have hx := Bd.exec
  have hby := Bd.bytes
  have hml : c.maxLocals = 6 := hml0
  have hown : s.vm.findClass "com/example/lamassu/lamassu/builtin/CharClass" = some m.cls := findClass_of_methodNamed Bd.named
  have hnm := (name_of_methodNamed Bd.named Bd.method).1
  have X0 : Stand p l e ({ frames := 1, cells := 0, slots := 0, locals := 12 } : Room) s m #[(.ref (w 1)), (.int p1)] below meth c s₁ [] 0 0 := Stand.of_body Bd
  have e0 : s₁.heap = h0 := by rw [← hh, Bd.state]; rfl
  have N0 := Fr.nil n0
  show oG p e below s (Q_con_ALPHA Z p1 w h0 n0) ({ frames := 1, cells := 0, slots := 0, locals := 12 } : Room).cells ({ frames := 1, cells := 0, slots := 0, locals := 12 } : Room).slots _
  refine oS (fun t k => castTop (ef_3_ri m (w 1) p1) k) ?_
  show oG _ _ _ _ _ _ _ (s₁.setTop (mkF m 0 #[.val (.ref (w 1)), .val (.int p1), .unset, .unset, .unset, .unset] []))
  suffices cut : oG p e below s (Q_con_ALPHA Z p1 w h0 n0) ({ frames := 1, cells := 0, slots := 0, locals := 12 } : Room).cells ({ frames := 1, cells := 0, slots := 0, locals := 12 } : Room).slots (s₁.setTop (mkF m 18 #[.val (.ref (w 1)), .val (.int p1), .val (.int (own_lo p1)), .unset, .unset, .unset] [])) by
    refine oS (fun t k => XS.iloadN X0.here hx rfl (hb hby d3_0) rfl k) ?_
    refine oS (fun t k => oBp lb_97 X0.here hx rfl (hb hby d3_1) k) ?_
    by_cases hc3 : p1 < (97 : Int32)
    · refine oS (fun t k => XS.icmpYes X0.here hx rfl (pc0 := 3) (pc' := 16) rfl (hb hby d3_3) rfl (tlt hc3).1 (by decide) (by decide) k) ?_
      show oG _ _ _ _ _ _ _ (s₁.setTop (mkF m 16 #[.val (.ref (w 1)), .val (.int p1), .unset, .unset, .unset, .unset] []))
      refine oS (fun t k => oIc li_0 X0.here hx rfl (hb hby d3_16) k) ?_
      refine oS (fun t k => XS.istoreN X0.here hx rfl (hb hby d3_17) rfl (l' := #[.val (.ref (w 1)), .val (.int p1), .val (.int 0), .unset, .unset, .unset]) rfl k) ?_
      have ej0 : (own_lo p1) = (0 : Int32) := (by simp only [own_lo, if_pos hc3])
      rw [ej0] at cut
      exact cut
    · refine oS (fun t k => XS.icmpNo X0.here hx rfl (hb hby d3_3) rfl (flt hc3).1 k) ?_
      show oG _ _ _ _ _ _ _ (s₁.setTop (mkF m 6 #[.val (.ref (w 1)), .val (.int p1), .unset, .unset, .unset, .unset] []))
      refine oS (fun t k => XS.iloadN X0.here hx rfl (hb hby d3_6) rfl k) ?_
      refine oS (fun t k => oBp lb_122 X0.here hx rfl (hb hby d3_7) k) ?_
      by_cases hc9 : (122 : Int32) < p1
      · refine oS (fun t k => XS.icmpYes X0.here hx rfl (pc0 := 9) (pc' := 16) rfl (hb hby d3_9) rfl (tlt hc9).2.2.1 (by decide) (by decide) k) ?_
        show oG _ _ _ _ _ _ _ (s₁.setTop (mkF m 16 #[.val (.ref (w 1)), .val (.int p1), .unset, .unset, .unset, .unset] []))
        refine oS (fun t k => oIc li_0 X0.here hx rfl (hb hby d3_16) k) ?_
        refine oS (fun t k => XS.istoreN X0.here hx rfl (hb hby d3_17) rfl (l' := #[.val (.ref (w 1)), .val (.int p1), .val (.int 0), .unset, .unset, .unset]) rfl k) ?_
        have ej0 : (own_lo p1) = (0 : Int32) := (by simp only [own_lo, if_neg hc3, if_pos hc9])
        rw [ej0] at cut
        exact cut
      · refine oS (fun t k => XS.icmpNo X0.here hx rfl (hb hby d3_9) rfl (flt hc9).2.2.1 k) ?_
        show oG _ _ _ _ _ _ _ (s₁.setTop (mkF m 12 #[.val (.ref (w 1)), .val (.int p1), .unset, .unset, .unset, .unset] []))
        refine oS (fun t k => oIc li_1 X0.here hx rfl (hb hby d3_12) k) ?_
        refine oS (fun t k => XS.goto X0.here hx rfl (pc0 := 13) (pc' := 17) rfl (hb hby d3_13) (by decide) (by decide) k) ?_
        refine oS (fun t k => XS.istoreN X0.here hx rfl (hb hby d3_17) rfl (l' := #[.val (.ref (w 1)), .val (.int p1), .val (.int 1), .unset, .unset, .unset]) rfl k) ?_
        show oG _ _ _ _ _ _ _ (s₁.setTop (mkF m 18 #[.val (.ref (w 1)), .val (.int p1), .val (.int 1), .unset, .unset, .unset] []))
        have ej0 : (own_lo p1) = (1 : Int32) := (by simp only [own_lo, if_neg hc3, if_neg hc9])
        rw [ej0] at cut
        exact cut
  suffices cut : oG p e below s (Q_con_ALPHA Z p1 w h0 n0) ({ frames := 1, cells := 0, slots := 0, locals := 12 } : Room).cells ({ frames := 1, cells := 0, slots := 0, locals := 12 } : Room).slots (s₁.setTop (mkF m 36 #[.val (.ref (w 1)), .val (.int p1), .val (.int (own_lo p1)), .val (.int (own_up p1)), .unset, .unset] [])) by
    refine oS (fun t k => XS.iloadN X0.here hx rfl (hb hby d3_18) rfl k) ?_
    refine oS (fun t k => oBp lb_65 X0.here hx rfl (hb hby d3_19) k) ?_
    by_cases hc21 : p1 < (65 : Int32)
    · refine oS (fun t k => XS.icmpYes X0.here hx rfl (pc0 := 21) (pc' := 34) rfl (hb hby d3_21) rfl (tlt hc21).1 (by decide) (by decide) k) ?_
      show oG _ _ _ _ _ _ _ (s₁.setTop (mkF m 34 #[.val (.ref (w 1)), .val (.int p1), .val (.int (own_lo p1)), .unset, .unset, .unset] []))
      refine oS (fun t k => oIc li_0 X0.here hx rfl (hb hby d3_34) k) ?_
      refine oS (fun t k => XS.istoreN X0.here hx rfl (hb hby d3_35) rfl (l' := #[.val (.ref (w 1)), .val (.int p1), .val (.int (own_lo p1)), .val (.int 0), .unset, .unset]) rfl k) ?_
      have ej0 : (own_up p1) = (0 : Int32) := (by simp only [own_up, if_pos hc21])
      rw [ej0] at cut
      exact cut
    · refine oS (fun t k => XS.icmpNo X0.here hx rfl (hb hby d3_21) rfl (flt hc21).1 k) ?_
      show oG _ _ _ _ _ _ _ (s₁.setTop (mkF m 24 #[.val (.ref (w 1)), .val (.int p1), .val (.int (own_lo p1)), .unset, .unset, .unset] []))
      refine oS (fun t k => XS.iloadN X0.here hx rfl (hb hby d3_24) rfl k) ?_
      refine oS (fun t k => oBp lb_90 X0.here hx rfl (hb hby d3_25) k) ?_
      by_cases hc27 : (90 : Int32) < p1
      · refine oS (fun t k => XS.icmpYes X0.here hx rfl (pc0 := 27) (pc' := 34) rfl (hb hby d3_27) rfl (tlt hc27).2.2.1 (by decide) (by decide) k) ?_
        show oG _ _ _ _ _ _ _ (s₁.setTop (mkF m 34 #[.val (.ref (w 1)), .val (.int p1), .val (.int (own_lo p1)), .unset, .unset, .unset] []))
        refine oS (fun t k => oIc li_0 X0.here hx rfl (hb hby d3_34) k) ?_
        refine oS (fun t k => XS.istoreN X0.here hx rfl (hb hby d3_35) rfl (l' := #[.val (.ref (w 1)), .val (.int p1), .val (.int (own_lo p1)), .val (.int 0), .unset, .unset]) rfl k) ?_
        have ej0 : (own_up p1) = (0 : Int32) := (by simp only [own_up, if_neg hc21, if_pos hc27])
        rw [ej0] at cut
        exact cut
      · refine oS (fun t k => XS.icmpNo X0.here hx rfl (hb hby d3_27) rfl (flt hc27).2.2.1 k) ?_
        show oG _ _ _ _ _ _ _ (s₁.setTop (mkF m 30 #[.val (.ref (w 1)), .val (.int p1), .val (.int (own_lo p1)), .unset, .unset, .unset] []))
        refine oS (fun t k => oIc li_1 X0.here hx rfl (hb hby d3_30) k) ?_
        refine oS (fun t k => XS.goto X0.here hx rfl (pc0 := 31) (pc' := 35) rfl (hb hby d3_31) (by decide) (by decide) k) ?_
        refine oS (fun t k => XS.istoreN X0.here hx rfl (hb hby d3_35) rfl (l' := #[.val (.ref (w 1)), .val (.int p1), .val (.int (own_lo p1)), .val (.int 1), .unset, .unset]) rfl k) ?_
        show oG _ _ _ _ _ _ _ (s₁.setTop (mkF m 36 #[.val (.ref (w 1)), .val (.int p1), .val (.int (own_lo p1)), .val (.int 1), .unset, .unset] []))
        have ej0 : (own_up p1) = (1 : Int32) := (by simp only [own_up, if_neg hc21, if_neg hc27])
        rw [ej0] at cut
        exact cut
  suffices cut : oG p e below s (Q_con_ALPHA Z p1 w h0 n0) ({ frames := 1, cells := 0, slots := 0, locals := 12 } : Room).cells ({ frames := 1, cells := 0, slots := 0, locals := 12 } : Room).slots (s₁.setTop (mkF m 55 #[.val (.ref (w 1)), .val (.int p1), .val (.int (own_lo p1)), .val (.int (own_up p1)), .val (.int (own_dg p1)), .unset] [])) by
    refine oS (fun t k => XS.iloadN X0.here hx rfl (hb hby d3_36) rfl k) ?_
    refine oS (fun t k => oBp lb_48 X0.here hx rfl (hb hby d3_37) k) ?_
    by_cases hc39 : p1 < (48 : Int32)
    · refine oS (fun t k => XS.icmpYes X0.here hx rfl (pc0 := 39) (pc' := 52) rfl (hb hby d3_39) rfl (tlt hc39).1 (by decide) (by decide) k) ?_
      show oG _ _ _ _ _ _ _ (s₁.setTop (mkF m 52 #[.val (.ref (w 1)), .val (.int p1), .val (.int (own_lo p1)), .val (.int (own_up p1)), .unset, .unset] []))
      refine oS (fun t k => oIc li_0 X0.here hx rfl (hb hby d3_52) k) ?_
      refine oS (fun t k => XS.istore X0.here hx rfl (hb hby d3_53) rfl (l' := #[.val (.ref (w 1)), .val (.int p1), .val (.int (own_lo p1)), .val (.int (own_up p1)), .val (.int 0), .unset]) rfl k) ?_
      have ej0 : (own_dg p1) = (0 : Int32) := (by simp only [own_dg, if_pos hc39])
      rw [ej0] at cut
      exact cut
    · refine oS (fun t k => XS.icmpNo X0.here hx rfl (hb hby d3_39) rfl (flt hc39).1 k) ?_
      show oG _ _ _ _ _ _ _ (s₁.setTop (mkF m 42 #[.val (.ref (w 1)), .val (.int p1), .val (.int (own_lo p1)), .val (.int (own_up p1)), .unset, .unset] []))
      refine oS (fun t k => XS.iloadN X0.here hx rfl (hb hby d3_42) rfl k) ?_
      refine oS (fun t k => oBp lb_57 X0.here hx rfl (hb hby d3_43) k) ?_
      by_cases hc45 : (57 : Int32) < p1
      · refine oS (fun t k => XS.icmpYes X0.here hx rfl (pc0 := 45) (pc' := 52) rfl (hb hby d3_45) rfl (tlt hc45).2.2.1 (by decide) (by decide) k) ?_
        show oG _ _ _ _ _ _ _ (s₁.setTop (mkF m 52 #[.val (.ref (w 1)), .val (.int p1), .val (.int (own_lo p1)), .val (.int (own_up p1)), .unset, .unset] []))
        refine oS (fun t k => oIc li_0 X0.here hx rfl (hb hby d3_52) k) ?_
        refine oS (fun t k => XS.istore X0.here hx rfl (hb hby d3_53) rfl (l' := #[.val (.ref (w 1)), .val (.int p1), .val (.int (own_lo p1)), .val (.int (own_up p1)), .val (.int 0), .unset]) rfl k) ?_
        have ej0 : (own_dg p1) = (0 : Int32) := (by simp only [own_dg, if_neg hc39, if_pos hc45])
        rw [ej0] at cut
        exact cut
      · refine oS (fun t k => XS.icmpNo X0.here hx rfl (hb hby d3_45) rfl (flt hc45).2.2.1 k) ?_
        show oG _ _ _ _ _ _ _ (s₁.setTop (mkF m 48 #[.val (.ref (w 1)), .val (.int p1), .val (.int (own_lo p1)), .val (.int (own_up p1)), .unset, .unset] []))
        refine oS (fun t k => oIc li_1 X0.here hx rfl (hb hby d3_48) k) ?_
        refine oS (fun t k => XS.goto X0.here hx rfl (pc0 := 49) (pc' := 53) rfl (hb hby d3_49) (by decide) (by decide) k) ?_
        refine oS (fun t k => XS.istore X0.here hx rfl (hb hby d3_53) rfl (l' := #[.val (.ref (w 1)), .val (.int p1), .val (.int (own_lo p1)), .val (.int (own_up p1)), .val (.int 1), .unset]) rfl k) ?_
        show oG _ _ _ _ _ _ _ (s₁.setTop (mkF m 55 #[.val (.ref (w 1)), .val (.int p1), .val (.int (own_lo p1)), .val (.int (own_up p1)), .val (.int 1), .unset] []))
        have ej0 : (own_dg p1) = (1 : Int32) := (by simp only [own_dg, if_neg hc39, if_neg hc45])
        rw [ej0] at cut
        exact cut
  suffices cut : oG p e below s (Q_con_ALPHA Z p1 w h0 n0) ({ frames := 1, cells := 0, slots := 0, locals := 12 } : Room).cells ({ frames := 1, cells := 0, slots := 0, locals := 12 } : Room).slots (s₁.setTop (mkF m 74 #[.val (.ref (w 1)), .val (.int p1), .val (.int (own_lo p1)), .val (.int (own_up p1)), .val (.int (own_dg p1)), .val (.int (own_gr p1))] [])) by
    refine oS (fun t k => XS.iloadN X0.here hx rfl (hb hby d3_55) rfl k) ?_
    refine oS (fun t k => oBp lb_32 X0.here hx rfl (hb hby d3_56) k) ?_
    by_cases hc58 : (32 : Int32) < p1
    · refine oS (fun t k => XS.icmpNo X0.here hx rfl (hb hby d3_58) rfl (tlt hc58).2.2.2 k) ?_
      show oG _ _ _ _ _ _ _ (s₁.setTop (mkF m 61 #[.val (.ref (w 1)), .val (.int p1), .val (.int (own_lo p1)), .val (.int (own_up p1)), .val (.int (own_dg p1)), .unset] []))
      refine oS (fun t k => XS.iloadN X0.here hx rfl (hb hby d3_61) rfl k) ?_
      refine oS (fun t k => oBp lb_127 X0.here hx rfl (hb hby d3_62) k) ?_
      by_cases hc64 : p1 < (127 : Int32)
      · refine oS (fun t k => XS.icmpNo X0.here hx rfl (hb hby d3_64) rfl (tlt hc64).2.1 k) ?_
        show oG _ _ _ _ _ _ _ (s₁.setTop (mkF m 67 #[.val (.ref (w 1)), .val (.int p1), .val (.int (own_lo p1)), .val (.int (own_up p1)), .val (.int (own_dg p1)), .unset] []))
        refine oS (fun t k => oIc li_1 X0.here hx rfl (hb hby d3_67) k) ?_
        refine oS (fun t k => XS.goto X0.here hx rfl (pc0 := 68) (pc' := 72) rfl (hb hby d3_68) (by decide) (by decide) k) ?_
        refine oS (fun t k => XS.istore X0.here hx rfl (hb hby d3_72) rfl (l' := #[.val (.ref (w 1)), .val (.int p1), .val (.int (own_lo p1)), .val (.int (own_up p1)), .val (.int (own_dg p1)), .val (.int 1)]) rfl k) ?_
        show oG _ _ _ _ _ _ _ (s₁.setTop (mkF m 74 #[.val (.ref (w 1)), .val (.int p1), .val (.int (own_lo p1)), .val (.int (own_up p1)), .val (.int (own_dg p1)), .val (.int 1)] []))
        have ej0 : (own_gr p1) = (1 : Int32) := (by simp only [own_gr, if_pos hc58, if_pos hc64])
        rw [ej0] at cut
        exact cut
      · refine oS (fun t k => XS.icmpYes X0.here hx rfl (pc0 := 64) (pc' := 71) rfl (hb hby d3_64) rfl (flt hc64).2.1 (by decide) (by decide) k) ?_
        show oG _ _ _ _ _ _ _ (s₁.setTop (mkF m 71 #[.val (.ref (w 1)), .val (.int p1), .val (.int (own_lo p1)), .val (.int (own_up p1)), .val (.int (own_dg p1)), .unset] []))
        refine oS (fun t k => oIc li_0 X0.here hx rfl (hb hby d3_71) k) ?_
        refine oS (fun t k => XS.istore X0.here hx rfl (hb hby d3_72) rfl (l' := #[.val (.ref (w 1)), .val (.int p1), .val (.int (own_lo p1)), .val (.int (own_up p1)), .val (.int (own_dg p1)), .val (.int 0)]) rfl k) ?_
        have ej0 : (own_gr p1) = (0 : Int32) := (by simp only [own_gr, if_pos hc58, if_neg hc64])
        rw [ej0] at cut
        exact cut
    · refine oS (fun t k => XS.icmpYes X0.here hx rfl (pc0 := 58) (pc' := 71) rfl (hb hby d3_58) rfl (flt hc58).2.2.2 (by decide) (by decide) k) ?_
      show oG _ _ _ _ _ _ _ (s₁.setTop (mkF m 71 #[.val (.ref (w 1)), .val (.int p1), .val (.int (own_lo p1)), .val (.int (own_up p1)), .val (.int (own_dg p1)), .unset] []))
      refine oS (fun t k => oIc li_0 X0.here hx rfl (hb hby d3_71) k) ?_
      refine oS (fun t k => XS.istore X0.here hx rfl (hb hby d3_72) rfl (l' := #[.val (.ref (w 1)), .val (.int p1), .val (.int (own_lo p1)), .val (.int (own_up p1)), .val (.int (own_dg p1)), .val (.int 0)]) rfl k) ?_
      have ej0 : (own_gr p1) = (0 : Int32) := (by simp only [own_gr, if_neg hc58])
      rw [ej0] at cut
      exact cut
  refine oS (fun t k => XS.aloadN X0.here hx rfl (hb hby d3_74) rfl rfl k) ?_
  obtain ⟨cq1, kq1, q1a, q1b, q1c⟩ := isOf hZ e0 ((wE1 W).ext O0.2)
  obtain ⟨_, _, ⟨T1, L1, k1, n1⟩, -, X1, ⟨Lc1, hQ1, l1, y1, z1⟩, st1⟩ := X0.virtualBackUp hx (x := mY3) (y := mY2) hown (mvT hZ (oW hw 16 rfl)) (mvT hZ (oW hw 17 rfl)) (mvT hZ (oW hw 18 rfl)) (by decide) (mvT hZ (oW hw 20 rfl)) (mvT hZ (oW hw 19 rfl)) (backOf (W := 0) (rm_ord_ALPHA l Z a0 hw []  w h0 n0 O0 W ) hZ (oW hw 22 rfl) (oW hw 21 rfl) (by decide) (by decide)) q1a q1c (g := (mkF m 75 #[.val (.ref (w 1)), .val (.int p1), .val (.int (own_lo p1)), .val (.int (own_up p1)), .val (.int (own_dg p1)), .val (.int (own_gr p1))] [(.ref (w 1))])) rfl (by rw [hml]; rfl) (Steps.refl _) (argsL := []) (rest := []) (lenOf pd_0 rfl) rfl (by show 2 * 0 + _ ≤ _; exact Nat.le_of_eq rfl) (hb hby d3_75) (fun _ _ => ⟨rfl, e0, (by decide : 0 + 0 ≤ _), (by decide : 0 + 0 ≤ _)⟩)
  dsimp only [Pt.U, Pt.locs, Pt.cells, Pt.slots] at X1 l1 y1 z1 st1 hQ1
  subst l1 y1 z1
  obtain ⟨rfl, Nq1, e1⟩ := hQ1
  have N1 := Fr.app N0 Nq1
  refine oS (fun t k => st1.trans k) ?_
  show oG _ _ _ _ _ _ _ (T1.setTop (mkF m 78 #[.val (.ref (w 1)), .val (.int p1), .val (.int (own_lo p1)), .val (.int (own_up p1)), .val (.int (own_dg p1)), .val (.int (own_gr p1))] [(.int 1)]))
  try clear st1
  refine oS (fun t k => XS.tswIn X1.here hx rfl (pc0 := 78) (pc' := 171) rfl (hb hby d3_78) (i := (1 : Int32)) rfl (by decide) (o := 93) rfl (by decide) (by decide) k) ?_
  refine oS (fun t k => XS.iloadN X1.here hx rfl (hb hby d3_171) rfl k) ?_
  by_cases hc172 : (own_lo p1) = (0 : Int32)
  · refine oS (fun t k => XS.ifNo X1.here hx rfl (hb hby d3_172) rfl ((if0 _ _).trans (teq hc172).2) k) ?_
    show oG _ _ _ _ _ _ _ (T1.setTop (mkF m 175 #[.val (.ref (w 1)), .val (.int p1), .val (.int (own_lo p1)), .val (.int (own_up p1)), .val (.int (own_dg p1)), .val (.int (own_gr p1))] []))
    refine oS (fun t k => XS.iloadN X1.here hx rfl (hb hby d3_175) rfl k) ?_
    by_cases hc176 : (own_up p1) = (0 : Int32)
    · refine oS (fun t k => XS.ifYes X1.here hx rfl (pc0 := 176) (pc' := 183) rfl (hb hby d3_176) rfl ((if0 _ _).trans (teq hc176).1) (by decide) (by decide) k) ?_
      refine oS (fun t k => oIc li_0 X1.here hx rfl (hb hby d3_183) k) ?_
      show oG _ _ _ _ _ _ _ (T1.setTop (mkF m 184 #[.val (.ref (w 1)), .val (.int p1), .val (.int (own_lo p1)), .val (.int (own_up p1)), .val (.int (own_dg p1)), .val (.int (own_gr p1))] [(.int 0)]))
      refine oS (fun t k => XS.goto X1.here hx rfl (pc0 := 184) (pc' := 350) rfl (hb hby d3_184) (by decide) (by decide) k) ?_
      exact own_ret (v := some (.int 0)) X1 (fun h => by rw [Bd.returns] at h; cases h) Bd.notSynchronized (fun fs hr => retN X1 hx (t := .boolean) Bd.returns (by simp) (hb hby d3_350) hr) (by rw [e1]; exact ⟨(congrArg (fun z => some (Value.int z)) (own_all (P := fun c => ((own_lo c) = (0 : Int32)) → ((own_up c) = (0 : Int32)) → (0 : Int32) = (own_in (1 : Int32) c)) p1 hlo hhi (by decide +kernel) hc172 hc176)), N1, rfl⟩) (by decide) (by decide)
    · refine oS (fun t k => XS.ifNo X1.here hx rfl (hb hby d3_176) rfl ((if0 _ _).trans (feq hc176).1) k) ?_
      refine oS (fun t k => oIc li_1 X1.here hx rfl (hb hby d3_179) k) ?_
      show oG _ _ _ _ _ _ _ (T1.setTop (mkF m 180 #[.val (.ref (w 1)), .val (.int p1), .val (.int (own_lo p1)), .val (.int (own_up p1)), .val (.int (own_dg p1)), .val (.int (own_gr p1))] [(.int 1)]))
      refine oS (fun t k => XS.goto X1.here hx rfl (pc0 := 180) (pc' := 350) rfl (hb hby d3_180) (by decide) (by decide) k) ?_
      exact own_ret (v := some (.int 1)) X1 (fun h => by rw [Bd.returns] at h; cases h) Bd.notSynchronized (fun fs hr => retN X1 hx (t := .boolean) Bd.returns (by simp) (hb hby d3_350) hr) (by rw [e1]; exact ⟨(congrArg (fun z => some (Value.int z)) (own_all (P := fun c => ((own_lo c) = (0 : Int32)) → ¬ ((own_up c) = (0 : Int32)) → (1 : Int32) = (own_in (1 : Int32) c)) p1 hlo hhi (by decide +kernel) hc172 hc176)), N1, rfl⟩) (by decide) (by decide)
  · refine oS (fun t k => XS.ifYes X1.here hx rfl (pc0 := 172) (pc' := 179) rfl (hb hby d3_172) rfl ((if0 _ _).trans (feq hc172).2) (by decide) (by decide) k) ?_
    show oG _ _ _ _ _ _ _ (T1.setTop (mkF m 179 #[.val (.ref (w 1)), .val (.int p1), .val (.int (own_lo p1)), .val (.int (own_up p1)), .val (.int (own_dg p1)), .val (.int (own_gr p1))] []))
    refine oS (fun t k => oIc li_1 X1.here hx rfl (hb hby d3_179) k) ?_
    refine oS (fun t k => XS.goto X1.here hx rfl (pc0 := 180) (pc' := 350) rfl (hb hby d3_180) (by decide) (by decide) k) ?_
    exact own_ret (v := some (.int 1)) X1 (fun h => by rw [Bd.returns] at h; cases h) Bd.notSynchronized (fun fs hr => retN X1 hx (t := .boolean) Bd.returns (by simp) (hb hby d3_350) hr) (by rw [e1]; exact ⟨(congrArg (fun z => some (Value.int z)) (own_all (P := fun c => ¬ ((own_lo c) = (0 : Int32)) → (1 : Int32) = (own_in (1 : Int32) c)) p1 hlo hhi (by decide +kernel) hc172)), N1, rfl⟩) (by decide) (by decide)
def Q_ord_BLANK (Z : State)  (w : Nat → Addr) (h0 : Heap) (n0 : Nat) (v : Option Value) (h : Heap) (L : List Loc) : Prop := v = some (.int 2) ∧ Fr n0 L ∧ h = h0
set_option maxRecDepth 65536 in
set_option maxHeartbeats 40000000 in
theorem rm_ord_BLANK (l : Launch) (Z : State) (a0 : Array Value) (hw : ∀ d ∈ tables_1, d.before a0 Z = true) (ws : List Jvm.Cond)  (w : Nat → Addr) (h0 : Heap) (n0 : Nat) (O0 : Old Z n0 h0) (W : own_World Z w) :
    MetFree l mY2 (head1 (Jvm.Cond.code mY2 jdk_37_method_2_code 1 (some .int) :: ws) ({ frames := 0, cells := 0, slots := 0, locals := 0 } : Room)) (fun a U => a = #[(.ref (w 9))] ∧ Z.Warmed39 U.vm ∧ U.heap = h0) (fun _ _ _ _ _ => True) (fun _ U o U' => ∃ v L, o = .returned v ∧ Q_ord_BLANK Z  w h0 n0 v U'.heap L ∧ FrameEnd U o U' L ({ frames := 0, cells := 0, slots := 0, locals := 0 } : Room).cells ({ frames := 0, cells := 0, slots := 0, locals := 0 } : Room).slots) := by
  refine MetFree.of_bodySF (plainFor_of_name pn_1) hisR ?_
  intro p e s m args below meth c s₁ Bd hml0 hP hK
  obtain ⟨rfl, hZ, hh⟩ := hP
  have hx := Bd.exec
  have hby := Bd.bytes
  have hml : c.maxLocals = 1 := hml0
  have hown : s.vm.findClass "java/lang/Enum" = some m.cls := findClass_of_methodNamed Bd.named
  have hnm := (name_of_methodNamed Bd.named Bd.method).1
  have X0 : Stand p l e ({ frames := 0, cells := 0, slots := 0, locals := 0 } : Room) s m #[(.ref (w 9))] below meth c s₁ [] 0 0 := Stand.of_body Bd
  have e0 : s₁.heap = h0 := by rw [← hh, Bd.state]; rfl
  have N0 := Fr.nil n0
  show oG p e below s (Q_ord_BLANK Z  w h0 n0) ({ frames := 0, cells := 0, slots := 0, locals := 0 } : Room).cells ({ frames := 0, cells := 0, slots := 0, locals := 0 } : Room).slots _
  refine oS (fun t k => castTop (ef_4_r m (w 9)) k) ?_
  show oG _ _ _ _ _ _ _ (s₁.setTop (mkF m 0 #[.val (.ref (w 9))] []))
  refine oS (fun t k => XS.aloadN X0.here hx rfl (hb hby d4_0) rfl rfl k) ?_
  obtain ⟨T1, X1, e1, st1⟩ := getF X0 hx hZ hown (host := "") (Or.inl (oW hw 23 rfl)) Via.refl e0 ((wF9_ordinal W).ext O0.2) (g := (mkF m 1 #[.val (.ref (w 9))] [(.ref (w 9))])) rfl rfl (hb hby d4_1)
  refine oS (fun t k => st1 t k) ?_
  try clear st1
  exact own_ret (v := some (.int 2)) X1 (fun h => by rw [Bd.returns] at h; cases h) Bd.notSynchronized (fun fs hr => retOut X1 hx (t := .int) Bd.returns rfl (Or.inl ⟨rfl, Or.inl rfl, _, rfl⟩) (hb hby d4_4) hr) (by rw [e1]; exact ⟨rfl, N0, rfl⟩) (by decide) (by decide)
theorem d3_187 : decode prog_6_method_5_code 187 = .ok (.iload_n 1, 1) := by decide +kernel
theorem d3_188 : decode prog_6_method_5_code 188 = .ok (.bipush 32, 2) := by decide +kernel
theorem d3_190 : decode prog_6_method_5_code 190 = .ok (.if_icmp .eq 9, 3) := by decide +kernel
theorem d3_199 : decode prog_6_method_5_code 199 = .ok (.iconst 1, 1) := by decide +kernel
theorem d3_200 : decode prog_6_method_5_code 200 = .ok (.goto 150, 3) := by decide +kernel
theorem d3_193 : decode prog_6_method_5_code 193 = .ok (.iload_n 1, 1) := by decide +kernel
theorem d3_194 : decode prog_6_method_5_code 194 = .ok (.bipush 9, 2) := by decide +kernel
theorem d3_196 : decode prog_6_method_5_code 196 = .ok (.if_icmp .ne 7, 3) := by decide +kernel
theorem d3_203 : decode prog_6_method_5_code 203 = .ok (.iconst 0, 1) := by decide +kernel
theorem d3_204 : decode prog_6_method_5_code 204 = .ok (.goto 146, 3) := by decide +kernel
def Q_con_BLANK (Z : State) (p1 : Int32) (w : Nat → Addr) (h0 : Heap) (n0 : Nat) (v : Option Value) (h : Heap) (L : List Loc) : Prop := v = some (.int (own_in (2 : Int32) p1)) ∧ Fr n0 L ∧ h = h0
set_option maxRecDepth 65536 in
set_option maxHeartbeats 40000000 in
theorem rm_con_BLANK (l : Launch) (Z : State) (a0 : Array Value) (hw : ∀ d ∈ tables_1, d.before a0 Z = true) (ws : List Jvm.Cond) (p1 : Int32) (w : Nat → Addr) (h0 : Heap) (n0 : Nat) (O0 : Old Z n0 h0) (W : own_World Z w) (hlo : ¬ (p1 < (0 : Int32))) (hhi : p1 < (256 : Int32)) :
    MetFree l mY4 (head1 (Jvm.Cond.code mY4 prog_6_method_5_code 6 (some .boolean) :: ws) ({ frames := 1, cells := 0, slots := 0, locals := 12 } : Room)) (fun a U => a = #[(.ref (w 9)), (.int p1)] ∧ Z.Warmed39 U.vm ∧ U.heap = h0) (fun _ _ _ _ _ => True) (fun _ U o U' => ∃ v L, o = .returned v ∧ Q_con_BLANK Z p1 w h0 n0 v U'.heap L ∧ FrameEnd U o U' L ({ frames := 1, cells := 0, slots := 0, locals := 12 } : Room).cells ({ frames := 1, cells := 0, slots := 0, locals := 12 } : Room).slots) := by
  refine MetFree.of_bodySF (plainFor_of_name pn_2) hisR ?_
  intro p e s m args below meth c s₁ Bd hml0 hP hK
  obtain ⟨rfl, hZ, hh⟩ := hP
  have hx := Bd.exec
  have hby := Bd.bytes
  have hml : c.maxLocals = 6 := hml0
  have hown : s.vm.findClass "com/example/lamassu/lamassu/builtin/CharClass" = some m.cls := findClass_of_methodNamed Bd.named
  have hnm := (name_of_methodNamed Bd.named Bd.method).1
  have X0 : Stand p l e ({ frames := 1, cells := 0, slots := 0, locals := 12 } : Room) s m #[(.ref (w 9)), (.int p1)] below meth c s₁ [] 0 0 := Stand.of_body Bd
  have e0 : s₁.heap = h0 := by rw [← hh, Bd.state]; rfl
  have N0 := Fr.nil n0
  show oG p e below s (Q_con_BLANK Z p1 w h0 n0) ({ frames := 1, cells := 0, slots := 0, locals := 12 } : Room).cells ({ frames := 1, cells := 0, slots := 0, locals := 12 } : Room).slots _
  refine oS (fun t k => castTop (ef_3_ri m (w 9) p1) k) ?_
  show oG _ _ _ _ _ _ _ (s₁.setTop (mkF m 0 #[.val (.ref (w 9)), .val (.int p1), .unset, .unset, .unset, .unset] []))
  suffices cut : oG p e below s (Q_con_BLANK Z p1 w h0 n0) ({ frames := 1, cells := 0, slots := 0, locals := 12 } : Room).cells ({ frames := 1, cells := 0, slots := 0, locals := 12 } : Room).slots (s₁.setTop (mkF m 18 #[.val (.ref (w 9)), .val (.int p1), .val (.int (own_lo p1)), .unset, .unset, .unset] [])) by
    refine oS (fun t k => XS.iloadN X0.here hx rfl (hb hby d3_0) rfl k) ?_
    refine oS (fun t k => oBp lb_97 X0.here hx rfl (hb hby d3_1) k) ?_
    by_cases hc3 : p1 < (97 : Int32)
    · refine oS (fun t k => XS.icmpYes X0.here hx rfl (pc0 := 3) (pc' := 16) rfl (hb hby d3_3) rfl (tlt hc3).1 (by decide) (by decide) k) ?_
      show oG _ _ _ _ _ _ _ (s₁.setTop (mkF m 16 #[.val (.ref (w 9)), .val (.int p1), .unset, .unset, .unset, .unset] []))
      refine oS (fun t k => oIc li_0 X0.here hx rfl (hb hby d3_16) k) ?_
      refine oS (fun t k => XS.istoreN X0.here hx rfl (hb hby d3_17) rfl (l' := #[.val (.ref (w 9)), .val (.int p1), .val (.int 0), .unset, .unset, .unset]) rfl k) ?_
      have ej0 : (own_lo p1) = (0 : Int32) := (by simp only [own_lo, if_pos hc3])
      rw [ej0] at cut
      exact cut
    · refine oS (fun t k => XS.icmpNo X0.here hx rfl (hb hby d3_3) rfl (flt hc3).1 k) ?_
      show oG _ _ _ _ _ _ _ (s₁.setTop (mkF m 6 #[.val (.ref (w 9)), .val (.int p1), .unset, .unset, .unset, .unset] []))
      refine oS (fun t k => XS.iloadN X0.here hx rfl (hb hby d3_6) rfl k) ?_
      refine oS (fun t k => oBp lb_122 X0.here hx rfl (hb hby d3_7) k) ?_
      by_cases hc9 : (122 : Int32) < p1
      · refine oS (fun t k => XS.icmpYes X0.here hx rfl (pc0 := 9) (pc' := 16) rfl (hb hby d3_9) rfl (tlt hc9).2.2.1 (by decide) (by decide) k) ?_
        show oG _ _ _ _ _ _ _ (s₁.setTop (mkF m 16 #[.val (.ref (w 9)), .val (.int p1), .unset, .unset, .unset, .unset] []))
        refine oS (fun t k => oIc li_0 X0.here hx rfl (hb hby d3_16) k) ?_
        refine oS (fun t k => XS.istoreN X0.here hx rfl (hb hby d3_17) rfl (l' := #[.val (.ref (w 9)), .val (.int p1), .val (.int 0), .unset, .unset, .unset]) rfl k) ?_
        have ej0 : (own_lo p1) = (0 : Int32) := (by simp only [own_lo, if_neg hc3, if_pos hc9])
        rw [ej0] at cut
        exact cut
      · refine oS (fun t k => XS.icmpNo X0.here hx rfl (hb hby d3_9) rfl (flt hc9).2.2.1 k) ?_
        show oG _ _ _ _ _ _ _ (s₁.setTop (mkF m 12 #[.val (.ref (w 9)), .val (.int p1), .unset, .unset, .unset, .unset] []))
        refine oS (fun t k => oIc li_1 X0.here hx rfl (hb hby d3_12) k) ?_
        refine oS (fun t k => XS.goto X0.here hx rfl (pc0 := 13) (pc' := 17) rfl (hb hby d3_13) (by decide) (by decide) k) ?_
        refine oS (fun t k => XS.istoreN X0.here hx rfl (hb hby d3_17) rfl (l' := #[.val (.ref (w 9)), .val (.int p1), .val (.int 1), .unset, .unset, .unset]) rfl k) ?_
        show oG _ _ _ _ _ _ _ (s₁.setTop (mkF m 18 #[.val (.ref (w 9)), .val (.int p1), .val (.int 1), .unset, .unset, .unset] []))
        have ej0 : (own_lo p1) = (1 : Int32) := (by simp only [own_lo, if_neg hc3, if_neg hc9])
        rw [ej0] at cut
        exact cut
  suffices cut : oG p e below s (Q_con_BLANK Z p1 w h0 n0) ({ frames := 1, cells := 0, slots := 0, locals := 12 } : Room).cells ({ frames := 1, cells := 0, slots := 0, locals := 12 } : Room).slots (s₁.setTop (mkF m 36 #[.val (.ref (w 9)), .val (.int p1), .val (.int (own_lo p1)), .val (.int (own_up p1)), .unset, .unset] [])) by
    refine oS (fun t k => XS.iloadN X0.here hx rfl (hb hby d3_18) rfl k) ?_
    refine oS (fun t k => oBp lb_65 X0.here hx rfl (hb hby d3_19) k) ?_
    by_cases hc21 : p1 < (65 : Int32)
    · refine oS (fun t k => XS.icmpYes X0.here hx rfl (pc0 := 21) (pc' := 34) rfl (hb hby d3_21) rfl (tlt hc21).1 (by decide) (by decide) k) ?_
      show oG _ _ _ _ _ _ _ (s₁.setTop (mkF m 34 #[.val (.ref (w 9)), .val (.int p1), .val (.int (own_lo p1)), .unset, .unset, .unset] []))
      refine oS (fun t k => oIc li_0 X0.here hx rfl (hb hby d3_34) k) ?_
      refine oS (fun t k => XS.istoreN X0.here hx rfl (hb hby d3_35) rfl (l' := #[.val (.ref (w 9)), .val (.int p1), .val (.int (own_lo p1)), .val (.int 0), .unset, .unset]) rfl k) ?_
      have ej0 : (own_up p1) = (0 : Int32) := (by simp only [own_up, if_pos hc21])
      rw [ej0] at cut
      exact cut
    · refine oS (fun t k => XS.icmpNo X0.here hx rfl (hb hby d3_21) rfl (flt hc21).1 k) ?_
      show oG _ _ _ _ _ _ _ (s₁.setTop (mkF m 24 #[.val (.ref (w 9)), .val (.int p1), .val (.int (own_lo p1)), .unset, .unset, .unset] []))
      refine oS (fun t k => XS.iloadN X0.here hx rfl (hb hby d3_24) rfl k) ?_
      refine oS (fun t k => oBp lb_90 X0.here hx rfl (hb hby d3_25) k) ?_
      by_cases hc27 : (90 : Int32) < p1
      · refine oS (fun t k => XS.icmpYes X0.here hx rfl (pc0 := 27) (pc' := 34) rfl (hb hby d3_27) rfl (tlt hc27).2.2.1 (by decide) (by decide) k) ?_
        show oG _ _ _ _ _ _ _ (s₁.setTop (mkF m 34 #[.val (.ref (w 9)), .val (.int p1), .val (.int (own_lo p1)), .unset, .unset, .unset] []))
        refine oS (fun t k => oIc li_0 X0.here hx rfl (hb hby d3_34) k) ?_
        refine oS (fun t k => XS.istoreN X0.here hx rfl (hb hby d3_35) rfl (l' := #[.val (.ref (w 9)), .val (.int p1), .val (.int (own_lo p1)), .val (.int 0), .unset, .unset]) rfl k) ?_
        have ej0 : (own_up p1) = (0 : Int32) := (by simp only [own_up, if_neg hc21, if_pos hc27])
        rw [ej0] at cut
        exact cut
      · refine oS (fun t k => XS.icmpNo X0.here hx rfl (hb hby d3_27) rfl (flt hc27).2.2.1 k) ?_
        show oG _ _ _ _ _ _ _ (s₁.setTop (mkF m 30 #[.val (.ref (w 9)), .val (.int p1), .val (.int (own_lo p1)), .unset, .unset, .unset] []))
        refine oS (fun t k => oIc li_1 X0.here hx rfl (hb hby d3_30) k) ?_
        refine oS (fun t k => XS.goto X0.here hx rfl (pc0 := 31) (pc' := 35) rfl (hb hby d3_31) (by decide) (by decide) k) ?_
        refine oS (fun t k => XS.istoreN X0.here hx rfl (hb hby d3_35) rfl (l' := #[.val (.ref (w 9)), .val (.int p1), .val (.int (own_lo p1)), .val (.int 1), .unset, .unset]) rfl k) ?_
        show oG _ _ _ _ _ _ _ (s₁.setTop (mkF m 36 #[.val (.ref (w 9)), .val (.int p1), .val (.int (own_lo p1)), .val (.int 1), .unset, .unset] []))
        have ej0 : (own_up p1) = (1 : Int32) := (by simp only [own_up, if_neg hc21, if_neg hc27])
        rw [ej0] at cut
        exact cut
  suffices cut : oG p e below s (Q_con_BLANK Z p1 w h0 n0) ({ frames := 1, cells := 0, slots := 0, locals := 12 } : Room).cells ({ frames := 1, cells := 0, slots := 0, locals := 12 } : Room).slots (s₁.setTop (mkF m 55 #[.val (.ref (w 9)), .val (.int p1), .val (.int (own_lo p1)), .val (.int (own_up p1)), .val (.int (own_dg p1)), .unset] [])) by
    refine oS (fun t k => XS.iloadN X0.here hx rfl (hb hby d3_36) rfl k) ?_
    refine oS (fun t k => oBp lb_48 X0.here hx rfl (hb hby d3_37) k) ?_
    by_cases hc39 : p1 < (48 : Int32)
    · refine oS (fun t k => XS.icmpYes X0.here hx rfl (pc0 := 39) (pc' := 52) rfl (hb hby d3_39) rfl (tlt hc39).1 (by decide) (by decide) k) ?_
      show oG _ _ _ _ _ _ _ (s₁.setTop (mkF m 52 #[.val (.ref (w 9)), .val (.int p1), .val (.int (own_lo p1)), .val (.int (own_up p1)), .unset, .unset] []))
      refine oS (fun t k => oIc li_0 X0.here hx rfl (hb hby d3_52) k) ?_
      refine oS (fun t k => XS.istore X0.here hx rfl (hb hby d3_53) rfl (l' := #[.val (.ref (w 9)), .val (.int p1), .val (.int (own_lo p1)), .val (.int (own_up p1)), .val (.int 0), .unset]) rfl k) ?_
      have ej0 : (own_dg p1) = (0 : Int32) := (by simp only [own_dg, if_pos hc39])
      rw [ej0] at cut
      exact cut
    · refine oS (fun t k => XS.icmpNo X0.here hx rfl (hb hby d3_39) rfl (flt hc39).1 k) ?_
      show oG _ _ _ _ _ _ _ (s₁.setTop (mkF m 42 #[.val (.ref (w 9)), .val (.int p1), .val (.int (own_lo p1)), .val (.int (own_up p1)), .unset, .unset] []))
      refine oS (fun t k => XS.iloadN X0.here hx rfl (hb hby d3_42) rfl k) ?_
      refine oS (fun t k => oBp lb_57 X0.here hx rfl (hb hby d3_43) k) ?_
      by_cases hc45 : (57 : Int32) < p1
      · refine oS (fun t k => XS.icmpYes X0.here hx rfl (pc0 := 45) (pc' := 52) rfl (hb hby d3_45) rfl (tlt hc45).2.2.1 (by decide) (by decide) k) ?_
        show oG _ _ _ _ _ _ _ (s₁.setTop (mkF m 52 #[.val (.ref (w 9)), .val (.int p1), .val (.int (own_lo p1)), .val (.int (own_up p1)), .unset, .unset] []))
        refine oS (fun t k => oIc li_0 X0.here hx rfl (hb hby d3_52) k) ?_
        refine oS (fun t k => XS.istore X0.here hx rfl (hb hby d3_53) rfl (l' := #[.val (.ref (w 9)), .val (.int p1), .val (.int (own_lo p1)), .val (.int (own_up p1)), .val (.int 0), .unset]) rfl k) ?_
        have ej0 : (own_dg p1) = (0 : Int32) := (by simp only [own_dg, if_neg hc39, if_pos hc45])
        rw [ej0] at cut
        exact cut
      · refine oS (fun t k => XS.icmpNo X0.here hx rfl (hb hby d3_45) rfl (flt hc45).2.2.1 k) ?_
        show oG _ _ _ _ _ _ _ (s₁.setTop (mkF m 48 #[.val (.ref (w 9)), .val (.int p1), .val (.int (own_lo p1)), .val (.int (own_up p1)), .unset, .unset] []))
        refine oS (fun t k => oIc li_1 X0.here hx rfl (hb hby d3_48) k) ?_
        refine oS (fun t k => XS.goto X0.here hx rfl (pc0 := 49) (pc' := 53) rfl (hb hby d3_49) (by decide) (by decide) k) ?_
        refine oS (fun t k => XS.istore X0.here hx rfl (hb hby d3_53) rfl (l' := #[.val (.ref (w 9)), .val (.int p1), .val (.int (own_lo p1)), .val (.int (own_up p1)), .val (.int 1), .unset]) rfl k) ?_
        show oG _ _ _ _ _ _ _ (s₁.setTop (mkF m 55 #[.val (.ref (w 9)), .val (.int p1), .val (.int (own_lo p1)), .val (.int (own_up p1)), .val (.int 1), .unset] []))
        have ej0 : (own_dg p1) = (1 : Int32) := (by simp only [own_dg, if_neg hc39, if_neg hc45])
        rw [ej0] at cut
        exact cut
  suffices cut : oG p e below s (Q_con_BLANK Z p1 w h0 n0) ({ frames := 1, cells := 0, slots := 0, locals := 12 } : Room).cells ({ frames := 1, cells := 0, slots := 0, locals := 12 } : Room).slots (s₁.setTop (mkF m 74 #[.val (.ref (w 9)), .val (.int p1), .val (.int (own_lo p1)), .val (.int (own_up p1)), .val (.int (own_dg p1)), .val (.int (own_gr p1))] [])) by
    refine oS (fun t k => XS.iloadN X0.here hx rfl (hb hby d3_55) rfl k) ?_
    refine oS (fun t k => oBp lb_32 X0.here hx rfl (hb hby d3_56) k) ?_
    by_cases hc58 : (32 : Int32) < p1
    · refine oS (fun t k => XS.icmpNo X0.here hx rfl (hb hby d3_58) rfl (tlt hc58).2.2.2 k) ?_
      show oG _ _ _ _ _ _ _ (s₁.setTop (mkF m 61 #[.val (.ref (w 9)), .val (.int p1), .val (.int (own_lo p1)), .val (.int (own_up p1)), .val (.int (own_dg p1)), .unset] []))
      refine oS (fun t k => XS.iloadN X0.here hx rfl (hb hby d3_61) rfl k) ?_
      refine oS (fun t k => oBp lb_127 X0.here hx rfl (hb hby d3_62) k) ?_
      by_cases hc64 : p1 < (127 : Int32)
      · refine oS (fun t k => XS.icmpNo X0.here hx rfl (hb hby d3_64) rfl (tlt hc64).2.1 k) ?_
        show oG _ _ _ _ _ _ _ (s₁.setTop (mkF m 67 #[.val (.ref (w 9)), .val (.int p1), .val (.int (own_lo p1)), .val (.int (own_up p1)), .val (.int (own_dg p1)), .unset] []))
        refine oS (fun t k => oIc li_1 X0.here hx rfl (hb hby d3_67) k) ?_
        refine oS (fun t k => XS.goto X0.here hx rfl (pc0 := 68) (pc' := 72) rfl (hb hby d3_68) (by decide) (by decide) k) ?_
        refine oS (fun t k => XS.istore X0.here hx rfl (hb hby d3_72) rfl (l' := #[.val (.ref (w 9)), .val (.int p1), .val (.int (own_lo p1)), .val (.int (own_up p1)), .val (.int (own_dg p1)), .val (.int 1)]) rfl k) ?_
        show oG _ _ _ _ _ _ _ (s₁.setTop (mkF m 74 #[.val (.ref (w 9)), .val (.int p1), .val (.int (own_lo p1)), .val (.int (own_up p1)), .val (.int (own_dg p1)), .val (.int 1)] []))
        have ej0 : (own_gr p1) = (1 : Int32) := (by simp only [own_gr, if_pos hc58, if_pos hc64])
        rw [ej0] at cut
        exact cut
      · refine oS (fun t k => XS.icmpYes X0.here hx rfl (pc0 := 64) (pc' := 71) rfl (hb hby d3_64) rfl (flt hc64).2.1 (by decide) (by decide) k) ?_
        show oG _ _ _ _ _ _ _ (s₁.setTop (mkF m 71 #[.val (.ref (w 9)), .val (.int p1), .val (.int (own_lo p1)), .val (.int (own_up p1)), .val (.int (own_dg p1)), .unset] []))
        refine oS (fun t k => oIc li_0 X0.here hx rfl (hb hby d3_71) k) ?_
        refine oS (fun t k => XS.istore X0.here hx rfl (hb hby d3_72) rfl (l' := #[.val (.ref (w 9)), .val (.int p1), .val (.int (own_lo p1)), .val (.int (own_up p1)), .val (.int (own_dg p1)), .val (.int 0)]) rfl k) ?_
        have ej0 : (own_gr p1) = (0 : Int32) := (by simp only [own_gr, if_pos hc58, if_neg hc64])
        rw [ej0] at cut
        exact cut
    · refine oS (fun t k => XS.icmpYes X0.here hx rfl (pc0 := 58) (pc' := 71) rfl (hb hby d3_58) rfl (flt hc58).2.2.2 (by decide) (by decide) k) ?_
      show oG _ _ _ _ _ _ _ (s₁.setTop (mkF m 71 #[.val (.ref (w 9)), .val (.int p1), .val (.int (own_lo p1)), .val (.int (own_up p1)), .val (.int (own_dg p1)), .unset] []))
      refine oS (fun t k => oIc li_0 X0.here hx rfl (hb hby d3_71) k) ?_
      refine oS (fun t k => XS.istore X0.here hx rfl (hb hby d3_72) rfl (l' := #[.val (.ref (w 9)), .val (.int p1), .val (.int (own_lo p1)), .val (.int (own_up p1)), .val (.int (own_dg p1)), .val (.int 0)]) rfl k) ?_
      have ej0 : (own_gr p1) = (0 : Int32) := (by simp only [own_gr, if_neg hc58])
      rw [ej0] at cut
      exact cut
  refine oS (fun t k => XS.aloadN X0.here hx rfl (hb hby d3_74) rfl rfl k) ?_
  obtain ⟨cq1, kq1, q1a, q1b, q1c⟩ := isOf hZ e0 ((wE9 W).ext O0.2)
  obtain ⟨_, _, ⟨T1, L1, k1, n1⟩, -, X1, ⟨Lc1, hQ1, l1, y1, z1⟩, st1⟩ := X0.virtualBackUp hx (x := mY3) (y := mY2) hown (mvT hZ (oW hw 16 rfl)) (mvT hZ (oW hw 17 rfl)) (mvT hZ (oW hw 18 rfl)) (by decide) (mvT hZ (oW hw 20 rfl)) (mvT hZ (oW hw 19 rfl)) (backOf (W := 0) (rm_ord_BLANK l Z a0 hw []  w h0 n0 O0 W ) hZ (oW hw 22 rfl) (oW hw 21 rfl) (by decide) (by decide)) q1a q1c (g := (mkF m 75 #[.val (.ref (w 9)), .val (.int p1), .val (.int (own_lo p1)), .val (.int (own_up p1)), .val (.int (own_dg p1)), .val (.int (own_gr p1))] [(.ref (w 9))])) rfl (by rw [hml]; rfl) (Steps.refl _) (argsL := []) (rest := []) (lenOf pd_0 rfl) rfl (by show 2 * 0 + _ ≤ _; exact Nat.le_of_eq rfl) (hb hby d3_75) (fun _ _ => ⟨rfl, e0, (by decide : 0 + 0 ≤ _), (by decide : 0 + 0 ≤ _)⟩)
  dsimp only [Pt.U, Pt.locs, Pt.cells, Pt.slots] at X1 l1 y1 z1 st1 hQ1
  subst l1 y1 z1
  obtain ⟨rfl, Nq1, e1⟩ := hQ1
  have N1 := Fr.app N0 Nq1
  refine oS (fun t k => st1.trans k) ?_
  show oG _ _ _ _ _ _ _ (T1.setTop (mkF m 78 #[.val (.ref (w 9)), .val (.int p1), .val (.int (own_lo p1)), .val (.int (own_up p1)), .val (.int (own_dg p1)), .val (.int (own_gr p1))] [(.int 2)]))
  try clear st1
  refine oS (fun t k => XS.tswIn X1.here hx rfl (pc0 := 78) (pc' := 187) rfl (hb hby d3_78) (i := (2 : Int32)) rfl (by decide) (o := 109) rfl (by decide) (by decide) k) ?_
  refine oS (fun t k => XS.iloadN X1.here hx rfl (hb hby d3_187) rfl k) ?_
  refine oS (fun t k => oBp lb_32 X1.here hx rfl (hb hby d3_188) k) ?_
  show oG _ _ _ _ _ _ _ (T1.setTop (mkF m 190 #[.val (.ref (w 9)), .val (.int p1), .val (.int (own_lo p1)), .val (.int (own_up p1)), .val (.int (own_dg p1)), .val (.int (own_gr p1))] [(.int 32), (.int p1)]))
  by_cases hc190 : p1 = (32 : Int32)
  · refine oS (fun t k => XS.icmpYes X1.here hx rfl (pc0 := 190) (pc' := 199) rfl (hb hby d3_190) rfl (teq hc190).1 (by decide) (by decide) k) ?_
    refine oS (fun t k => oIc li_1 X1.here hx rfl (hb hby d3_199) k) ?_
    refine oS (fun t k => XS.goto X1.here hx rfl (pc0 := 200) (pc' := 350) rfl (hb hby d3_200) (by decide) (by decide) k) ?_
    show oG _ _ _ _ _ _ _ (T1.setTop (mkF m 350 #[.val (.ref (w 9)), .val (.int p1), .val (.int (own_lo p1)), .val (.int (own_up p1)), .val (.int (own_dg p1)), .val (.int (own_gr p1))] [(.int 1)]))
    exact own_ret (v := some (.int 1)) X1 (fun h => by rw [Bd.returns] at h; cases h) Bd.notSynchronized (fun fs hr => retN X1 hx (t := .boolean) Bd.returns (by simp) (hb hby d3_350) hr) (by rw [e1]; exact ⟨(congrArg (fun z => some (Value.int z)) (own_all (P := fun c => (c = (32 : Int32)) → (1 : Int32) = (own_in (2 : Int32) c)) p1 hlo hhi (by decide +kernel) hc190)), N1, rfl⟩) (by decide) (by decide)
  · refine oS (fun t k => XS.icmpNo X1.here hx rfl (hb hby d3_190) rfl (feq hc190).1 k) ?_
    refine oS (fun t k => XS.iloadN X1.here hx rfl (hb hby d3_193) rfl k) ?_
    refine oS (fun t k => oBp lb_9 X1.here hx rfl (hb hby d3_194) k) ?_
    show oG _ _ _ _ _ _ _ (T1.setTop (mkF m 196 #[.val (.ref (w 9)), .val (.int p1), .val (.int (own_lo p1)), .val (.int (own_up p1)), .val (.int (own_dg p1)), .val (.int (own_gr p1))] [(.int 9), (.int p1)]))
    by_cases hc196 : p1 = (9 : Int32)
    · refine oS (fun t k => XS.icmpNo X1.here hx rfl (hb hby d3_196) rfl (teq hc196).2 k) ?_
      refine oS (fun t k => oIc li_1 X1.here hx rfl (hb hby d3_199) k) ?_
      refine oS (fun t k => XS.goto X1.here hx rfl (pc0 := 200) (pc' := 350) rfl (hb hby d3_200) (by decide) (by decide) k) ?_
      show oG _ _ _ _ _ _ _ (T1.setTop (mkF m 350 #[.val (.ref (w 9)), .val (.int p1), .val (.int (own_lo p1)), .val (.int (own_up p1)), .val (.int (own_dg p1)), .val (.int (own_gr p1))] [(.int 1)]))
      exact own_ret (v := some (.int 1)) X1 (fun h => by rw [Bd.returns] at h; cases h) Bd.notSynchronized (fun fs hr => retN X1 hx (t := .boolean) Bd.returns (by simp) (hb hby d3_350) hr) (by rw [e1]; exact ⟨(congrArg (fun z => some (Value.int z)) (own_all (P := fun c => ¬ (c = (32 : Int32)) → (c = (9 : Int32)) → (1 : Int32) = (own_in (2 : Int32) c)) p1 hlo hhi (by decide +kernel) hc190 hc196)), N1, rfl⟩) (by decide) (by decide)
    · refine oS (fun t k => XS.icmpYes X1.here hx rfl (pc0 := 196) (pc' := 203) rfl (hb hby d3_196) rfl (feq hc196).2 (by decide) (by decide) k) ?_
      refine oS (fun t k => oIc li_0 X1.here hx rfl (hb hby d3_203) k) ?_
      refine oS (fun t k => XS.goto X1.here hx rfl (pc0 := 204) (pc' := 350) rfl (hb hby d3_204) (by decide) (by decide) k) ?_
      show oG _ _ _ _ _ _ _ (T1.setTop (mkF m 350 #[.val (.ref (w 9)), .val (.int p1), .val (.int (own_lo p1)), .val (.int (own_up p1)), .val (.int (own_dg p1)), .val (.int (own_gr p1))] [(.int 0)]))
      exact own_ret (v := some (.int 0)) X1 (fun h => by rw [Bd.returns] at h; cases h) Bd.notSynchronized (fun fs hr => retN X1 hx (t := .boolean) Bd.returns (by simp) (hb hby d3_350) hr) (by rw [e1]; exact ⟨(congrArg (fun z => some (Value.int z)) (own_all (P := fun c => ¬ (c = (32 : Int32)) → ¬ (c = (9 : Int32)) → (0 : Int32) = (own_in (2 : Int32) c)) p1 hlo hhi (by decide +kernel) hc190 hc196)), N1, rfl⟩) (by decide) (by decide)
def Q_ord_CNTRL (Z : State)  (w : Nat → Addr) (h0 : Heap) (n0 : Nat) (v : Option Value) (h : Heap) (L : List Loc) : Prop := v = some (.int 3) ∧ Fr n0 L ∧ h = h0
set_option maxRecDepth 65536 in
set_option maxHeartbeats 40000000 in
theorem rm_ord_CNTRL (l : Launch) (Z : State) (a0 : Array Value) (hw : ∀ d ∈ tables_1, d.before a0 Z = true) (ws : List Jvm.Cond)  (w : Nat → Addr) (h0 : Heap) (n0 : Nat) (O0 : Old Z n0 h0) (W : own_World Z w) :
    MetFree l mY2 (head1 (Jvm.Cond.code mY2 jdk_37_method_2_code 1 (some .int) :: ws) ({ frames := 0, cells := 0, slots := 0, locals := 0 } : Room)) (fun a U => a = #[(.ref (w 0))] ∧ Z.Warmed39 U.vm ∧ U.heap = h0) (fun _ _ _ _ _ => True) (fun _ U o U' => ∃ v L, o = .returned v ∧ Q_ord_CNTRL Z  w h0 n0 v U'.heap L ∧ FrameEnd U o U' L ({ frames := 0, cells := 0, slots := 0, locals := 0 } : Room).cells ({ frames := 0, cells := 0, slots := 0, locals := 0 } : Room).slots) := by
  refine MetFree.of_bodySF (plainFor_of_name pn_1) hisR ?_
  intro p e s m args below meth c s₁ Bd hml0 hP hK
  obtain ⟨rfl, hZ, hh⟩ := hP
  have hx := Bd.exec
  have hby := Bd.bytes
  have hml : c.maxLocals = 1 := hml0
  have hown : s.vm.findClass "java/lang/Enum" = some m.cls := findClass_of_methodNamed Bd.named
  have hnm := (name_of_methodNamed Bd.named Bd.method).1
  have X0 : Stand p l e ({ frames := 0, cells := 0, slots := 0, locals := 0 } : Room) s m #[(.ref (w 0))] below meth c s₁ [] 0 0 := Stand.of_body Bd
  have e0 : s₁.heap = h0 := by rw [← hh, Bd.state]; rfl
  have N0 := Fr.nil n0
  show oG p e below s (Q_ord_CNTRL Z  w h0 n0) ({ frames := 0, cells := 0, slots := 0, locals := 0 } : Room).cells ({ frames := 0, cells := 0, slots := 0, locals := 0 } : Room).slots _
  refine oS (fun t k => castTop (ef_4_r m (w 0)) k) ?_
  show oG _ _ _ _ _ _ _ (s₁.setTop (mkF m 0 #[.val (.ref (w 0))] []))
  refine oS (fun t k => XS.aloadN X0.here hx rfl (hb hby d4_0) rfl rfl k) ?_
  obtain ⟨T1, X1, e1, st1⟩ := getF X0 hx hZ hown (host := "") (Or.inl (oW hw 23 rfl)) Via.refl e0 ((wF0_ordinal W).ext O0.2) (g := (mkF m 1 #[.val (.ref (w 0))] [(.ref (w 0))])) rfl rfl (hb hby d4_1)
  refine oS (fun t k => st1 t k) ?_
  try clear st1
  exact own_ret (v := some (.int 3)) X1 (fun h => by rw [Bd.returns] at h; cases h) Bd.notSynchronized (fun fs hr => retOut X1 hx (t := .int) Bd.returns rfl (Or.inl ⟨rfl, Or.inl rfl, _, rfl⟩) (hb hby d4_4) hr) (by rw [e1]; exact ⟨rfl, N0, rfl⟩) (by decide) (by decide)
theorem d3_207 : decode prog_6_method_5_code 207 = .ok (.iload_n 1, 1) := by decide +kernel
theorem d3_208 : decode prog_6_method_5_code 208 = .ok (.bipush 32, 2) := by decide +kernel
theorem d3_210 : decode prog_6_method_5_code 210 = .ok (.if_icmp .lt 9, 3) := by decide +kernel
theorem d3_219 : decode prog_6_method_5_code 219 = .ok (.iconst 1, 1) := by decide +kernel
theorem d3_220 : decode prog_6_method_5_code 220 = .ok (.goto 130, 3) := by decide +kernel
theorem d3_213 : decode prog_6_method_5_code 213 = .ok (.iload_n 1, 1) := by decide +kernel
theorem d3_214 : decode prog_6_method_5_code 214 = .ok (.bipush 127, 2) := by decide +kernel
theorem d3_216 : decode prog_6_method_5_code 216 = .ok (.if_icmp .ne 7, 3) := by decide +kernel
theorem d3_223 : decode prog_6_method_5_code 223 = .ok (.iconst 0, 1) := by decide +kernel
theorem d3_224 : decode prog_6_method_5_code 224 = .ok (.goto 126, 3) := by decide +kernel
def Q_con_CNTRL (Z : State) (p1 : Int32) (w : Nat → Addr) (h0 : Heap) (n0 : Nat) (v : Option Value) (h : Heap) (L : List Loc) : Prop := v = some (.int (own_in (3 : Int32) p1)) ∧ Fr n0 L ∧ h = h0
set_option maxRecDepth 65536 in
set_option maxHeartbeats 40000000 in
theorem rm_con_CNTRL (l : Launch) (Z : State) (a0 : Array Value) (hw : ∀ d ∈ tables_1, d.before a0 Z = true) (ws : List Jvm.Cond) (p1 : Int32) (w : Nat → Addr) (h0 : Heap) (n0 : Nat) (O0 : Old Z n0 h0) (W : own_World Z w) (hlo : ¬ (p1 < (0 : Int32))) (hhi : p1 < (256 : Int32)) :
    MetFree l mY4 (head1 (Jvm.Cond.code mY4 prog_6_method_5_code 6 (some .boolean) :: ws) ({ frames := 1, cells := 0, slots := 0, locals := 12 } : Room)) (fun a U => a = #[(.ref (w 0)), (.int p1)] ∧ Z.Warmed39 U.vm ∧ U.heap = h0) (fun _ _ _ _ _ => True) (fun _ U o U' => ∃ v L, o = .returned v ∧ Q_con_CNTRL Z p1 w h0 n0 v U'.heap L ∧ FrameEnd U o U' L ({ frames := 1, cells := 0, slots := 0, locals := 12 } : Room).cells ({ frames := 1, cells := 0, slots := 0, locals := 12 } : Room).slots) := by
  refine MetFree.of_bodySF (plainFor_of_name pn_2) hisR ?_
  intro p e s m args below meth c s₁ Bd hml0 hP hK
  obtain ⟨rfl, hZ, hh⟩ := hP
  have hx := Bd.exec
  have hby := Bd.bytes
  have hml : c.maxLocals = 6 := hml0
  have hown : s.vm.findClass "com/example/lamassu/lamassu/builtin/CharClass" = some m.cls := findClass_of_methodNamed Bd.named
  have hnm := (name_of_methodNamed Bd.named Bd.method).1
  have X0 : Stand p l e ({ frames := 1, cells := 0, slots := 0, locals := 12 } : Room) s m #[(.ref (w 0)), (.int p1)] below meth c s₁ [] 0 0 := Stand.of_body Bd
  have e0 : s₁.heap = h0 := by rw [← hh, Bd.state]; rfl
  have N0 := Fr.nil n0
  show oG p e below s (Q_con_CNTRL Z p1 w h0 n0) ({ frames := 1, cells := 0, slots := 0, locals := 12 } : Room).cells ({ frames := 1, cells := 0, slots := 0, locals := 12 } : Room).slots _
  refine oS (fun t k => castTop (ef_3_ri m (w 0) p1) k) ?_
  show oG _ _ _ _ _ _ _ (s₁.setTop (mkF m 0 #[.val (.ref (w 0)), .val (.int p1), .unset, .unset, .unset, .unset] []))
  suffices cut : oG p e below s (Q_con_CNTRL Z p1 w h0 n0) ({ frames := 1, cells := 0, slots := 0, locals := 12 } : Room).cells ({ frames := 1, cells := 0, slots := 0, locals := 12 } : Room).slots (s₁.setTop (mkF m 18 #[.val (.ref (w 0)), .val (.int p1), .val (.int (own_lo p1)), .unset, .unset, .unset] [])) by
    refine oS (fun t k => XS.iloadN X0.here hx rfl (hb hby d3_0) rfl k) ?_
    refine oS (fun t k => oBp lb_97 X0.here hx rfl (hb hby d3_1) k) ?_
    by_cases hc3 : p1 < (97 : Int32)
    · refine oS (fun t k => XS.icmpYes X0.here hx rfl (pc0 := 3) (pc' := 16) rfl (hb hby d3_3) rfl (tlt hc3).1 (by decide) (by decide) k) ?_
      show oG _ _ _ _ _ _ _ (s₁.setTop (mkF m 16 #[.val (.ref (w 0)), .val (.int p1), .unset, .unset, .unset, .unset] []))
      refine oS (fun t k => oIc li_0 X0.here hx rfl (hb hby d3_16) k) ?_
      refine oS (fun t k => XS.istoreN X0.here hx rfl (hb hby d3_17) rfl (l' := #[.val (.ref (w 0)), .val (.int p1), .val (.int 0), .unset, .unset, .unset]) rfl k) ?_
      have ej0 : (own_lo p1) = (0 : Int32) := (by simp only [own_lo, if_pos hc3])
      rw [ej0] at cut
      exact cut
    · refine oS (fun t k => XS.icmpNo X0.here hx rfl (hb hby d3_3) rfl (flt hc3).1 k) ?_
      show oG _ _ _ _ _ _ _ (s₁.setTop (mkF m 6 #[.val (.ref (w 0)), .val (.int p1), .unset, .unset, .unset, .unset] []))
      refine oS (fun t k => XS.iloadN X0.here hx rfl (hb hby d3_6) rfl k) ?_
      refine oS (fun t k => oBp lb_122 X0.here hx rfl (hb hby d3_7) k) ?_
      by_cases hc9 : (122 : Int32) < p1
      · refine oS (fun t k => XS.icmpYes X0.here hx rfl (pc0 := 9) (pc' := 16) rfl (hb hby d3_9) rfl (tlt hc9).2.2.1 (by decide) (by decide) k) ?_
        show oG _ _ _ _ _ _ _ (s₁.setTop (mkF m 16 #[.val (.ref (w 0)), .val (.int p1), .unset, .unset, .unset, .unset] []))
        refine oS (fun t k => oIc li_0 X0.here hx rfl (hb hby d3_16) k) ?_
        refine oS (fun t k => XS.istoreN X0.here hx rfl (hb hby d3_17) rfl (l' := #[.val (.ref (w 0)), .val (.int p1), .val (.int 0), .unset, .unset, .unset]) rfl k) ?_
        have ej0 : (own_lo p1) = (0 : Int32) := (by simp only [own_lo, if_neg hc3, if_pos hc9])
        rw [ej0] at cut
        exact cut
      · refine oS (fun t k => XS.icmpNo X0.here hx rfl (hb hby d3_9) rfl (flt hc9).2.2.1 k) ?_
        show oG _ _ _ _ _ _ _ (s₁.setTop (mkF m 12 #[.val (.ref (w 0)), .val (.int p1), .unset, .unset, .unset, .unset] []))
        refine oS (fun t k => oIc li_1 X0.here hx rfl (hb hby d3_12) k) ?_
        refine oS (fun t k => XS.goto X0.here hx rfl (pc0 := 13) (pc' := 17) rfl (hb hby d3_13) (by decide) (by decide) k) ?_
        refine oS (fun t k => XS.istoreN X0.here hx rfl (hb hby d3_17) rfl (l' := #[.val (.ref (w 0)), .val (.int p1), .val (.int 1), .unset, .unset, .unset]) rfl k) ?_
        show oG _ _ _ _ _ _ _ (s₁.setTop (mkF m 18 #[.val (.ref (w 0)), .val (.int p1), .val (.int 1), .unset, .unset, .unset] []))
        have ej0 : (own_lo p1) = (1 : Int32) := (by simp only [own_lo, if_neg hc3, if_neg hc9])
        rw [ej0] at cut
        exact cut
  suffices cut : oG p e below s (Q_con_CNTRL Z p1 w h0 n0) ({ frames := 1, cells := 0, slots := 0, locals := 12 } : Room).cells ({ frames := 1, cells := 0, slots := 0, locals := 12 } : Room).slots (s₁.setTop (mkF m 36 #[.val (.ref (w 0)), .val (.int p1), .val (.int (own_lo p1)), .val (.int (own_up p1)), .unset, .unset] [])) by
    refine oS (fun t k => XS.iloadN X0.here hx rfl (hb hby d3_18) rfl k) ?_
    refine oS (fun t k => oBp lb_65 X0.here hx rfl (hb hby d3_19) k) ?_
    by_cases hc21 : p1 < (65 : Int32)
    · refine oS (fun t k => XS.icmpYes X0.here hx rfl (pc0 := 21) (pc' := 34) rfl (hb hby d3_21) rfl (tlt hc21).1 (by decide) (by decide) k) ?_
      show oG _ _ _ _ _ _ _ (s₁.setTop (mkF m 34 #[.val (.ref (w 0)), .val (.int p1), .val (.int (own_lo p1)), .unset, .unset, .unset] []))
      refine oS (fun t k => oIc li_0 X0.here hx rfl (hb hby d3_34) k) ?_
      refine oS (fun t k => XS.istoreN X0.here hx rfl (hb hby d3_35) rfl (l' := #[.val (.ref (w 0)), .val (.int p1), .val (.int (own_lo p1)), .val (.int 0), .unset, .unset]) rfl k) ?_
      have ej0 : (own_up p1) = (0 : Int32) := (by simp only [own_up, if_pos hc21])
      rw [ej0] at cut
      exact cut
    · refine oS (fun t k => XS.icmpNo X0.here hx rfl (hb hby d3_21) rfl (flt hc21).1 k) ?_
      show oG _ _ _ _ _ _ _ (s₁.setTop (mkF m 24 #[.val (.ref (w 0)), .val (.int p1), .val (.int (own_lo p1)), .unset, .unset, .unset] []))
      refine oS (fun t k => XS.iloadN X0.here hx rfl (hb hby d3_24) rfl k) ?_
      refine oS (fun t k => oBp lb_90 X0.here hx rfl (hb hby d3_25) k) ?_
      by_cases hc27 : (90 : Int32) < p1
      · refine oS (fun t k => XS.icmpYes X0.here hx rfl (pc0 := 27) (pc' := 34) rfl (hb hby d3_27) rfl (tlt hc27).2.2.1 (by decide) (by decide) k) ?_
        show oG _ _ _ _ _ _ _ (s₁.setTop (mkF m 34 #[.val (.ref (w 0)), .val (.int p1), .val (.int (own_lo p1)), .unset, .unset, .unset] []))
        refine oS (fun t k => oIc li_0 X0.here hx rfl (hb hby d3_34) k) ?_
        refine oS (fun t k => XS.istoreN X0.here hx rfl (hb hby d3_35) rfl (l' := #[.val (.ref (w 0)), .val (.int p1), .val (.int (own_lo p1)), .val (.int 0), .unset, .unset]) rfl k) ?_
        have ej0 : (own_up p1) = (0 : Int32) := (by simp only [own_up, if_neg hc21, if_pos hc27])
        rw [ej0] at cut
        exact cut
      · refine oS (fun t k => XS.icmpNo X0.here hx rfl (hb hby d3_27) rfl (flt hc27).2.2.1 k) ?_
        show oG _ _ _ _ _ _ _ (s₁.setTop (mkF m 30 #[.val (.ref (w 0)), .val (.int p1), .val (.int (own_lo p1)), .unset, .unset, .unset] []))
        refine oS (fun t k => oIc li_1 X0.here hx rfl (hb hby d3_30) k) ?_
        refine oS (fun t k => XS.goto X0.here hx rfl (pc0 := 31) (pc' := 35) rfl (hb hby d3_31) (by decide) (by decide) k) ?_
        refine oS (fun t k => XS.istoreN X0.here hx rfl (hb hby d3_35) rfl (l' := #[.val (.ref (w 0)), .val (.int p1), .val (.int (own_lo p1)), .val (.int 1), .unset, .unset]) rfl k) ?_
        show oG _ _ _ _ _ _ _ (s₁.setTop (mkF m 36 #[.val (.ref (w 0)), .val (.int p1), .val (.int (own_lo p1)), .val (.int 1), .unset, .unset] []))
        have ej0 : (own_up p1) = (1 : Int32) := (by simp only [own_up, if_neg hc21, if_neg hc27])
        rw [ej0] at cut
        exact cut
  suffices cut : oG p e below s (Q_con_CNTRL Z p1 w h0 n0) ({ frames := 1, cells := 0, slots := 0, locals := 12 } : Room).cells ({ frames := 1, cells := 0, slots := 0, locals := 12 } : Room).slots (s₁.setTop (mkF m 55 #[.val (.ref (w 0)), .val (.int p1), .val (.int (own_lo p1)), .val (.int (own_up p1)), .val (.int (own_dg p1)), .unset] [])) by
    refine oS (fun t k => XS.iloadN X0.here hx rfl (hb hby d3_36) rfl k) ?_
    refine oS (fun t k => oBp lb_48 X0.here hx rfl (hb hby d3_37) k) ?_
    by_cases hc39 : p1 < (48 : Int32)
    · refine oS (fun t k => XS.icmpYes X0.here hx rfl (pc0 := 39) (pc' := 52) rfl (hb hby d3_39) rfl (tlt hc39).1 (by decide) (by decide) k) ?_
      show oG _ _ _ _ _ _ _ (s₁.setTop (mkF m 52 #[.val (.ref (w 0)), .val (.int p1), .val (.int (own_lo p1)), .val (.int (own_up p1)), .unset, .unset] []))
      refine oS (fun t k => oIc li_0 X0.here hx rfl (hb hby d3_52) k) ?_
      refine oS (fun t k => XS.istore X0.here hx rfl (hb hby d3_53) rfl (l' := #[.val (.ref (w 0)), .val (.int p1), .val (.int (own_lo p1)), .val (.int (own_up p1)), .val (.int 0), .unset]) rfl k) ?_
      have ej0 : (own_dg p1) = (0 : Int32) := (by simp only [own_dg, if_pos hc39])
      rw [ej0] at cut
      exact cut
    · refine oS (fun t k => XS.icmpNo X0.here hx rfl (hb hby d3_39) rfl (flt hc39).1 k) ?_
      show oG _ _ _ _ _ _ _ (s₁.setTop (mkF m 42 #[.val (.ref (w 0)), .val (.int p1), .val (.int (own_lo p1)), .val (.int (own_up p1)), .unset, .unset] []))
      refine oS (fun t k => XS.iloadN X0.here hx rfl (hb hby d3_42) rfl k) ?_
      refine oS (fun t k => oBp lb_57 X0.here hx rfl (hb hby d3_43) k) ?_
      by_cases hc45 : (57 : Int32) < p1
      · refine oS (fun t k => XS.icmpYes X0.here hx rfl (pc0 := 45) (pc' := 52) rfl (hb hby d3_45) rfl (tlt hc45).2.2.1 (by decide) (by decide) k) ?_
        show oG _ _ _ _ _ _ _ (s₁.setTop (mkF m 52 #[.val (.ref (w 0)), .val (.int p1), .val (.int (own_lo p1)), .val (.int (own_up p1)), .unset, .unset] []))
        refine oS (fun t k => oIc li_0 X0.here hx rfl (hb hby d3_52) k) ?_
        refine oS (fun t k => XS.istore X0.here hx rfl (hb hby d3_53) rfl (l' := #[.val (.ref (w 0)), .val (.int p1), .val (.int (own_lo p1)), .val (.int (own_up p1)), .val (.int 0), .unset]) rfl k) ?_
        have ej0 : (own_dg p1) = (0 : Int32) := (by simp only [own_dg, if_neg hc39, if_pos hc45])
        rw [ej0] at cut
        exact cut
      · refine oS (fun t k => XS.icmpNo X0.here hx rfl (hb hby d3_45) rfl (flt hc45).2.2.1 k) ?_
        show oG _ _ _ _ _ _ _ (s₁.setTop (mkF m 48 #[.val (.ref (w 0)), .val (.int p1), .val (.int (own_lo p1)), .val (.int (own_up p1)), .unset, .unset] []))
        refine oS (fun t k => oIc li_1 X0.here hx rfl (hb hby d3_48) k) ?_
        refine oS (fun t k => XS.goto X0.here hx rfl (pc0 := 49) (pc' := 53) rfl (hb hby d3_49) (by decide) (by decide) k) ?_
        refine oS (fun t k => XS.istore X0.here hx rfl (hb hby d3_53) rfl (l' := #[.val (.ref (w 0)), .val (.int p1), .val (.int (own_lo p1)), .val (.int (own_up p1)), .val (.int 1), .unset]) rfl k) ?_
        show oG _ _ _ _ _ _ _ (s₁.setTop (mkF m 55 #[.val (.ref (w 0)), .val (.int p1), .val (.int (own_lo p1)), .val (.int (own_up p1)), .val (.int 1), .unset] []))
        have ej0 : (own_dg p1) = (1 : Int32) := (by simp only [own_dg, if_neg hc39, if_neg hc45])
        rw [ej0] at cut
        exact cut
  suffices cut : oG p e below s (Q_con_CNTRL Z p1 w h0 n0) ({ frames := 1, cells := 0, slots := 0, locals := 12 } : Room).cells ({ frames := 1, cells := 0, slots := 0, locals := 12 } : Room).slots (s₁.setTop (mkF m 74 #[.val (.ref (w 0)), .val (.int p1), .val (.int (own_lo p1)), .val (.int (own_up p1)), .val (.int (own_dg p1)), .val (.int (own_gr p1))] [])) by
    refine oS (fun t k => XS.iloadN X0.here hx rfl (hb hby d3_55) rfl k) ?_
    refine oS (fun t k => oBp lb_32 X0.here hx rfl (hb hby d3_56) k) ?_
    by_cases hc58 : (32 : Int32) < p1
    · refine oS (fun t k => XS.icmpNo X0.here hx rfl (hb hby d3_58) rfl (tlt hc58).2.2.2 k) ?_
      show oG _ _ _ _ _ _ _ (s₁.setTop (mkF m 61 #[.val (.ref (w 0)), .val (.int p1), .val (.int (own_lo p1)), .val (.int (own_up p1)), .val (.int (own_dg p1)), .unset] []))
      refine oS (fun t k => XS.iloadN X0.here hx rfl (hb hby d3_61) rfl k) ?_
      refine oS (fun t k => oBp lb_127 X0.here hx rfl (hb hby d3_62) k) ?_
      by_cases hc64 : p1 < (127 : Int32)
      · refine oS (fun t k => XS.icmpNo X0.here hx rfl (hb hby d3_64) rfl (tlt hc64).2.1 k) ?_
        show oG _ _ _ _ _ _ _ (s₁.setTop (mkF m 67 #[.val (.ref (w 0)), .val (.int p1), .val (.int (own_lo p1)), .val (.int (own_up p1)), .val (.int (own_dg p1)), .unset] []))
        refine oS (fun t k => oIc li_1 X0.here hx rfl (hb hby d3_67) k) ?_
        refine oS (fun t k => XS.goto X0.here hx rfl (pc0 := 68) (pc' := 72) rfl (hb hby d3_68) (by decide) (by decide) k) ?_
        refine oS (fun t k => XS.istore X0.here hx rfl (hb hby d3_72) rfl (l' := #[.val (.ref (w 0)), .val (.int p1), .val (.int (own_lo p1)), .val (.int (own_up p1)), .val (.int (own_dg p1)), .val (.int 1)]) rfl k) ?_
        show oG _ _ _ _ _ _ _ (s₁.setTop (mkF m 74 #[.val (.ref (w 0)), .val (.int p1), .val (.int (own_lo p1)), .val (.int (own_up p1)), .val (.int (own_dg p1)), .val (.int 1)] []))
        have ej0 : (own_gr p1) = (1 : Int32) := (by simp only [own_gr, if_pos hc58, if_pos hc64])
        rw [ej0] at cut
        exact cut
      · refine oS (fun t k => XS.icmpYes X0.here hx rfl (pc0 := 64) (pc' := 71) rfl (hb hby d3_64) rfl (flt hc64).2.1 (by decide) (by decide) k) ?_
        show oG _ _ _ _ _ _ _ (s₁.setTop (mkF m 71 #[.val (.ref (w 0)), .val (.int p1), .val (.int (own_lo p1)), .val (.int (own_up p1)), .val (.int (own_dg p1)), .unset] []))
        refine oS (fun t k => oIc li_0 X0.here hx rfl (hb hby d3_71) k) ?_
        refine oS (fun t k => XS.istore X0.here hx rfl (hb hby d3_72) rfl (l' := #[.val (.ref (w 0)), .val (.int p1), .val (.int (own_lo p1)), .val (.int (own_up p1)), .val (.int (own_dg p1)), .val (.int 0)]) rfl k) ?_
        have ej0 : (own_gr p1) = (0 : Int32) := (by simp only [own_gr, if_pos hc58, if_neg hc64])
        rw [ej0] at cut
        exact cut
    · refine oS (fun t k => XS.icmpYes X0.here hx rfl (pc0 := 58) (pc' := 71) rfl (hb hby d3_58) rfl (flt hc58).2.2.2 (by decide) (by decide) k) ?_
      show oG _ _ _ _ _ _ _ (s₁.setTop (mkF m 71 #[.val (.ref (w 0)), .val (.int p1), .val (.int (own_lo p1)), .val (.int (own_up p1)), .val (.int (own_dg p1)), .unset] []))
      refine oS (fun t k => oIc li_0 X0.here hx rfl (hb hby d3_71) k) ?_
      refine oS (fun t k => XS.istore X0.here hx rfl (hb hby d3_72) rfl (l' := #[.val (.ref (w 0)), .val (.int p1), .val (.int (own_lo p1)), .val (.int (own_up p1)), .val (.int (own_dg p1)), .val (.int 0)]) rfl k) ?_
      have ej0 : (own_gr p1) = (0 : Int32) := (by simp only [own_gr, if_neg hc58])
      rw [ej0] at cut
      exact cut
  refine oS (fun t k => XS.aloadN X0.here hx rfl (hb hby d3_74) rfl rfl k) ?_
  obtain ⟨cq1, kq1, q1a, q1b, q1c⟩ := isOf hZ e0 ((wE0 W).ext O0.2)
  obtain ⟨_, _, ⟨T1, L1, k1, n1⟩, -, X1, ⟨Lc1, hQ1, l1, y1, z1⟩, st1⟩ := X0.virtualBackUp hx (x := mY3) (y := mY2) hown (mvT hZ (oW hw 16 rfl)) (mvT hZ (oW hw 17 rfl)) (mvT hZ (oW hw 18 rfl)) (by decide) (mvT hZ (oW hw 20 rfl)) (mvT hZ (oW hw 19 rfl)) (backOf (W := 0) (rm_ord_CNTRL l Z a0 hw []  w h0 n0 O0 W ) hZ (oW hw 22 rfl) (oW hw 21 rfl) (by decide) (by decide)) q1a q1c (g := (mkF m 75 #[.val (.ref (w 0)), .val (.int p1), .val (.int (own_lo p1)), .val (.int (own_up p1)), .val (.int (own_dg p1)), .val (.int (own_gr p1))] [(.ref (w 0))])) rfl (by rw [hml]; rfl) (Steps.refl _) (argsL := []) (rest := []) (lenOf pd_0 rfl) rfl (by show 2 * 0 + _ ≤ _; exact Nat.le_of_eq rfl) (hb hby d3_75) (fun _ _ => ⟨rfl, e0, (by decide : 0 + 0 ≤ _), (by decide : 0 + 0 ≤ _)⟩)
  dsimp only [Pt.U, Pt.locs, Pt.cells, Pt.slots] at X1 l1 y1 z1 st1 hQ1
  subst l1 y1 z1
  obtain ⟨rfl, Nq1, e1⟩ := hQ1
  have N1 := Fr.app N0 Nq1
  refine oS (fun t k => st1.trans k) ?_
  show oG _ _ _ _ _ _ _ (T1.setTop (mkF m 78 #[.val (.ref (w 0)), .val (.int p1), .val (.int (own_lo p1)), .val (.int (own_up p1)), .val (.int (own_dg p1)), .val (.int (own_gr p1))] [(.int 3)]))
  try clear st1
  refine oS (fun t k => XS.tswIn X1.here hx rfl (pc0 := 78) (pc' := 207) rfl (hb hby d3_78) (i := (3 : Int32)) rfl (by decide) (o := 129) rfl (by decide) (by decide) k) ?_
  refine oS (fun t k => XS.iloadN X1.here hx rfl (hb hby d3_207) rfl k) ?_
  refine oS (fun t k => oBp lb_32 X1.here hx rfl (hb hby d3_208) k) ?_
  show oG _ _ _ _ _ _ _ (T1.setTop (mkF m 210 #[.val (.ref (w 0)), .val (.int p1), .val (.int (own_lo p1)), .val (.int (own_up p1)), .val (.int (own_dg p1)), .val (.int (own_gr p1))] [(.int 32), (.int p1)]))
  by_cases hc210 : p1 < (32 : Int32)
  · refine oS (fun t k => XS.icmpYes X1.here hx rfl (pc0 := 210) (pc' := 219) rfl (hb hby d3_210) rfl (tlt hc210).1 (by decide) (by decide) k) ?_
    refine oS (fun t k => oIc li_1 X1.here hx rfl (hb hby d3_219) k) ?_
    refine oS (fun t k => XS.goto X1.here hx rfl (pc0 := 220) (pc' := 350) rfl (hb hby d3_220) (by decide) (by decide) k) ?_
    show oG _ _ _ _ _ _ _ (T1.setTop (mkF m 350 #[.val (.ref (w 0)), .val (.int p1), .val (.int (own_lo p1)), .val (.int (own_up p1)), .val (.int (own_dg p1)), .val (.int (own_gr p1))] [(.int 1)]))
    exact own_ret (v := some (.int 1)) X1 (fun h => by rw [Bd.returns] at h; cases h) Bd.notSynchronized (fun fs hr => retN X1 hx (t := .boolean) Bd.returns (by simp) (hb hby d3_350) hr) (by rw [e1]; exact ⟨(congrArg (fun z => some (Value.int z)) (own_all (P := fun c => (c < (32 : Int32)) → (1 : Int32) = (own_in (3 : Int32) c)) p1 hlo hhi (by decide +kernel) hc210)), N1, rfl⟩) (by decide) (by decide)
  · refine oS (fun t k => XS.icmpNo X1.here hx rfl (hb hby d3_210) rfl (flt hc210).1 k) ?_
    refine oS (fun t k => XS.iloadN X1.here hx rfl (hb hby d3_213) rfl k) ?_
    refine oS (fun t k => oBp lb_127 X1.here hx rfl (hb hby d3_214) k) ?_
    show oG _ _ _ _ _ _ _ (T1.setTop (mkF m 216 #[.val (.ref (w 0)), .val (.int p1), .val (.int (own_lo p1)), .val (.int (own_up p1)), .val (.int (own_dg p1)), .val (.int (own_gr p1))] [(.int 127), (.int p1)]))
    by_cases hc216 : p1 = (127 : Int32)
    · refine oS (fun t k => XS.icmpNo X1.here hx rfl (hb hby d3_216) rfl (teq hc216).2 k) ?_
      refine oS (fun t k => oIc li_1 X1.here hx rfl (hb hby d3_219) k) ?_
      refine oS (fun t k => XS.goto X1.here hx rfl (pc0 := 220) (pc' := 350) rfl (hb hby d3_220) (by decide) (by decide) k) ?_
      show oG _ _ _ _ _ _ _ (T1.setTop (mkF m 350 #[.val (.ref (w 0)), .val (.int p1), .val (.int (own_lo p1)), .val (.int (own_up p1)), .val (.int (own_dg p1)), .val (.int (own_gr p1))] [(.int 1)]))
      exact own_ret (v := some (.int 1)) X1 (fun h => by rw [Bd.returns] at h; cases h) Bd.notSynchronized (fun fs hr => retN X1 hx (t := .boolean) Bd.returns (by simp) (hb hby d3_350) hr) (by rw [e1]; exact ⟨(congrArg (fun z => some (Value.int z)) (own_all (P := fun c => ¬ (c < (32 : Int32)) → (c = (127 : Int32)) → (1 : Int32) = (own_in (3 : Int32) c)) p1 hlo hhi (by decide +kernel) hc210 hc216)), N1, rfl⟩) (by decide) (by decide)
    · refine oS (fun t k => XS.icmpYes X1.here hx rfl (pc0 := 216) (pc' := 223) rfl (hb hby d3_216) rfl (feq hc216).2 (by decide) (by decide) k) ?_
      refine oS (fun t k => oIc li_0 X1.here hx rfl (hb hby d3_223) k) ?_
      refine oS (fun t k => XS.goto X1.here hx rfl (pc0 := 224) (pc' := 350) rfl (hb hby d3_224) (by decide) (by decide) k) ?_
      show oG _ _ _ _ _ _ _ (T1.setTop (mkF m 350 #[.val (.ref (w 0)), .val (.int p1), .val (.int (own_lo p1)), .val (.int (own_up p1)), .val (.int (own_dg p1)), .val (.int (own_gr p1))] [(.int 0)]))
      exact own_ret (v := some (.int 0)) X1 (fun h => by rw [Bd.returns] at h; cases h) Bd.notSynchronized (fun fs hr => retN X1 hx (t := .boolean) Bd.returns (by simp) (hb hby d3_350) hr) (by rw [e1]; exact ⟨(congrArg (fun z => some (Value.int z)) (own_all (P := fun c => ¬ (c < (32 : Int32)) → ¬ (c = (127 : Int32)) → (0 : Int32) = (own_in (3 : Int32) c)) p1 hlo hhi (by decide +kernel) hc210 hc216)), N1, rfl⟩) (by decide) (by decide)
def Q_ord_DIGIT (Z : State)  (w : Nat → Addr) (h0 : Heap) (n0 : Nat) (v : Option Value) (h : Heap) (L : List Loc) : Prop := v = some (.int 4) ∧ Fr n0 L ∧ h = h0
set_option maxRecDepth 65536 in
set_option maxHeartbeats 40000000 in
theorem rm_ord_DIGIT (l : Launch) (Z : State) (a0 : Array Value) (hw : ∀ d ∈ tables_1, d.before a0 Z = true) (ws : List Jvm.Cond)  (w : Nat → Addr) (h0 : Heap) (n0 : Nat) (O0 : Old Z n0 h0) (W : own_World Z w) :
    MetFree l mY2 (head1 (Jvm.Cond.code mY2 jdk_37_method_2_code 1 (some .int) :: ws) ({ frames := 0, cells := 0, slots := 0, locals := 0 } : Room)) (fun a U => a = #[(.ref (w 5))] ∧ Z.Warmed39 U.vm ∧ U.heap = h0) (fun _ _ _ _ _ => True) (fun _ U o U' => ∃ v L, o = .returned v ∧ Q_ord_DIGIT Z  w h0 n0 v U'.heap L ∧ FrameEnd U o U' L ({ frames := 0, cells := 0, slots := 0, locals := 0 } : Room).cells ({ frames := 0, cells := 0, slots := 0, locals := 0 } : Room).slots) := by
  refine MetFree.of_bodySF (plainFor_of_name pn_1) hisR ?_
  intro p e s m args below meth c s₁ Bd hml0 hP hK
  obtain ⟨rfl, hZ, hh⟩ := hP
  have hx := Bd.exec
  have hby := Bd.bytes
  have hml : c.maxLocals = 1 := hml0
  have hown : s.vm.findClass "java/lang/Enum" = some m.cls := findClass_of_methodNamed Bd.named
  have hnm := (name_of_methodNamed Bd.named Bd.method).1
  have X0 : Stand p l e ({ frames := 0, cells := 0, slots := 0, locals := 0 } : Room) s m #[(.ref (w 5))] below meth c s₁ [] 0 0 := Stand.of_body Bd
  have e0 : s₁.heap = h0 := by rw [← hh, Bd.state]; rfl
  have N0 := Fr.nil n0
  show oG p e below s (Q_ord_DIGIT Z  w h0 n0) ({ frames := 0, cells := 0, slots := 0, locals := 0 } : Room).cells ({ frames := 0, cells := 0, slots := 0, locals := 0 } : Room).slots _
  refine oS (fun t k => castTop (ef_4_r m (w 5)) k) ?_
  show oG _ _ _ _ _ _ _ (s₁.setTop (mkF m 0 #[.val (.ref (w 5))] []))
  refine oS (fun t k => XS.aloadN X0.here hx rfl (hb hby d4_0) rfl rfl k) ?_
  obtain ⟨T1, X1, e1, st1⟩ := getF X0 hx hZ hown (host := "") (Or.inl (oW hw 23 rfl)) Via.refl e0 ((wF5_ordinal W).ext O0.2) (g := (mkF m 1 #[.val (.ref (w 5))] [(.ref (w 5))])) rfl rfl (hb hby d4_1)
  refine oS (fun t k => st1 t k) ?_
  try clear st1
  exact own_ret (v := some (.int 4)) X1 (fun h => by rw [Bd.returns] at h; cases h) Bd.notSynchronized (fun fs hr => retOut X1 hx (t := .int) Bd.returns rfl (Or.inl ⟨rfl, Or.inl rfl, _, rfl⟩) (hb hby d4_4) hr) (by rw [e1]; exact ⟨rfl, N0, rfl⟩) (by decide) (by decide)
theorem d3_227 : decode prog_6_method_5_code 227 = .ok (.iload 4, 2) := by decide +kernel
theorem d3_229 : decode prog_6_method_5_code 229 = .ok (.goto 121, 3) := by decide +kernel
def Q_con_DIGIT (Z : State) (p1 : Int32) (w : Nat → Addr) (h0 : Heap) (n0 : Nat) (v : Option Value) (h : Heap) (L : List Loc) : Prop := v = some (.int (own_in (4 : Int32) p1)) ∧ Fr n0 L ∧ h = h0
set_option maxRecDepth 65536 in
set_option maxHeartbeats 40000000 in
theorem rm_con_DIGIT (l : Launch) (Z : State) (a0 : Array Value) (hw : ∀ d ∈ tables_1, d.before a0 Z = true) (ws : List Jvm.Cond) (p1 : Int32) (w : Nat → Addr) (h0 : Heap) (n0 : Nat) (O0 : Old Z n0 h0) (W : own_World Z w) (hlo : ¬ (p1 < (0 : Int32))) (hhi : p1 < (256 : Int32)) :
    MetFree l mY4 (head1 (Jvm.Cond.code mY4 prog_6_method_5_code 6 (some .boolean) :: ws) ({ frames := 1, cells := 0, slots := 0, locals := 12 } : Room)) (fun a U => a = #[(.ref (w 5)), (.int p1)] ∧ Z.Warmed39 U.vm ∧ U.heap = h0) (fun _ _ _ _ _ => True) (fun _ U o U' => ∃ v L, o = .returned v ∧ Q_con_DIGIT Z p1 w h0 n0 v U'.heap L ∧ FrameEnd U o U' L ({ frames := 1, cells := 0, slots := 0, locals := 12 } : Room).cells ({ frames := 1, cells := 0, slots := 0, locals := 12 } : Room).slots) := by
  refine MetFree.of_bodySF (plainFor_of_name pn_2) hisR ?_
  intro p e s m args below meth c s₁ Bd hml0 hP hK
  obtain ⟨rfl, hZ, hh⟩ := hP
  have hx := Bd.exec
  have hby := Bd.bytes
  have hml : c.maxLocals = 6 := hml0
  have hown : s.vm.findClass "com/example/lamassu/lamassu/builtin/CharClass" = some m.cls := findClass_of_methodNamed Bd.named
  have hnm := (name_of_methodNamed Bd.named Bd.method).1
  have X0 : Stand p l e ({ frames := 1, cells := 0, slots := 0, locals := 12 } : Room) s m #[(.ref (w 5)), (.int p1)] below meth c s₁ [] 0 0 := Stand.of_body Bd
  have e0 : s₁.heap = h0 := by rw [← hh, Bd.state]; rfl
  have N0 := Fr.nil n0
  show oG p e below s (Q_con_DIGIT Z p1 w h0 n0) ({ frames := 1, cells := 0, slots := 0, locals := 12 } : Room).cells ({ frames := 1, cells := 0, slots := 0, locals := 12 } : Room).slots _
  refine oS (fun t k => castTop (ef_3_ri m (w 5) p1) k) ?_
  show oG _ _ _ _ _ _ _ (s₁.setTop (mkF m 0 #[.val (.ref (w 5)), .val (.int p1), .unset, .unset, .unset, .unset] []))
  suffices cut : oG p e below s (Q_con_DIGIT Z p1 w h0 n0) ({ frames := 1, cells := 0, slots := 0, locals := 12 } : Room).cells ({ frames := 1, cells := 0, slots := 0, locals := 12 } : Room).slots (s₁.setTop (mkF m 18 #[.val (.ref (w 5)), .val (.int p1), .val (.int (own_lo p1)), .unset, .unset, .unset] [])) by
    refine oS (fun t k => XS.iloadN X0.here hx rfl (hb hby d3_0) rfl k) ?_
    refine oS (fun t k => oBp lb_97 X0.here hx rfl (hb hby d3_1) k) ?_
    by_cases hc3 : p1 < (97 : Int32)
    · refine oS (fun t k => XS.icmpYes X0.here hx rfl (pc0 := 3) (pc' := 16) rfl (hb hby d3_3) rfl (tlt hc3).1 (by decide) (by decide) k) ?_
      show oG _ _ _ _ _ _ _ (s₁.setTop (mkF m 16 #[.val (.ref (w 5)), .val (.int p1), .unset, .unset, .unset, .unset] []))
      refine oS (fun t k => oIc li_0 X0.here hx rfl (hb hby d3_16) k) ?_
      refine oS (fun t k => XS.istoreN X0.here hx rfl (hb hby d3_17) rfl (l' := #[.val (.ref (w 5)), .val (.int p1), .val (.int 0), .unset, .unset, .unset]) rfl k) ?_
      have ej0 : (own_lo p1) = (0 : Int32) := (by simp only [own_lo, if_pos hc3])
      rw [ej0] at cut
      exact cut
    · refine oS (fun t k => XS.icmpNo X0.here hx rfl (hb hby d3_3) rfl (flt hc3).1 k) ?_
      show oG _ _ _ _ _ _ _ (s₁.setTop (mkF m 6 #[.val (.ref (w 5)), .val (.int p1), .unset, .unset, .unset, .unset] []))
      refine oS (fun t k => XS.iloadN X0.here hx rfl (hb hby d3_6) rfl k) ?_
      refine oS (fun t k => oBp lb_122 X0.here hx rfl (hb hby d3_7) k) ?_
      by_cases hc9 : (122 : Int32) < p1
      · refine oS (fun t k => XS.icmpYes X0.here hx rfl (pc0 := 9) (pc' := 16) rfl (hb hby d3_9) rfl (tlt hc9).2.2.1 (by decide) (by decide) k) ?_
        show oG _ _ _ _ _ _ _ (s₁.setTop (mkF m 16 #[.val (.ref (w 5)), .val (.int p1), .unset, .unset, .unset, .unset] []))
        refine oS (fun t k => oIc li_0 X0.here hx rfl (hb hby d3_16) k) ?_
        refine oS (fun t k => XS.istoreN X0.here hx rfl (hb hby d3_17) rfl (l' := #[.val (.ref (w 5)), .val (.int p1), .val (.int 0), .unset, .unset, .unset]) rfl k) ?_
        have ej0 : (own_lo p1) = (0 : Int32) := (by simp only [own_lo, if_neg hc3, if_pos hc9])
        rw [ej0] at cut
        exact cut
      · refine oS (fun t k => XS.icmpNo X0.here hx rfl (hb hby d3_9) rfl (flt hc9).2.2.1 k) ?_
        show oG _ _ _ _ _ _ _ (s₁.setTop (mkF m 12 #[.val (.ref (w 5)), .val (.int p1), .unset, .unset, .unset, .unset] []))
        refine oS (fun t k => oIc li_1 X0.here hx rfl (hb hby d3_12) k) ?_
        refine oS (fun t k => XS.goto X0.here hx rfl (pc0 := 13) (pc' := 17) rfl (hb hby d3_13) (by decide) (by decide) k) ?_
        refine oS (fun t k => XS.istoreN X0.here hx rfl (hb hby d3_17) rfl (l' := #[.val (.ref (w 5)), .val (.int p1), .val (.int 1), .unset, .unset, .unset]) rfl k) ?_
        show oG _ _ _ _ _ _ _ (s₁.setTop (mkF m 18 #[.val (.ref (w 5)), .val (.int p1), .val (.int 1), .unset, .unset, .unset] []))
        have ej0 : (own_lo p1) = (1 : Int32) := (by simp only [own_lo, if_neg hc3, if_neg hc9])
        rw [ej0] at cut
        exact cut
  suffices cut : oG p e below s (Q_con_DIGIT Z p1 w h0 n0) ({ frames := 1, cells := 0, slots := 0, locals := 12 } : Room).cells ({ frames := 1, cells := 0, slots := 0, locals := 12 } : Room).slots (s₁.setTop (mkF m 36 #[.val (.ref (w 5)), .val (.int p1), .val (.int (own_lo p1)), .val (.int (own_up p1)), .unset, .unset] [])) by
    refine oS (fun t k => XS.iloadN X0.here hx rfl (hb hby d3_18) rfl k) ?_
    refine oS (fun t k => oBp lb_65 X0.here hx rfl (hb hby d3_19) k) ?_
    by_cases hc21 : p1 < (65 : Int32)
    · refine oS (fun t k => XS.icmpYes X0.here hx rfl (pc0 := 21) (pc' := 34) rfl (hb hby d3_21) rfl (tlt hc21).1 (by decide) (by decide) k) ?_
      show oG _ _ _ _ _ _ _ (s₁.setTop (mkF m 34 #[.val (.ref (w 5)), .val (.int p1), .val (.int (own_lo p1)), .unset, .unset, .unset] []))
      refine oS (fun t k => oIc li_0 X0.here hx rfl (hb hby d3_34) k) ?_
      refine oS (fun t k => XS.istoreN X0.here hx rfl (hb hby d3_35) rfl (l' := #[.val (.ref (w 5)), .val (.int p1), .val (.int (own_lo p1)), .val (.int 0), .unset, .unset]) rfl k) ?_
      have ej0 : (own_up p1) = (0 : Int32) := (by simp only [own_up, if_pos hc21])
      rw [ej0] at cut
      exact cut
    · refine oS (fun t k => XS.icmpNo X0.here hx rfl (hb hby d3_21) rfl (flt hc21).1 k) ?_
      show oG _ _ _ _ _ _ _ (s₁.setTop (mkF m 24 #[.val (.ref (w 5)), .val (.int p1), .val (.int (own_lo p1)), .unset, .unset, .unset] []))
      refine oS (fun t k => XS.iloadN X0.here hx rfl (hb hby d3_24) rfl k) ?_
      refine oS (fun t k => oBp lb_90 X0.here hx rfl (hb hby d3_25) k) ?_
      by_cases hc27 : (90 : Int32) < p1
      · refine oS (fun t k => XS.icmpYes X0.here hx rfl (pc0 := 27) (pc' := 34) rfl (hb hby d3_27) rfl (tlt hc27).2.2.1 (by decide) (by decide) k) ?_
        show oG _ _ _ _ _ _ _ (s₁.setTop (mkF m 34 #[.val (.ref (w 5)), .val (.int p1), .val (.int (own_lo p1)), .unset, .unset, .unset] []))
        refine oS (fun t k => oIc li_0 X0.here hx rfl (hb hby d3_34) k) ?_
        refine oS (fun t k => XS.istoreN X0.here hx rfl (hb hby d3_35) rfl (l' := #[.val (.ref (w 5)), .val (.int p1), .val (.int (own_lo p1)), .val (.int 0), .unset, .unset]) rfl k) ?_
        have ej0 : (own_up p1) = (0 : Int32) := (by simp only [own_up, if_neg hc21, if_pos hc27])
        rw [ej0] at cut
        exact cut
      · refine oS (fun t k => XS.icmpNo X0.here hx rfl (hb hby d3_27) rfl (flt hc27).2.2.1 k) ?_
        show oG _ _ _ _ _ _ _ (s₁.setTop (mkF m 30 #[.val (.ref (w 5)), .val (.int p1), .val (.int (own_lo p1)), .unset, .unset, .unset] []))
        refine oS (fun t k => oIc li_1 X0.here hx rfl (hb hby d3_30) k) ?_
        refine oS (fun t k => XS.goto X0.here hx rfl (pc0 := 31) (pc' := 35) rfl (hb hby d3_31) (by decide) (by decide) k) ?_
        refine oS (fun t k => XS.istoreN X0.here hx rfl (hb hby d3_35) rfl (l' := #[.val (.ref (w 5)), .val (.int p1), .val (.int (own_lo p1)), .val (.int 1), .unset, .unset]) rfl k) ?_
        show oG _ _ _ _ _ _ _ (s₁.setTop (mkF m 36 #[.val (.ref (w 5)), .val (.int p1), .val (.int (own_lo p1)), .val (.int 1), .unset, .unset] []))
        have ej0 : (own_up p1) = (1 : Int32) := (by simp only [own_up, if_neg hc21, if_neg hc27])
        rw [ej0] at cut
        exact cut
  suffices cut : oG p e below s (Q_con_DIGIT Z p1 w h0 n0) ({ frames := 1, cells := 0, slots := 0, locals := 12 } : Room).cells ({ frames := 1, cells := 0, slots := 0, locals := 12 } : Room).slots (s₁.setTop (mkF m 55 #[.val (.ref (w 5)), .val (.int p1), .val (.int (own_lo p1)), .val (.int (own_up p1)), .val (.int (own_dg p1)), .unset] [])) by
    refine oS (fun t k => XS.iloadN X0.here hx rfl (hb hby d3_36) rfl k) ?_
    refine oS (fun t k => oBp lb_48 X0.here hx rfl (hb hby d3_37) k) ?_
    by_cases hc39 : p1 < (48 : Int32)
    · refine oS (fun t k => XS.icmpYes X0.here hx rfl (pc0 := 39) (pc' := 52) rfl (hb hby d3_39) rfl (tlt hc39).1 (by decide) (by decide) k) ?_
      show oG _ _ _ _ _ _ _ (s₁.setTop (mkF m 52 #[.val (.ref (w 5)), .val (.int p1), .val (.int (own_lo p1)), .val (.int (own_up p1)), .unset, .unset] []))
      refine oS (fun t k => oIc li_0 X0.here hx rfl (hb hby d3_52) k) ?_
      refine oS (fun t k => XS.istore X0.here hx rfl (hb hby d3_53) rfl (l' := #[.val (.ref (w 5)), .val (.int p1), .val (.int (own_lo p1)), .val (.int (own_up p1)), .val (.int 0), .unset]) rfl k) ?_
      have ej0 : (own_dg p1) = (0 : Int32) := (by simp only [own_dg, if_pos hc39])
      rw [ej0] at cut
      exact cut
    · refine oS (fun t k => XS.icmpNo X0.here hx rfl (hb hby d3_39) rfl (flt hc39).1 k) ?_
      show oG _ _ _ _ _ _ _ (s₁.setTop (mkF m 42 #[.val (.ref (w 5)), .val (.int p1), .val (.int (own_lo p1)), .val (.int (own_up p1)), .unset, .unset] []))
      refine oS (fun t k => XS.iloadN X0.here hx rfl (hb hby d3_42) rfl k) ?_
      refine oS (fun t k => oBp lb_57 X0.here hx rfl (hb hby d3_43) k) ?_
      by_cases hc45 : (57 : Int32) < p1
      · refine oS (fun t k => XS.icmpYes X0.here hx rfl (pc0 := 45) (pc' := 52) rfl (hb hby d3_45) rfl (tlt hc45).2.2.1 (by decide) (by decide) k) ?_
        show oG _ _ _ _ _ _ _ (s₁.setTop (mkF m 52 #[.val (.ref (w 5)), .val (.int p1), .val (.int (own_lo p1)), .val (.int (own_up p1)), .unset, .unset] []))
        refine oS (fun t k => oIc li_0 X0.here hx rfl (hb hby d3_52) k) ?_
        refine oS (fun t k => XS.istore X0.here hx rfl (hb hby d3_53) rfl (l' := #[.val (.ref (w 5)), .val (.int p1), .val (.int (own_lo p1)), .val (.int (own_up p1)), .val (.int 0), .unset]) rfl k) ?_
        have ej0 : (own_dg p1) = (0 : Int32) := (by simp only [own_dg, if_neg hc39, if_pos hc45])
        rw [ej0] at cut
        exact cut
      · refine oS (fun t k => XS.icmpNo X0.here hx rfl (hb hby d3_45) rfl (flt hc45).2.2.1 k) ?_
        show oG _ _ _ _ _ _ _ (s₁.setTop (mkF m 48 #[.val (.ref (w 5)), .val (.int p1), .val (.int (own_lo p1)), .val (.int (own_up p1)), .unset, .unset] []))
        refine oS (fun t k => oIc li_1 X0.here hx rfl (hb hby d3_48) k) ?_
        refine oS (fun t k => XS.goto X0.here hx rfl (pc0 := 49) (pc' := 53) rfl (hb hby d3_49) (by decide) (by decide) k) ?_
        refine oS (fun t k => XS.istore X0.here hx rfl (hb hby d3_53) rfl (l' := #[.val (.ref (w 5)), .val (.int p1), .val (.int (own_lo p1)), .val (.int (own_up p1)), .val (.int 1), .unset]) rfl k) ?_
        show oG _ _ _ _ _ _ _ (s₁.setTop (mkF m 55 #[.val (.ref (w 5)), .val (.int p1), .val (.int (own_lo p1)), .val (.int (own_up p1)), .val (.int 1), .unset] []))
        have ej0 : (own_dg p1) = (1 : Int32) := (by simp only [own_dg, if_neg hc39, if_neg hc45])
        rw [ej0] at cut
        exact cut
  suffices cut : oG p e below s (Q_con_DIGIT Z p1 w h0 n0) ({ frames := 1, cells := 0, slots := 0, locals := 12 } : Room).cells ({ frames := 1, cells := 0, slots := 0, locals := 12 } : Room).slots (s₁.setTop (mkF m 74 #[.val (.ref (w 5)), .val (.int p1), .val (.int (own_lo p1)), .val (.int (own_up p1)), .val (.int (own_dg p1)), .val (.int (own_gr p1))] [])) by
    refine oS (fun t k => XS.iloadN X0.here hx rfl (hb hby d3_55) rfl k) ?_
    refine oS (fun t k => oBp lb_32 X0.here hx rfl (hb hby d3_56) k) ?_
    by_cases hc58 : (32 : Int32) < p1
    · refine oS (fun t k => XS.icmpNo X0.here hx rfl (hb hby d3_58) rfl (tlt hc58).2.2.2 k) ?_
      show oG _ _ _ _ _ _ _ (s₁.setTop (mkF m 61 #[.val (.ref (w 5)), .val (.int p1), .val (.int (own_lo p1)), .val (.int (own_up p1)), .val (.int (own_dg p1)), .unset] []))
      refine oS (fun t k => XS.iloadN X0.here hx rfl (hb hby d3_61) rfl k) ?_
      refine oS (fun t k => oBp lb_127 X0.here hx rfl (hb hby d3_62) k) ?_
      by_cases hc64 : p1 < (127 : Int32)
      · refine oS (fun t k => XS.icmpNo X0.here hx rfl (hb hby d3_64) rfl (tlt hc64).2.1 k) ?_
        show oG _ _ _ _ _ _ _ (s₁.setTop (mkF m 67 #[.val (.ref (w 5)), .val (.int p1), .val (.int (own_lo p1)), .val (.int (own_up p1)), .val (.int (own_dg p1)), .unset] []))
        refine oS (fun t k => oIc li_1 X0.here hx rfl (hb hby d3_67) k) ?_
        refine oS (fun t k => XS.goto X0.here hx rfl (pc0 := 68) (pc' := 72) rfl (hb hby d3_68) (by decide) (by decide) k) ?_
        refine oS (fun t k => XS.istore X0.here hx rfl (hb hby d3_72) rfl (l' := #[.val (.ref (w 5)), .val (.int p1), .val (.int (own_lo p1)), .val (.int (own_up p1)), .val (.int (own_dg p1)), .val (.int 1)]) rfl k) ?_
        show oG _ _ _ _ _ _ _ (s₁.setTop (mkF m 74 #[.val (.ref (w 5)), .val (.int p1), .val (.int (own_lo p1)), .val (.int (own_up p1)), .val (.int (own_dg p1)), .val (.int 1)] []))
        have ej0 : (own_gr p1) = (1 : Int32) := (by simp only [own_gr, if_pos hc58, if_pos hc64])
        rw [ej0] at cut
        exact cut
      · refine oS (fun t k => XS.icmpYes X0.here hx rfl (pc0 := 64) (pc' := 71) rfl (hb hby d3_64) rfl (flt hc64).2.1 (by decide) (by decide) k) ?_
        show oG _ _ _ _ _ _ _ (s₁.setTop (mkF m 71 #[.val (.ref (w 5)), .val (.int p1), .val (.int (own_lo p1)), .val (.int (own_up p1)), .val (.int (own_dg p1)), .unset] []))
        refine oS (fun t k => oIc li_0 X0.here hx rfl (hb hby d3_71) k) ?_
        refine oS (fun t k => XS.istore X0.here hx rfl (hb hby d3_72) rfl (l' := #[.val (.ref (w 5)), .val (.int p1), .val (.int (own_lo p1)), .val (.int (own_up p1)), .val (.int (own_dg p1)), .val (.int 0)]) rfl k) ?_
        have ej0 : (own_gr p1) = (0 : Int32) := (by simp only [own_gr, if_pos hc58, if_neg hc64])
        rw [ej0] at cut
        exact cut
    · refine oS (fun t k => XS.icmpYes X0.here hx rfl (pc0 := 58) (pc' := 71) rfl (hb hby d3_58) rfl (flt hc58).2.2.2 (by decide) (by decide) k) ?_
      show oG _ _ _ _ _ _ _ (s₁.setTop (mkF m 71 #[.val (.ref (w 5)), .val (.int p1), .val (.int (own_lo p1)), .val (.int (own_up p1)), .val (.int (own_dg p1)), .unset] []))
      refine oS (fun t k => oIc li_0 X0.here hx rfl (hb hby d3_71) k) ?_
      refine oS (fun t k => XS.istore X0.here hx rfl (hb hby d3_72) rfl (l' := #[.val (.ref (w 5)), .val (.int p1), .val (.int (own_lo p1)), .val (.int (own_up p1)), .val (.int (own_dg p1)), .val (.int 0)]) rfl k) ?_
      have ej0 : (own_gr p1) = (0 : Int32) := (by simp only [own_gr, if_neg hc58])
      rw [ej0] at cut
      exact cut
  refine oS (fun t k => XS.aloadN X0.here hx rfl (hb hby d3_74) rfl rfl k) ?_
  obtain ⟨cq1, kq1, q1a, q1b, q1c⟩ := isOf hZ e0 ((wE5 W).ext O0.2)
  obtain ⟨_, _, ⟨T1, L1, k1, n1⟩, -, X1, ⟨Lc1, hQ1, l1, y1, z1⟩, st1⟩ := X0.virtualBackUp hx (x := mY3) (y := mY2) hown (mvT hZ (oW hw 16 rfl)) (mvT hZ (oW hw 17 rfl)) (mvT hZ (oW hw 18 rfl)) (by decide) (mvT hZ (oW hw 20 rfl)) (mvT hZ (oW hw 19 rfl)) (backOf (W := 0) (rm_ord_DIGIT l Z a0 hw []  w h0 n0 O0 W ) hZ (oW hw 22 rfl) (oW hw 21 rfl) (by decide) (by decide)) q1a q1c (g := (mkF m 75 #[.val (.ref (w 5)), .val (.int p1), .val (.int (own_lo p1)), .val (.int (own_up p1)), .val (.int (own_dg p1)), .val (.int (own_gr p1))] [(.ref (w 5))])) rfl (by rw [hml]; rfl) (Steps.refl _) (argsL := []) (rest := []) (lenOf pd_0 rfl) rfl (by show 2 * 0 + _ ≤ _; exact Nat.le_of_eq rfl) (hb hby d3_75) (fun _ _ => ⟨rfl, e0, (by decide : 0 + 0 ≤ _), (by decide : 0 + 0 ≤ _)⟩)
  dsimp only [Pt.U, Pt.locs, Pt.cells, Pt.slots] at X1 l1 y1 z1 st1 hQ1
  subst l1 y1 z1
  obtain ⟨rfl, Nq1, e1⟩ := hQ1
  have N1 := Fr.app N0 Nq1
  refine oS (fun t k => st1.trans k) ?_
  show oG _ _ _ _ _ _ _ (T1.setTop (mkF m 78 #[.val (.ref (w 5)), .val (.int p1), .val (.int (own_lo p1)), .val (.int (own_up p1)), .val (.int (own_dg p1)), .val (.int (own_gr p1))] [(.int 4)]))
  try clear st1
  refine oS (fun t k => XS.tswIn X1.here hx rfl (pc0 := 78) (pc' := 227) rfl (hb hby d3_78) (i := (4 : Int32)) rfl (by decide) (o := 149) rfl (by decide) (by decide) k) ?_
  refine oS (fun t k => XS.iload X1.here hx rfl (hb hby d3_227) rfl k) ?_
  refine oS (fun t k => XS.goto X1.here hx rfl (pc0 := 229) (pc' := 350) rfl (hb hby d3_229) (by decide) (by decide) k) ?_
  show oG _ _ _ _ _ _ _ (T1.setTop (mkF m 350 #[.val (.ref (w 5)), .val (.int p1), .val (.int (own_lo p1)), .val (.int (own_up p1)), .val (.int (own_dg p1)), .val (.int (own_gr p1))] [(.int (own_dg p1))]))
  exact own_ret (v := some (.int (nar .boolean (own_dg p1)))) X1 (fun h => by rw [Bd.returns] at h; cases h) Bd.notSynchronized (fun fs hr => retN X1 hx (t := .boolean) Bd.returns (by simp) (hb hby d3_350) hr) (by rw [e1]; exact ⟨(congrArg (fun z => some (Value.int z)) (own_all (P := fun c => (nar .boolean (own_dg c)) = (own_in (4 : Int32) c)) p1 hlo hhi (by decide +kernel))), N1, rfl⟩) (by decide) (by decide)
def Q_ord_GRAPH (Z : State)  (w : Nat → Addr) (h0 : Heap) (n0 : Nat) (v : Option Value) (h : Heap) (L : List Loc) : Prop := v = some (.int 5) ∧ Fr n0 L ∧ h = h0
set_option maxRecDepth 65536 in
set_option maxHeartbeats 40000000 in
theorem rm_ord_GRAPH (l : Launch) (Z : State) (a0 : Array Value) (hw : ∀ d ∈ tables_1, d.before a0 Z = true) (ws : List Jvm.Cond)  (w : Nat → Addr) (h0 : Heap) (n0 : Nat) (O0 : Old Z n0 h0) (W : own_World Z w) :
    MetFree l mY2 (head1 (Jvm.Cond.code mY2 jdk_37_method_2_code 1 (some .int) :: ws) ({ frames := 0, cells := 0, slots := 0, locals := 0 } : Room)) (fun a U => a = #[(.ref (w 7))] ∧ Z.Warmed39 U.vm ∧ U.heap = h0) (fun _ _ _ _ _ => True) (fun _ U o U' => ∃ v L, o = .returned v ∧ Q_ord_GRAPH Z  w h0 n0 v U'.heap L ∧ FrameEnd U o U' L ({ frames := 0, cells := 0, slots := 0, locals := 0 } : Room).cells ({ frames := 0, cells := 0, slots := 0, locals := 0 } : Room).slots) := by
  refine MetFree.of_bodySF (plainFor_of_name pn_1) hisR ?_
  intro p e s m args below meth c s₁ Bd hml0 hP hK
  obtain ⟨rfl, hZ, hh⟩ := hP
  have hx := Bd.exec
  have hby := Bd.bytes
  have hml : c.maxLocals = 1 := hml0
  have hown : s.vm.findClass "java/lang/Enum" = some m.cls := findClass_of_methodNamed Bd.named
  have hnm := (name_of_methodNamed Bd.named Bd.method).1
  have X0 : Stand p l e ({ frames := 0, cells := 0, slots := 0, locals := 0 } : Room) s m #[(.ref (w 7))] below meth c s₁ [] 0 0 := Stand.of_body Bd
  have e0 : s₁.heap = h0 := by rw [← hh, Bd.state]; rfl
  have N0 := Fr.nil n0
  show oG p e below s (Q_ord_GRAPH Z  w h0 n0) ({ frames := 0, cells := 0, slots := 0, locals := 0 } : Room).cells ({ frames := 0, cells := 0, slots := 0, locals := 0 } : Room).slots _
  refine oS (fun t k => castTop (ef_4_r m (w 7)) k) ?_
  show oG _ _ _ _ _ _ _ (s₁.setTop (mkF m 0 #[.val (.ref (w 7))] []))
  refine oS (fun t k => XS.aloadN X0.here hx rfl (hb hby d4_0) rfl rfl k) ?_
  obtain ⟨T1, X1, e1, st1⟩ := getF X0 hx hZ hown (host := "") (Or.inl (oW hw 23 rfl)) Via.refl e0 ((wF7_ordinal W).ext O0.2) (g := (mkF m 1 #[.val (.ref (w 7))] [(.ref (w 7))])) rfl rfl (hb hby d4_1)
  refine oS (fun t k => st1 t k) ?_
  try clear st1
  exact own_ret (v := some (.int 5)) X1 (fun h => by rw [Bd.returns] at h; cases h) Bd.notSynchronized (fun fs hr => retOut X1 hx (t := .int) Bd.returns rfl (Or.inl ⟨rfl, Or.inl rfl, _, rfl⟩) (hb hby d4_4) hr) (by rw [e1]; exact ⟨rfl, N0, rfl⟩) (by decide) (by decide)
theorem d3_232 : decode prog_6_method_5_code 232 = .ok (.iload 5, 2) := by decide +kernel
theorem d3_234 : decode prog_6_method_5_code 234 = .ok (.goto 116, 3) := by decide +kernel
def Q_con_GRAPH (Z : State) (p1 : Int32) (w : Nat → Addr) (h0 : Heap) (n0 : Nat) (v : Option Value) (h : Heap) (L : List Loc) : Prop := v = some (.int (own_in (5 : Int32) p1)) ∧ Fr n0 L ∧ h = h0
set_option maxRecDepth 65536 in
set_option maxHeartbeats 40000000 in
theorem rm_con_GRAPH (l : Launch) (Z : State) (a0 : Array Value) (hw : ∀ d ∈ tables_1, d.before a0 Z = true) (ws : List Jvm.Cond) (p1 : Int32) (w : Nat → Addr) (h0 : Heap) (n0 : Nat) (O0 : Old Z n0 h0) (W : own_World Z w) (hlo : ¬ (p1 < (0 : Int32))) (hhi : p1 < (256 : Int32)) :
    MetFree l mY4 (head1 (Jvm.Cond.code mY4 prog_6_method_5_code 6 (some .boolean) :: ws) ({ frames := 1, cells := 0, slots := 0, locals := 12 } : Room)) (fun a U => a = #[(.ref (w 7)), (.int p1)] ∧ Z.Warmed39 U.vm ∧ U.heap = h0) (fun _ _ _ _ _ => True) (fun _ U o U' => ∃ v L, o = .returned v ∧ Q_con_GRAPH Z p1 w h0 n0 v U'.heap L ∧ FrameEnd U o U' L ({ frames := 1, cells := 0, slots := 0, locals := 12 } : Room).cells ({ frames := 1, cells := 0, slots := 0, locals := 12 } : Room).slots) := by
  refine MetFree.of_bodySF (plainFor_of_name pn_2) hisR ?_
  intro p e s m args below meth c s₁ Bd hml0 hP hK
  obtain ⟨rfl, hZ, hh⟩ := hP
  have hx := Bd.exec
  have hby := Bd.bytes
  have hml : c.maxLocals = 6 := hml0
  have hown : s.vm.findClass "com/example/lamassu/lamassu/builtin/CharClass" = some m.cls := findClass_of_methodNamed Bd.named
  have hnm := (name_of_methodNamed Bd.named Bd.method).1
  have X0 : Stand p l e ({ frames := 1, cells := 0, slots := 0, locals := 12 } : Room) s m #[(.ref (w 7)), (.int p1)] below meth c s₁ [] 0 0 := Stand.of_body Bd
  have e0 : s₁.heap = h0 := by rw [← hh, Bd.state]; rfl
  have N0 := Fr.nil n0
  show oG p e below s (Q_con_GRAPH Z p1 w h0 n0) ({ frames := 1, cells := 0, slots := 0, locals := 12 } : Room).cells ({ frames := 1, cells := 0, slots := 0, locals := 12 } : Room).slots _
  refine oS (fun t k => castTop (ef_3_ri m (w 7) p1) k) ?_
  show oG _ _ _ _ _ _ _ (s₁.setTop (mkF m 0 #[.val (.ref (w 7)), .val (.int p1), .unset, .unset, .unset, .unset] []))
  suffices cut : oG p e below s (Q_con_GRAPH Z p1 w h0 n0) ({ frames := 1, cells := 0, slots := 0, locals := 12 } : Room).cells ({ frames := 1, cells := 0, slots := 0, locals := 12 } : Room).slots (s₁.setTop (mkF m 18 #[.val (.ref (w 7)), .val (.int p1), .val (.int (own_lo p1)), .unset, .unset, .unset] [])) by
    refine oS (fun t k => XS.iloadN X0.here hx rfl (hb hby d3_0) rfl k) ?_
    refine oS (fun t k => oBp lb_97 X0.here hx rfl (hb hby d3_1) k) ?_
    by_cases hc3 : p1 < (97 : Int32)
    · refine oS (fun t k => XS.icmpYes X0.here hx rfl (pc0 := 3) (pc' := 16) rfl (hb hby d3_3) rfl (tlt hc3).1 (by decide) (by decide) k) ?_
      show oG _ _ _ _ _ _ _ (s₁.setTop (mkF m 16 #[.val (.ref (w 7)), .val (.int p1), .unset, .unset, .unset, .unset] []))
      refine oS (fun t k => oIc li_0 X0.here hx rfl (hb hby d3_16) k) ?_
      refine oS (fun t k => XS.istoreN X0.here hx rfl (hb hby d3_17) rfl (l' := #[.val (.ref (w 7)), .val (.int p1), .val (.int 0), .unset, .unset, .unset]) rfl k) ?_
      have ej0 : (own_lo p1) = (0 : Int32) := (by simp only [own_lo, if_pos hc3])
      rw [ej0] at cut
      exact cut
    · refine oS (fun t k => XS.icmpNo X0.here hx rfl (hb hby d3_3) rfl (flt hc3).1 k) ?_
      show oG _ _ _ _ _ _ _ (s₁.setTop (mkF m 6 #[.val (.ref (w 7)), .val (.int p1), .unset, .unset, .unset, .unset] []))
      refine oS (fun t k => XS.iloadN X0.here hx rfl (hb hby d3_6) rfl k) ?_
      refine oS (fun t k => oBp lb_122 X0.here hx rfl (hb hby d3_7) k) ?_
      by_cases hc9 : (122 : Int32) < p1
      · refine oS (fun t k => XS.icmpYes X0.here hx rfl (pc0 := 9) (pc' := 16) rfl (hb hby d3_9) rfl (tlt hc9).2.2.1 (by decide) (by decide) k) ?_
        show oG _ _ _ _ _ _ _ (s₁.setTop (mkF m 16 #[.val (.ref (w 7)), .val (.int p1), .unset, .unset, .unset, .unset] []))
        refine oS (fun t k => oIc li_0 X0.here hx rfl (hb hby d3_16) k) ?_
        refine oS (fun t k => XS.istoreN X0.here hx rfl (hb hby d3_17) rfl (l' := #[.val (.ref (w 7)), .val (.int p1), .val (.int 0), .unset, .unset, .unset]) rfl k) ?_
        have ej0 : (own_lo p1) = (0 : Int32) := (by simp only [own_lo, if_neg hc3, if_pos hc9])
        rw [ej0] at cut
        exact cut
      · refine oS (fun t k => XS.icmpNo X0.here hx rfl (hb hby d3_9) rfl (flt hc9).2.2.1 k) ?_
        show oG _ _ _ _ _ _ _ (s₁.setTop (mkF m 12 #[.val (.ref (w 7)), .val (.int p1), .unset, .unset, .unset, .unset] []))
        refine oS (fun t k => oIc li_1 X0.here hx rfl (hb hby d3_12) k) ?_
        refine oS (fun t k => XS.goto X0.here hx rfl (pc0 := 13) (pc' := 17) rfl (hb hby d3_13) (by decide) (by decide) k) ?_
        refine oS (fun t k => XS.istoreN X0.here hx rfl (hb hby d3_17) rfl (l' := #[.val (.ref (w 7)), .val (.int p1), .val (.int 1), .unset, .unset, .unset]) rfl k) ?_
        show oG _ _ _ _ _ _ _ (s₁.setTop (mkF m 18 #[.val (.ref (w 7)), .val (.int p1), .val (.int 1), .unset, .unset, .unset] []))
        have ej0 : (own_lo p1) = (1 : Int32) := (by simp only [own_lo, if_neg hc3, if_neg hc9])
        rw [ej0] at cut
        exact cut
  suffices cut : oG p e below s (Q_con_GRAPH Z p1 w h0 n0) ({ frames := 1, cells := 0, slots := 0, locals := 12 } : Room).cells ({ frames := 1, cells := 0, slots := 0, locals := 12 } : Room).slots (s₁.setTop (mkF m 36 #[.val (.ref (w 7)), .val (.int p1), .val (.int (own_lo p1)), .val (.int (own_up p1)), .unset, .unset] [])) by
    refine oS (fun t k => XS.iloadN X0.here hx rfl (hb hby d3_18) rfl k) ?_
    refine oS (fun t k => oBp lb_65 X0.here hx rfl (hb hby d3_19) k) ?_
    by_cases hc21 : p1 < (65 : Int32)
    · refine oS (fun t k => XS.icmpYes X0.here hx rfl (pc0 := 21) (pc' := 34) rfl (hb hby d3_21) rfl (tlt hc21).1 (by decide) (by decide) k) ?_
      show oG _ _ _ _ _ _ _ (s₁.setTop (mkF m 34 #[.val (.ref (w 7)), .val (.int p1), .val (.int (own_lo p1)), .unset, .unset, .unset] []))
      refine oS (fun t k => oIc li_0 X0.here hx rfl (hb hby d3_34) k) ?_
      refine oS (fun t k => XS.istoreN X0.here hx rfl (hb hby d3_35) rfl (l' := #[.val (.ref (w 7)), .val (.int p1), .val (.int (own_lo p1)), .val (.int 0), .unset, .unset]) rfl k) ?_
      have ej0 : (own_up p1) = (0 : Int32) := (by simp only [own_up, if_pos hc21])
      rw [ej0] at cut
      exact cut
    · refine oS (fun t k => XS.icmpNo X0.here hx rfl (hb hby d3_21) rfl (flt hc21).1 k) ?_
      show oG _ _ _ _ _ _ _ (s₁.setTop (mkF m 24 #[.val (.ref (w 7)), .val (.int p1), .val (.int (own_lo p1)), .unset, .unset, .unset] []))
      refine oS (fun t k => XS.iloadN X0.here hx rfl (hb hby d3_24) rfl k) ?_
      refine oS (fun t k => oBp lb_90 X0.here hx rfl (hb hby d3_25) k) ?_
      by_cases hc27 : (90 : Int32) < p1
      · refine oS (fun t k => XS.icmpYes X0.here hx rfl (pc0 := 27) (pc' := 34) rfl (hb hby d3_27) rfl (tlt hc27).2.2.1 (by decide) (by decide) k) ?_
        show oG _ _ _ _ _ _ _ (s₁.setTop (mkF m 34 #[.val (.ref (w 7)), .val (.int p1), .val (.int (own_lo p1)), .unset, .unset, .unset] []))
        refine oS (fun t k => oIc li_0 X0.here hx rfl (hb hby d3_34) k) ?_
        refine oS (fun t k => XS.istoreN X0.here hx rfl (hb hby d3_35) rfl (l' := #[.val (.ref (w 7)), .val (.int p1), .val (.int (own_lo p1)), .val (.int 0), .unset, .unset]) rfl k) ?_
        have ej0 : (own_up p1) = (0 : Int32) := (by simp only [own_up, if_neg hc21, if_pos hc27])
        rw [ej0] at cut
        exact cut
      · refine oS (fun t k => XS.icmpNo X0.here hx rfl (hb hby d3_27) rfl (flt hc27).2.2.1 k) ?_
        show oG _ _ _ _ _ _ _ (s₁.setTop (mkF m 30 #[.val (.ref (w 7)), .val (.int p1), .val (.int (own_lo p1)), .unset, .unset, .unset] []))
        refine oS (fun t k => oIc li_1 X0.here hx rfl (hb hby d3_30) k) ?_
        refine oS (fun t k => XS.goto X0.here hx rfl (pc0 := 31) (pc' := 35) rfl (hb hby d3_31) (by decide) (by decide) k) ?_
        refine oS (fun t k => XS.istoreN X0.here hx rfl (hb hby d3_35) rfl (l' := #[.val (.ref (w 7)), .val (.int p1), .val (.int (own_lo p1)), .val (.int 1), .unset, .unset]) rfl k) ?_
        show oG _ _ _ _ _ _ _ (s₁.setTop (mkF m 36 #[.val (.ref (w 7)), .val (.int p1), .val (.int (own_lo p1)), .val (.int 1), .unset, .unset] []))
        have ej0 : (own_up p1) = (1 : Int32) := (by simp only [own_up, if_neg hc21, if_neg hc27])
        rw [ej0] at cut
        exact cut
  suffices cut : oG p e below s (Q_con_GRAPH Z p1 w h0 n0) ({ frames := 1, cells := 0, slots := 0, locals := 12 } : Room).cells ({ frames := 1, cells := 0, slots := 0, locals := 12 } : Room).slots (s₁.setTop (mkF m 55 #[.val (.ref (w 7)), .val (.int p1), .val (.int (own_lo p1)), .val (.int (own_up p1)), .val (.int (own_dg p1)), .unset] [])) by
    refine oS (fun t k => XS.iloadN X0.here hx rfl (hb hby d3_36) rfl k) ?_
    refine oS (fun t k => oBp lb_48 X0.here hx rfl (hb hby d3_37) k) ?_
    by_cases hc39 : p1 < (48 : Int32)
    · refine oS (fun t k => XS.icmpYes X0.here hx rfl (pc0 := 39) (pc' := 52) rfl (hb hby d3_39) rfl (tlt hc39).1 (by decide) (by decide) k) ?_
      show oG _ _ _ _ _ _ _ (s₁.setTop (mkF m 52 #[.val (.ref (w 7)), .val (.int p1), .val (.int (own_lo p1)), .val (.int (own_up p1)), .unset, .unset] []))
      refine oS (fun t k => oIc li_0 X0.here hx rfl (hb hby d3_52) k) ?_
      refine oS (fun t k => XS.istore X0.here hx rfl (hb hby d3_53) rfl (l' := #[.val (.ref (w 7)), .val (.int p1), .val (.int (own_lo p1)), .val (.int (own_up p1)), .val (.int 0), .unset]) rfl k) ?_
      have ej0 : (own_dg p1) = (0 : Int32) := (by simp only [own_dg, if_pos hc39])
      rw [ej0] at cut
      exact cut
    · refine oS (fun t k => XS.icmpNo X0.here hx rfl (hb hby d3_39) rfl (flt hc39).1 k) ?_
      show oG _ _ _ _ _ _ _ (s₁.setTop (mkF m 42 #[.val (.ref (w 7)), .val (.int p1), .val (.int (own_lo p1)), .val (.int (own_up p1)), .unset, .unset] []))
      refine oS (fun t k => XS.iloadN X0.here hx rfl (hb hby d3_42) rfl k) ?_
      refine oS (fun t k => oBp lb_57 X0.here hx rfl (hb hby d3_43) k) ?_
      by_cases hc45 : (57 : Int32) < p1
      · refine oS (fun t k => XS.icmpYes X0.here hx rfl (pc0 := 45) (pc' := 52) rfl (hb hby d3_45) rfl (tlt hc45).2.2.1 (by decide) (by decide) k) ?_
        show oG _ _ _ _ _ _ _ (s₁.setTop (mkF m 52 #[.val (.ref (w 7)), .val (.int p1), .val (.int (own_lo p1)), .val (.int (own_up p1)), .unset, .unset] []))
        refine oS (fun t k => oIc li_0 X0.here hx rfl (hb hby d3_52) k) ?_
        refine oS (fun t k => XS.istore X0.here hx rfl (hb hby d3_53) rfl (l' := #[.val (.ref (w 7)), .val (.int p1), .val (.int (own_lo p1)), .val (.int (own_up p1)), .val (.int 0), .unset]) rfl k) ?_
        have ej0 : (own_dg p1) = (0 : Int32) := (by simp only [own_dg, if_neg hc39, if_pos hc45])
        rw [ej0] at cut
        exact cut
      · refine oS (fun t k => XS.icmpNo X0.here hx rfl (hb hby d3_45) rfl (flt hc45).2.2.1 k) ?_
        show oG _ _ _ _ _ _ _ (s₁.setTop (mkF m 48 #[.val (.ref (w 7)), .val (.int p1), .val (.int (own_lo p1)), .val (.int (own_up p1)), .unset, .unset] []))
        refine oS (fun t k => oIc li_1 X0.here hx rfl (hb hby d3_48) k) ?_
        refine oS (fun t k => XS.goto X0.here hx rfl (pc0 := 49) (pc' := 53) rfl (hb hby d3_49) (by decide) (by decide) k) ?_
        refine oS (fun t k => XS.istore X0.here hx rfl (hb hby d3_53) rfl (l' := #[.val (.ref (w 7)), .val (.int p1), .val (.int (own_lo p1)), .val (.int (own_up p1)), .val (.int 1), .unset]) rfl k) ?_
        show oG _ _ _ _ _ _ _ (s₁.setTop (mkF m 55 #[.val (.ref (w 7)), .val (.int p1), .val (.int (own_lo p1)), .val (.int (own_up p1)), .val (.int 1), .unset] []))
        have ej0 : (own_dg p1) = (1 : Int32) := (by simp only [own_dg, if_neg hc39, if_neg hc45])
        rw [ej0] at cut
        exact cut
  suffices cut : oG p e below s (Q_con_GRAPH Z p1 w h0 n0) ({ frames := 1, cells := 0, slots := 0, locals := 12 } : Room).cells ({ frames := 1, cells := 0, slots := 0, locals := 12 } : Room).slots (s₁.setTop (mkF m 74 #[.val (.ref (w 7)), .val (.int p1), .val (.int (own_lo p1)), .val (.int (own_up p1)), .val (.int (own_dg p1)), .val (.int (own_gr p1))] [])) by
    refine oS (fun t k => XS.iloadN X0.here hx rfl (hb hby d3_55) rfl k) ?_
    refine oS (fun t k => oBp lb_32 X0.here hx rfl (hb hby d3_56) k) ?_
    by_cases hc58 : (32 : Int32) < p1
    · refine oS (fun t k => XS.icmpNo X0.here hx rfl (hb hby d3_58) rfl (tlt hc58).2.2.2 k) ?_
      show oG _ _ _ _ _ _ _ (s₁.setTop (mkF m 61 #[.val (.ref (w 7)), .val (.int p1), .val (.int (own_lo p1)), .val (.int (own_up p1)), .val (.int (own_dg p1)), .unset] []))
      refine oS (fun t k => XS.iloadN X0.here hx rfl (hb hby d3_61) rfl k) ?_
      refine oS (fun t k => oBp lb_127 X0.here hx rfl (hb hby d3_62) k) ?_
      by_cases hc64 : p1 < (127 : Int32)
      · refine oS (fun t k => XS.icmpNo X0.here hx rfl (hb hby d3_64) rfl (tlt hc64).2.1 k) ?_
        show oG _ _ _ _ _ _ _ (s₁.setTop (mkF m 67 #[.val (.ref (w 7)), .val (.int p1), .val (.int (own_lo p1)), .val (.int (own_up p1)), .val (.int (own_dg p1)), .unset] []))
        refine oS (fun t k => oIc li_1 X0.here hx rfl (hb hby d3_67) k) ?_
        refine oS (fun t k => XS.goto X0.here hx rfl (pc0 := 68) (pc' := 72) rfl (hb hby d3_68) (by decide) (by decide) k) ?_
        refine oS (fun t k => XS.istore X0.here hx rfl (hb hby d3_72) rfl (l' := #[.val (.ref (w 7)), .val (.int p1), .val (.int (own_lo p1)), .val (.int (own_up p1)), .val (.int (own_dg p1)), .val (.int 1)]) rfl k) ?_
        show oG _ _ _ _ _ _ _ (s₁.setTop (mkF m 74 #[.val (.ref (w 7)), .val (.int p1), .val (.int (own_lo p1)), .val (.int (own_up p1)), .val (.int (own_dg p1)), .val (.int 1)] []))
        have ej0 : (own_gr p1) = (1 : Int32) := (by simp only [own_gr, if_pos hc58, if_pos hc64])
        rw [ej0] at cut
        exact cut
      · refine oS (fun t k => XS.icmpYes X0.here hx rfl (pc0 := 64) (pc' := 71) rfl (hb hby d3_64) rfl (flt hc64).2.1 (by decide) (by decide) k) ?_
        show oG _ _ _ _ _ _ _ (s₁.setTop (mkF m 71 #[.val (.ref (w 7)), .val (.int p1), .val (.int (own_lo p1)), .val (.int (own_up p1)), .val (.int (own_dg p1)), .unset] []))
        refine oS (fun t k => oIc li_0 X0.here hx rfl (hb hby d3_71) k) ?_
        refine oS (fun t k => XS.istore X0.here hx rfl (hb hby d3_72) rfl (l' := #[.val (.ref (w 7)), .val (.int p1), .val (.int (own_lo p1)), .val (.int (own_up p1)), .val (.int (own_dg p1)), .val (.int 0)]) rfl k) ?_
        have ej0 : (own_gr p1) = (0 : Int32) := (by simp only [own_gr, if_pos hc58, if_neg hc64])
        rw [ej0] at cut
        exact cut
    · refine oS (fun t k => XS.icmpYes X0.here hx rfl (pc0 := 58) (pc' := 71) rfl (hb hby d3_58) rfl (flt hc58).2.2.2 (by decide) (by decide) k) ?_
      show oG _ _ _ _ _ _ _ (s₁.setTop (mkF m 71 #[.val (.ref (w 7)), .val (.int p1), .val (.int (own_lo p1)), .val (.int (own_up p1)), .val (.int (own_dg p1)), .unset] []))
      refine oS (fun t k => oIc li_0 X0.here hx rfl (hb hby d3_71) k) ?_
      refine oS (fun t k => XS.istore X0.here hx rfl (hb hby d3_72) rfl (l' := #[.val (.ref (w 7)), .val (.int p1), .val (.int (own_lo p1)), .val (.int (own_up p1)), .val (.int (own_dg p1)), .val (.int 0)]) rfl k) ?_
      have ej0 : (own_gr p1) = (0 : Int32) := (by simp only [own_gr, if_neg hc58])
      rw [ej0] at cut
      exact cut
  refine oS (fun t k => XS.aloadN X0.here hx rfl (hb hby d3_74) rfl rfl k) ?_
  obtain ⟨cq1, kq1, q1a, q1b, q1c⟩ := isOf hZ e0 ((wE7 W).ext O0.2)
  obtain ⟨_, _, ⟨T1, L1, k1, n1⟩, -, X1, ⟨Lc1, hQ1, l1, y1, z1⟩, st1⟩ := X0.virtualBackUp hx (x := mY3) (y := mY2) hown (mvT hZ (oW hw 16 rfl)) (mvT hZ (oW hw 17 rfl)) (mvT hZ (oW hw 18 rfl)) (by decide) (mvT hZ (oW hw 20 rfl)) (mvT hZ (oW hw 19 rfl)) (backOf (W := 0) (rm_ord_GRAPH l Z a0 hw []  w h0 n0 O0 W ) hZ (oW hw 22 rfl) (oW hw 21 rfl) (by decide) (by decide)) q1a q1c (g := (mkF m 75 #[.val (.ref (w 7)), .val (.int p1), .val (.int (own_lo p1)), .val (.int (own_up p1)), .val (.int (own_dg p1)), .val (.int (own_gr p1))] [(.ref (w 7))])) rfl (by rw [hml]; rfl) (Steps.refl _) (argsL := []) (rest := []) (lenOf pd_0 rfl) rfl (by show 2 * 0 + _ ≤ _; exact Nat.le_of_eq rfl) (hb hby d3_75) (fun _ _ => ⟨rfl, e0, (by decide : 0 + 0 ≤ _), (by decide : 0 + 0 ≤ _)⟩)
  dsimp only [Pt.U, Pt.locs, Pt.cells, Pt.slots] at X1 l1 y1 z1 st1 hQ1
  subst l1 y1 z1
  obtain ⟨rfl, Nq1, e1⟩ := hQ1
  have N1 := Fr.app N0 Nq1
  refine oS (fun t k => st1.trans k) ?_
  show oG _ _ _ _ _ _ _ (T1.setTop (mkF m 78 #[.val (.ref (w 7)), .val (.int p1), .val (.int (own_lo p1)), .val (.int (own_up p1)), .val (.int (own_dg p1)), .val (.int (own_gr p1))] [(.int 5)]))
  try clear st1
  refine oS (fun t k => XS.tswIn X1.here hx rfl (pc0 := 78) (pc' := 232) rfl (hb hby d3_78) (i := (5 : Int32)) rfl (by decide) (o := 154) rfl (by decide) (by decide) k) ?_
  refine oS (fun t k => XS.iload X1.here hx rfl (hb hby d3_232) rfl k) ?_
  refine oS (fun t k => XS.goto X1.here hx rfl (pc0 := 234) (pc' := 350) rfl (hb hby d3_234) (by decide) (by decide) k) ?_
  show oG _ _ _ _ _ _ _ (T1.setTop (mkF m 350 #[.val (.ref (w 7)), .val (.int p1), .val (.int (own_lo p1)), .val (.int (own_up p1)), .val (.int (own_dg p1)), .val (.int (own_gr p1))] [(.int (own_gr p1))]))
  exact own_ret (v := some (.int (nar .boolean (own_gr p1)))) X1 (fun h => by rw [Bd.returns] at h; cases h) Bd.notSynchronized (fun fs hr => retN X1 hx (t := .boolean) Bd.returns (by simp) (hb hby d3_350) hr) (by rw [e1]; exact ⟨(congrArg (fun z => some (Value.int z)) (own_all (P := fun c => (nar .boolean (own_gr c)) = (own_in (5 : Int32) c)) p1 hlo hhi (by decide +kernel))), N1, rfl⟩) (by decide) (by decide)
def Q_ord_LOWER (Z : State)  (w : Nat → Addr) (h0 : Heap) (n0 : Nat) (v : Option Value) (h : Heap) (L : List Loc) : Prop := v = some (.int 6) ∧ Fr n0 L ∧ h = h0
set_option maxRecDepth 65536 in
set_option maxHeartbeats 40000000 in
theorem rm_ord_LOWER (l : Launch) (Z : State) (a0 : Array Value) (hw : ∀ d ∈ tables_1, d.before a0 Z = true) (ws : List Jvm.Cond)  (w : Nat → Addr) (h0 : Heap) (n0 : Nat) (O0 : Old Z n0 h0) (W : own_World Z w) :
    MetFree l mY2 (head1 (Jvm.Cond.code mY2 jdk_37_method_2_code 1 (some .int) :: ws) ({ frames := 0, cells := 0, slots := 0, locals := 0 } : Room)) (fun a U => a = #[(.ref (w 10))] ∧ Z.Warmed39 U.vm ∧ U.heap = h0) (fun _ _ _ _ _ => True) (fun _ U o U' => ∃ v L, o = .returned v ∧ Q_ord_LOWER Z  w h0 n0 v U'.heap L ∧ FrameEnd U o U' L ({ frames := 0, cells := 0, slots := 0, locals := 0 } : Room).cells ({ frames := 0, cells := 0, slots := 0, locals := 0 } : Room).slots) := by
  refine MetFree.of_bodySF (plainFor_of_name pn_1) hisR ?_
  intro p e s m args below meth c s₁ Bd hml0 hP hK
  obtain ⟨rfl, hZ, hh⟩ := hP
  have hx := Bd.exec
  have hby := Bd.bytes
  have hml : c.maxLocals = 1 := hml0
  have hown : s.vm.findClass "java/lang/Enum" = some m.cls := findClass_of_methodNamed Bd.named
  have hnm := (name_of_methodNamed Bd.named Bd.method).1
  have X0 : Stand p l e ({ frames := 0, cells := 0, slots := 0, locals := 0 } : Room) s m #[(.ref (w 10))] below meth c s₁ [] 0 0 := Stand.of_body Bd
  have e0 : s₁.heap = h0 := by rw [← hh, Bd.state]; rfl
  have N0 := Fr.nil n0
  show oG p e below s (Q_ord_LOWER Z  w h0 n0) ({ frames := 0, cells := 0, slots := 0, locals := 0 } : Room).cells ({ frames := 0, cells := 0, slots := 0, locals := 0 } : Room).slots _
  refine oS (fun t k => castTop (ef_4_r m (w 10)) k) ?_
  show oG _ _ _ _ _ _ _ (s₁.setTop (mkF m 0 #[.val (.ref (w 10))] []))
  refine oS (fun t k => XS.aloadN X0.here hx rfl (hb hby d4_0) rfl rfl k) ?_
  obtain ⟨T1, X1, e1, st1⟩ := getF X0 hx hZ hown (host := "") (Or.inl (oW hw 23 rfl)) Via.refl e0 ((wF10_ordinal W).ext O0.2) (g := (mkF m 1 #[.val (.ref (w 10))] [(.ref (w 10))])) rfl rfl (hb hby d4_1)
  refine oS (fun t k => st1 t k) ?_
  try clear st1
  exact own_ret (v := some (.int 6)) X1 (fun h => by rw [Bd.returns] at h; cases h) Bd.notSynchronized (fun fs hr => retOut X1 hx (t := .int) Bd.returns rfl (Or.inl ⟨rfl, Or.inl rfl, _, rfl⟩) (hb hby d4_4) hr) (by rw [e1]; exact ⟨rfl, N0, rfl⟩) (by decide) (by decide)
theorem d3_237 : decode prog_6_method_5_code 237 = .ok (.iload_n 2, 1) := by decide +kernel
theorem d3_238 : decode prog_6_method_5_code 238 = .ok (.goto 112, 3) := by decide +kernel
def Q_con_LOWER (Z : State) (p1 : Int32) (w : Nat → Addr) (h0 : Heap) (n0 : Nat) (v : Option Value) (h : Heap) (L : List Loc) : Prop := v = some (.int (own_in (6 : Int32) p1)) ∧ Fr n0 L ∧ h = h0
set_option maxRecDepth 65536 in
set_option maxHeartbeats 40000000 in
theorem rm_con_LOWER (l : Launch) (Z : State) (a0 : Array Value) (hw : ∀ d ∈ tables_1, d.before a0 Z = true) (ws : List Jvm.Cond) (p1 : Int32) (w : Nat → Addr) (h0 : Heap) (n0 : Nat) (O0 : Old Z n0 h0) (W : own_World Z w) (hlo : ¬ (p1 < (0 : Int32))) (hhi : p1 < (256 : Int32)) :
    MetFree l mY4 (head1 (Jvm.Cond.code mY4 prog_6_method_5_code 6 (some .boolean) :: ws) ({ frames := 1, cells := 0, slots := 0, locals := 12 } : Room)) (fun a U => a = #[(.ref (w 10)), (.int p1)] ∧ Z.Warmed39 U.vm ∧ U.heap = h0) (fun _ _ _ _ _ => True) (fun _ U o U' => ∃ v L, o = .returned v ∧ Q_con_LOWER Z p1 w h0 n0 v U'.heap L ∧ FrameEnd U o U' L ({ frames := 1, cells := 0, slots := 0, locals := 12 } : Room).cells ({ frames := 1, cells := 0, slots := 0, locals := 12 } : Room).slots) := by
  refine MetFree.of_bodySF (plainFor_of_name pn_2) hisR ?_
  intro p e s m args below meth c s₁ Bd hml0 hP hK
  obtain ⟨rfl, hZ, hh⟩ := hP
  have hx := Bd.exec
  have hby := Bd.bytes
  have hml : c.maxLocals = 6 := hml0
  have hown : s.vm.findClass "com/example/lamassu/lamassu/builtin/CharClass" = some m.cls := findClass_of_methodNamed Bd.named
  have hnm := (name_of_methodNamed Bd.named Bd.method).1
  have X0 : Stand p l e ({ frames := 1, cells := 0, slots := 0, locals := 12 } : Room) s m #[(.ref (w 10)), (.int p1)] below meth c s₁ [] 0 0 := Stand.of_body Bd
  have e0 : s₁.heap = h0 := by rw [← hh, Bd.state]; rfl
  have N0 := Fr.nil n0
  show oG p e below s (Q_con_LOWER Z p1 w h0 n0) ({ frames := 1, cells := 0, slots := 0, locals := 12 } : Room).cells ({ frames := 1, cells := 0, slots := 0, locals := 12 } : Room).slots _
  refine oS (fun t k => castTop (ef_3_ri m (w 10) p1) k) ?_
  show oG _ _ _ _ _ _ _ (s₁.setTop (mkF m 0 #[.val (.ref (w 10)), .val (.int p1), .unset, .unset, .unset, .unset] []))
  suffices cut : oG p e below s (Q_con_LOWER Z p1 w h0 n0) ({ frames := 1, cells := 0, slots := 0, locals := 12 } : Room).cells ({ frames := 1, cells := 0, slots := 0, locals := 12 } : Room).slots (s₁.setTop (mkF m 18 #[.val (.ref (w 10)), .val (.int p1), .val (.int (own_lo p1)), .unset, .unset, .unset] [])) by
    refine oS (fun t k => XS.iloadN X0.here hx rfl (hb hby d3_0) rfl k) ?_
    refine oS (fun t k => oBp lb_97 X0.here hx rfl (hb hby d3_1) k) ?_
    by_cases hc3 : p1 < (97 : Int32)
    · refine oS (fun t k => XS.icmpYes X0.here hx rfl (pc0 := 3) (pc' := 16) rfl (hb hby d3_3) rfl (tlt hc3).1 (by decide) (by decide) k) ?_
      show oG _ _ _ _ _ _ _ (s₁.setTop (mkF m 16 #[.val (.ref (w 10)), .val (.int p1), .unset, .unset, .unset, .unset] []))
      refine oS (fun t k => oIc li_0 X0.here hx rfl (hb hby d3_16) k) ?_
      refine oS (fun t k => XS.istoreN X0.here hx rfl (hb hby d3_17) rfl (l' := #[.val (.ref (w 10)), .val (.int p1), .val (.int 0), .unset, .unset, .unset]) rfl k) ?_
      have ej0 : (own_lo p1) = (0 : Int32) := (by simp only [own_lo, if_pos hc3])
      rw [ej0] at cut
      exact cut
    · refine oS (fun t k => XS.icmpNo X0.here hx rfl (hb hby d3_3) rfl (flt hc3).1 k) ?_
      show oG _ _ _ _ _ _ _ (s₁.setTop (mkF m 6 #[.val (.ref (w 10)), .val (.int p1), .unset, .unset, .unset, .unset] []))
      refine oS (fun t k => XS.iloadN X0.here hx rfl (hb hby d3_6) rfl k) ?_
      refine oS (fun t k => oBp lb_122 X0.here hx rfl (hb hby d3_7) k) ?_
      by_cases hc9 : (122 : Int32) < p1
      · refine oS (fun t k => XS.icmpYes X0.here hx rfl (pc0 := 9) (pc' := 16) rfl (hb hby d3_9) rfl (tlt hc9).2.2.1 (by decide) (by decide) k) ?_
        show oG _ _ _ _ _ _ _ (s₁.setTop (mkF m 16 #[.val (.ref (w 10)), .val (.int p1), .unset, .unset, .unset, .unset] []))
        refine oS (fun t k => oIc li_0 X0.here hx rfl (hb hby d3_16) k) ?_
        refine oS (fun t k => XS.istoreN X0.here hx rfl (hb hby d3_17) rfl (l' := #[.val (.ref (w 10)), .val (.int p1), .val (.int 0), .unset, .unset, .unset]) rfl k) ?_
        have ej0 : (own_lo p1) = (0 : Int32) := (by simp only [own_lo, if_neg hc3, if_pos hc9])
        rw [ej0] at cut
        exact cut
      · refine oS (fun t k => XS.icmpNo X0.here hx rfl (hb hby d3_9) rfl (flt hc9).2.2.1 k) ?_
        show oG _ _ _ _ _ _ _ (s₁.setTop (mkF m 12 #[.val (.ref (w 10)), .val (.int p1), .unset, .unset, .unset, .unset] []))
        refine oS (fun t k => oIc li_1 X0.here hx rfl (hb hby d3_12) k) ?_
        refine oS (fun t k => XS.goto X0.here hx rfl (pc0 := 13) (pc' := 17) rfl (hb hby d3_13) (by decide) (by decide) k) ?_
        refine oS (fun t k => XS.istoreN X0.here hx rfl (hb hby d3_17) rfl (l' := #[.val (.ref (w 10)), .val (.int p1), .val (.int 1), .unset, .unset, .unset]) rfl k) ?_
        show oG _ _ _ _ _ _ _ (s₁.setTop (mkF m 18 #[.val (.ref (w 10)), .val (.int p1), .val (.int 1), .unset, .unset, .unset] []))
        have ej0 : (own_lo p1) = (1 : Int32) := (by simp only [own_lo, if_neg hc3, if_neg hc9])
        rw [ej0] at cut
        exact cut
  suffices cut : oG p e below s (Q_con_LOWER Z p1 w h0 n0) ({ frames := 1, cells := 0, slots := 0, locals := 12 } : Room).cells ({ frames := 1, cells := 0, slots := 0, locals := 12 } : Room).slots (s₁.setTop (mkF m 36 #[.val (.ref (w 10)), .val (.int p1), .val (.int (own_lo p1)), .val (.int (own_up p1)), .unset, .unset] [])) by
    refine oS (fun t k => XS.iloadN X0.here hx rfl (hb hby d3_18) rfl k) ?_
    refine oS (fun t k => oBp lb_65 X0.here hx rfl (hb hby d3_19) k) ?_
    by_cases hc21 : p1 < (65 : Int32)
    · refine oS (fun t k => XS.icmpYes X0.here hx rfl (pc0 := 21) (pc' := 34) rfl (hb hby d3_21) rfl (tlt hc21).1 (by decide) (by decide) k) ?_
      show oG _ _ _ _ _ _ _ (s₁.setTop (mkF m 34 #[.val (.ref (w 10)), .val (.int p1), .val (.int (own_lo p1)), .unset, .unset, .unset] []))
      refine oS (fun t k => oIc li_0 X0.here hx rfl (hb hby d3_34) k) ?_
      refine oS (fun t k => XS.istoreN X0.here hx rfl (hb hby d3_35) rfl (l' := #[.val (.ref (w 10)), .val (.int p1), .val (.int (own_lo p1)), .val (.int 0), .unset, .unset]) rfl k) ?_
      have ej0 : (own_up p1) = (0 : Int32) := (by simp only [own_up, if_pos hc21])
      rw [ej0] at cut
      exact cut
    · refine oS (fun t k => XS.icmpNo X0.here hx rfl (hb hby d3_21) rfl (flt hc21).1 k) ?_
      show oG _ _ _ _ _ _ _ (s₁.setTop (mkF m 24 #[.val (.ref (w 10)), .val (.int p1), .val (.int (own_lo p1)), .unset, .unset, .unset] []))
      refine oS (fun t k => XS.iloadN X0.here hx rfl (hb hby d3_24) rfl k) ?_
      refine oS (fun t k => oBp lb_90 X0.here hx rfl (hb hby d3_25) k) ?_
      by_cases hc27 : (90 : Int32) < p1
      · refine oS (fun t k => XS.icmpYes X0.here hx rfl (pc0 := 27) (pc' := 34) rfl (hb hby d3_27) rfl (tlt hc27).2.2.1 (by decide) (by decide) k) ?_
        show oG _ _ _ _ _ _ _ (s₁.setTop (mkF m 34 #[.val (.ref (w 10)), .val (.int p1), .val (.int (own_lo p1)), .unset, .unset, .unset] []))
        refine oS (fun t k => oIc li_0 X0.here hx rfl (hb hby d3_34) k) ?_
        refine oS (fun t k => XS.istoreN X0.here hx rfl (hb hby d3_35) rfl (l' := #[.val (.ref (w 10)), .val (.int p1), .val (.int (own_lo p1)), .val (.int 0), .unset, .unset]) rfl k) ?_
        have ej0 : (own_up p1) = (0 : Int32) := (by simp only [own_up, if_neg hc21, if_pos hc27])
        rw [ej0] at cut
        exact cut
      · refine oS (fun t k => XS.icmpNo X0.here hx rfl (hb hby d3_27) rfl (flt hc27).2.2.1 k) ?_
        show oG _ _ _ _ _ _ _ (s₁.setTop (mkF m 30 #[.val (.ref (w 10)), .val (.int p1), .val (.int (own_lo p1)), .unset, .unset, .unset] []))
        refine oS (fun t k => oIc li_1 X0.here hx rfl (hb hby d3_30) k) ?_
        refine oS (fun t k => XS.goto X0.here hx rfl (pc0 := 31) (pc' := 35) rfl (hb hby d3_31) (by decide) (by decide) k) ?_
        refine oS (fun t k => XS.istoreN X0.here hx rfl (hb hby d3_35) rfl (l' := #[.val (.ref (w 10)), .val (.int p1), .val (.int (own_lo p1)), .val (.int 1), .unset, .unset]) rfl k) ?_
        show oG _ _ _ _ _ _ _ (s₁.setTop (mkF m 36 #[.val (.ref (w 10)), .val (.int p1), .val (.int (own_lo p1)), .val (.int 1), .unset, .unset] []))
        have ej0 : (own_up p1) = (1 : Int32) := (by simp only [own_up, if_neg hc21, if_neg hc27])
        rw [ej0] at cut
        exact cut
  suffices cut : oG p e below s (Q_con_LOWER Z p1 w h0 n0) ({ frames := 1, cells := 0, slots := 0, locals := 12 } : Room).cells ({ frames := 1, cells := 0, slots := 0, locals := 12 } : Room).slots (s₁.setTop (mkF m 55 #[.val (.ref (w 10)), .val (.int p1), .val (.int (own_lo p1)), .val (.int (own_up p1)), .val (.int (own_dg p1)), .unset] [])) by
    refine oS (fun t k => XS.iloadN X0.here hx rfl (hb hby d3_36) rfl k) ?_
    refine oS (fun t k => oBp lb_48 X0.here hx rfl (hb hby d3_37) k) ?_
    by_cases hc39 : p1 < (48 : Int32)
    · refine oS (fun t k => XS.icmpYes X0.here hx rfl (pc0 := 39) (pc' := 52) rfl (hb hby d3_39) rfl (tlt hc39).1 (by decide) (by decide) k) ?_
      show oG _ _ _ _ _ _ _ (s₁.setTop (mkF m 52 #[.val (.ref (w 10)), .val (.int p1), .val (.int (own_lo p1)), .val (.int (own_up p1)), .unset, .unset] []))
      refine oS (fun t k => oIc li_0 X0.here hx rfl (hb hby d3_52) k) ?_
      refine oS (fun t k => XS.istore X0.here hx rfl (hb hby d3_53) rfl (l' := #[.val (.ref (w 10)), .val (.int p1), .val (.int (own_lo p1)), .val (.int (own_up p1)), .val (.int 0), .unset]) rfl k) ?_
      have ej0 : (own_dg p1) = (0 : Int32) := (by simp only [own_dg, if_pos hc39])
      rw [ej0] at cut
      exact cut
    · refine oS (fun t k => XS.icmpNo X0.here hx rfl (hb hby d3_39) rfl (flt hc39).1 k) ?_
      show oG _ _ _ _ _ _ _ (s₁.setTop (mkF m 42 #[.val (.ref (w 10)), .val (.int p1), .val (.int (own_lo p1)), .val (.int (own_up p1)), .unset, .unset] []))
      refine oS (fun t k => XS.iloadN X0.here hx rfl (hb hby d3_42) rfl k) ?_
      refine oS (fun t k => oBp lb_57 X0.here hx rfl (hb hby d3_43) k) ?_
      by_cases hc45 : (57 : Int32) < p1
      · refine oS (fun t k => XS.icmpYes X0.here hx rfl (pc0 := 45) (pc' := 52) rfl (hb hby d3_45) rfl (tlt hc45).2.2.1 (by decide) (by decide) k) ?_
        show oG _ _ _ _ _ _ _ (s₁.setTop (mkF m 52 #[.val (.ref (w 10)), .val (.int p1), .val (.int (own_lo p1)), .val (.int (own_up p1)), .unset, .unset] []))
        refine oS (fun t k => oIc li_0 X0.here hx rfl (hb hby d3_52) k) ?_
        refine oS (fun t k => XS.istore X0.here hx rfl (hb hby d3_53) rfl (l' := #[.val (.ref (w 10)), .val (.int p1), .val (.int (own_lo p1)), .val (.int (own_up p1)), .val (.int 0), .unset]) rfl k) ?_
        have ej0 : (own_dg p1) = (0 : Int32) := (by simp only [own_dg, if_neg hc39, if_pos hc45])
        rw [ej0] at cut
        exact cut
      · refine oS (fun t k => XS.icmpNo X0.here hx rfl (hb hby d3_45) rfl (flt hc45).2.2.1 k) ?_
        show oG _ _ _ _ _ _ _ (s₁.setTop (mkF m 48 #[.val (.ref (w 10)), .val (.int p1), .val (.int (own_lo p1)), .val (.int (own_up p1)), .unset, .unset] []))
        refine oS (fun t k => oIc li_1 X0.here hx rfl (hb hby d3_48) k) ?_
        refine oS (fun t k => XS.goto X0.here hx rfl (pc0 := 49) (pc' := 53) rfl (hb hby d3_49) (by decide) (by decide) k) ?_
        refine oS (fun t k => XS.istore X0.here hx rfl (hb hby d3_53) rfl (l' := #[.val (.ref (w 10)), .val (.int p1), .val (.int (own_lo p1)), .val (.int (own_up p1)), .val (.int 1), .unset]) rfl k) ?_
        show oG _ _ _ _ _ _ _ (s₁.setTop (mkF m 55 #[.val (.ref (w 10)), .val (.int p1), .val (.int (own_lo p1)), .val (.int (own_up p1)), .val (.int 1), .unset] []))
        have ej0 : (own_dg p1) = (1 : Int32) := (by simp only [own_dg, if_neg hc39, if_neg hc45])
        rw [ej0] at cut
        exact cut
  suffices cut : oG p e below s (Q_con_LOWER Z p1 w h0 n0) ({ frames := 1, cells := 0, slots := 0, locals := 12 } : Room).cells ({ frames := 1, cells := 0, slots := 0, locals := 12 } : Room).slots (s₁.setTop (mkF m 74 #[.val (.ref (w 10)), .val (.int p1), .val (.int (own_lo p1)), .val (.int (own_up p1)), .val (.int (own_dg p1)), .val (.int (own_gr p1))] [])) by
    refine oS (fun t k => XS.iloadN X0.here hx rfl (hb hby d3_55) rfl k) ?_
    refine oS (fun t k => oBp lb_32 X0.here hx rfl (hb hby d3_56) k) ?_
    by_cases hc58 : (32 : Int32) < p1
    · refine oS (fun t k => XS.icmpNo X0.here hx rfl (hb hby d3_58) rfl (tlt hc58).2.2.2 k) ?_
      show oG _ _ _ _ _ _ _ (s₁.setTop (mkF m 61 #[.val (.ref (w 10)), .val (.int p1), .val (.int (own_lo p1)), .val (.int (own_up p1)), .val (.int (own_dg p1)), .unset] []))
      refine oS (fun t k => XS.iloadN X0.here hx rfl (hb hby d3_61) rfl k) ?_
      refine oS (fun t k => oBp lb_127 X0.here hx rfl (hb hby d3_62) k) ?_
      by_cases hc64 : p1 < (127 : Int32)
      · refine oS (fun t k => XS.icmpNo X0.here hx rfl (hb hby d3_64) rfl (tlt hc64).2.1 k) ?_
        show oG _ _ _ _ _ _ _ (s₁.setTop (mkF m 67 #[.val (.ref (w 10)), .val (.int p1), .val (.int (own_lo p1)), .val (.int (own_up p1)), .val (.int (own_dg p1)), .unset] []))
        refine oS (fun t k => oIc li_1 X0.here hx rfl (hb hby d3_67) k) ?_
        refine oS (fun t k => XS.goto X0.here hx rfl (pc0 := 68) (pc' := 72) rfl (hb hby d3_68) (by decide) (by decide) k) ?_
        refine oS (fun t k => XS.istore X0.here hx rfl (hb hby d3_72) rfl (l' := #[.val (.ref (w 10)), .val (.int p1), .val (.int (own_lo p1)), .val (.int (own_up p1)), .val (.int (own_dg p1)), .val (.int 1)]) rfl k) ?_
        show oG _ _ _ _ _ _ _ (s₁.setTop (mkF m 74 #[.val (.ref (w 10)), .val (.int p1), .val (.int (own_lo p1)), .val (.int (own_up p1)), .val (.int (own_dg p1)), .val (.int 1)] []))
        have ej0 : (own_gr p1) = (1 : Int32) := (by simp only [own_gr, if_pos hc58, if_pos hc64])
        rw [ej0] at cut
        exact cut
      · refine oS (fun t k => XS.icmpYes X0.here hx rfl (pc0 := 64) (pc' := 71) rfl (hb hby d3_64) rfl (flt hc64).2.1 (by decide) (by decide) k) ?_
        show oG _ _ _ _ _ _ _ (s₁.setTop (mkF m 71 #[.val (.ref (w 10)), .val (.int p1), .val (.int (own_lo p1)), .val (.int (own_up p1)), .val (.int (own_dg p1)), .unset] []))
        refine oS (fun t k => oIc li_0 X0.here hx rfl (hb hby d3_71) k) ?_
        refine oS (fun t k => XS.istore X0.here hx rfl (hb hby d3_72) rfl (l' := #[.val (.ref (w 10)), .val (.int p1), .val (.int (own_lo p1)), .val (.int (own_up p1)), .val (.int (own_dg p1)), .val (.int 0)]) rfl k) ?_
        have ej0 : (own_gr p1) = (0 : Int32) := (by simp only [own_gr, if_pos hc58, if_neg hc64])
        rw [ej0] at cut
        exact cut
    · refine oS (fun t k => XS.icmpYes X0.here hx rfl (pc0 := 58) (pc' := 71) rfl (hb hby d3_58) rfl (flt hc58).2.2.2 (by decide) (by decide) k) ?_
      show oG _ _ _ _ _ _ _ (s₁.setTop (mkF m 71 #[.val (.ref (w 10)), .val (.int p1), .val (.int (own_lo p1)), .val (.int (own_up p1)), .val (.int (own_dg p1)), .unset] []))
      refine oS (fun t k => oIc li_0 X0.here hx rfl (hb hby d3_71) k) ?_
      refine oS (fun t k => XS.istore X0.here hx rfl (hb hby d3_72) rfl (l' := #[.val (.ref (w 10)), .val (.int p1), .val (.int (own_lo p1)), .val (.int (own_up p1)), .val (.int (own_dg p1)), .val (.int 0)]) rfl k) ?_
      have ej0 : (own_gr p1) = (0 : Int32) := (by simp only [own_gr, if_neg hc58])
      rw [ej0] at cut
      exact cut
  refine oS (fun t k => XS.aloadN X0.here hx rfl (hb hby d3_74) rfl rfl k) ?_
  obtain ⟨cq1, kq1, q1a, q1b, q1c⟩ := isOf hZ e0 ((wE10 W).ext O0.2)
  obtain ⟨_, _, ⟨T1, L1, k1, n1⟩, -, X1, ⟨Lc1, hQ1, l1, y1, z1⟩, st1⟩ := X0.virtualBackUp hx (x := mY3) (y := mY2) hown (mvT hZ (oW hw 16 rfl)) (mvT hZ (oW hw 17 rfl)) (mvT hZ (oW hw 18 rfl)) (by decide) (mvT hZ (oW hw 20 rfl)) (mvT hZ (oW hw 19 rfl)) (backOf (W := 0) (rm_ord_LOWER l Z a0 hw []  w h0 n0 O0 W ) hZ (oW hw 22 rfl) (oW hw 21 rfl) (by decide) (by decide)) q1a q1c (g := (mkF m 75 #[.val (.ref (w 10)), .val (.int p1), .val (.int (own_lo p1)), .val (.int (own_up p1)), .val (.int (own_dg p1)), .val (.int (own_gr p1))] [(.ref (w 10))])) rfl (by rw [hml]; rfl) (Steps.refl _) (argsL := []) (rest := []) (lenOf pd_0 rfl) rfl (by show 2 * 0 + _ ≤ _; exact Nat.le_of_eq rfl) (hb hby d3_75) (fun _ _ => ⟨rfl, e0, (by decide : 0 + 0 ≤ _), (by decide : 0 + 0 ≤ _)⟩)
  dsimp only [Pt.U, Pt.locs, Pt.cells, Pt.slots] at X1 l1 y1 z1 st1 hQ1
  subst l1 y1 z1
  obtain ⟨rfl, Nq1, e1⟩ := hQ1
  have N1 := Fr.app N0 Nq1
  refine oS (fun t k => st1.trans k) ?_
  show oG _ _ _ _ _ _ _ (T1.setTop (mkF m 78 #[.val (.ref (w 10)), .val (.int p1), .val (.int (own_lo p1)), .val (.int (own_up p1)), .val (.int (own_dg p1)), .val (.int (own_gr p1))] [(.int 6)]))
  try clear st1
  refine oS (fun t k => XS.tswIn X1.here hx rfl (pc0 := 78) (pc' := 237) rfl (hb hby d3_78) (i := (6 : Int32)) rfl (by decide) (o := 159) rfl (by decide) (by decide) k) ?_
  refine oS (fun t k => XS.iloadN X1.here hx rfl (hb hby d3_237) rfl k) ?_
  refine oS (fun t k => XS.goto X1.here hx rfl (pc0 := 238) (pc' := 350) rfl (hb hby d3_238) (by decide) (by decide) k) ?_
  show oG _ _ _ _ _ _ _ (T1.setTop (mkF m 350 #[.val (.ref (w 10)), .val (.int p1), .val (.int (own_lo p1)), .val (.int (own_up p1)), .val (.int (own_dg p1)), .val (.int (own_gr p1))] [(.int (own_lo p1))]))
  exact own_ret (v := some (.int (nar .boolean (own_lo p1)))) X1 (fun h => by rw [Bd.returns] at h; cases h) Bd.notSynchronized (fun fs hr => retN X1 hx (t := .boolean) Bd.returns (by simp) (hb hby d3_350) hr) (by rw [e1]; exact ⟨(congrArg (fun z => some (Value.int z)) (own_all (P := fun c => (nar .boolean (own_lo c)) = (own_in (6 : Int32) c)) p1 hlo hhi (by decide +kernel))), N1, rfl⟩) (by decide) (by decide)
def Q_ord_PRINT (Z : State)  (w : Nat → Addr) (h0 : Heap) (n0 : Nat) (v : Option Value) (h : Heap) (L : List Loc) : Prop := v = some (.int 7) ∧ Fr n0 L ∧ h = h0
set_option maxRecDepth 65536 in
set_option maxHeartbeats 40000000 in
theorem rm_ord_PRINT (l : Launch) (Z : State) (a0 : Array Value) (hw : ∀ d ∈ tables_1, d.before a0 Z = true) (ws : List Jvm.Cond)  (w : Nat → Addr) (h0 : Heap) (n0 : Nat) (O0 : Old Z n0 h0) (W : own_World Z w) :
    MetFree l mY2 (head1 (Jvm.Cond.code mY2 jdk_37_method_2_code 1 (some .int) :: ws) ({ frames := 0, cells := 0, slots := 0, locals := 0 } : Room)) (fun a U => a = #[(.ref (w 6))] ∧ Z.Warmed39 U.vm ∧ U.heap = h0) (fun _ _ _ _ _ => True) (fun _ U o U' => ∃ v L, o = .returned v ∧ Q_ord_PRINT Z  w h0 n0 v U'.heap L ∧ FrameEnd U o U' L ({ frames := 0, cells := 0, slots := 0, locals := 0 } : Room).cells ({ frames := 0, cells := 0, slots := 0, locals := 0 } : Room).slots) := by
  refine MetFree.of_bodySF (plainFor_of_name pn_1) hisR ?_
  intro p e s m args below meth c s₁ Bd hml0 hP hK
  obtain ⟨rfl, hZ, hh⟩ := hP
  have hx := Bd.exec
  have hby := Bd.bytes
  have hml : c.maxLocals = 1 := hml0
  have hown : s.vm.findClass "java/lang/Enum" = some m.cls := findClass_of_methodNamed Bd.named
  have hnm := (name_of_methodNamed Bd.named Bd.method).1
  have X0 : Stand p l e ({ frames := 0, cells := 0, slots := 0, locals := 0 } : Room) s m #[(.ref (w 6))] below meth c s₁ [] 0 0 := Stand.of_body Bd
  have e0 : s₁.heap = h0 := by rw [← hh, Bd.state]; rfl
  have N0 := Fr.nil n0
  show oG p e below s (Q_ord_PRINT Z  w h0 n0) ({ frames := 0, cells := 0, slots := 0, locals := 0 } : Room).cells ({ frames := 0, cells := 0, slots := 0, locals := 0 } : Room).slots _
  refine oS (fun t k => castTop (ef_4_r m (w 6)) k) ?_
  show oG _ _ _ _ _ _ _ (s₁.setTop (mkF m 0 #[.val (.ref (w 6))] []))
  refine oS (fun t k => XS.aloadN X0.here hx rfl (hb hby d4_0) rfl rfl k) ?_
  obtain ⟨T1, X1, e1, st1⟩ := getF X0 hx hZ hown (host := "") (Or.inl (oW hw 23 rfl)) Via.refl e0 ((wF6_ordinal W).ext O0.2) (g := (mkF m 1 #[.val (.ref (w 6))] [(.ref (w 6))])) rfl rfl (hb hby d4_1)
  refine oS (fun t k => st1 t k) ?_
  try clear st1
  exact own_ret (v := some (.int 7)) X1 (fun h => by rw [Bd.returns] at h; cases h) Bd.notSynchronized (fun fs hr => retOut X1 hx (t := .int) Bd.returns rfl (Or.inl ⟨rfl, Or.inl rfl, _, rfl⟩) (hb hby d4_4) hr) (by rw [e1]; exact ⟨rfl, N0, rfl⟩) (by decide) (by decide)
theorem d3_241 : decode prog_6_method_5_code 241 = .ok (.iload 5, 2) := by decide +kernel
theorem d3_243 : decode prog_6_method_5_code 243 = .ok (.ifCond .ne 9, 3) := by decide +kernel
theorem d3_246 : decode prog_6_method_5_code 246 = .ok (.iload_n 1, 1) := by decide +kernel
theorem d3_247 : decode prog_6_method_5_code 247 = .ok (.bipush 32, 2) := by decide +kernel
theorem d3_249 : decode prog_6_method_5_code 249 = .ok (.if_icmp .ne 7, 3) := by decide +kernel
theorem d3_252 : decode prog_6_method_5_code 252 = .ok (.iconst 1, 1) := by decide +kernel
theorem d3_253 : decode prog_6_method_5_code 253 = .ok (.goto 97, 3) := by decide +kernel
theorem d3_256 : decode prog_6_method_5_code 256 = .ok (.iconst 0, 1) := by decide +kernel
theorem d3_257 : decode prog_6_method_5_code 257 = .ok (.goto 93, 3) := by decide +kernel
def Q_con_PRINT (Z : State) (p1 : Int32) (w : Nat → Addr) (h0 : Heap) (n0 : Nat) (v : Option Value) (h : Heap) (L : List Loc) : Prop := v = some (.int (own_in (7 : Int32) p1)) ∧ Fr n0 L ∧ h = h0
set_option maxRecDepth 65536 in
set_option maxHeartbeats 40000000 in
theorem rm_con_PRINT (l : Launch) (Z : State) (a0 : Array Value) (hw : ∀ d ∈ tables_1, d.before a0 Z = true) (ws : List Jvm.Cond) (p1 : Int32) (w : Nat → Addr) (h0 : Heap) (n0 : Nat) (O0 : Old Z n0 h0) (W : own_World Z w) (hlo : ¬ (p1 < (0 : Int32))) (hhi : p1 < (256 : Int32)) :
    MetFree l mY4 (head1 (Jvm.Cond.code mY4 prog_6_method_5_code 6 (some .boolean) :: ws) ({ frames := 1, cells := 0, slots := 0, locals := 12 } : Room)) (fun a U => a = #[(.ref (w 6)), (.int p1)] ∧ Z.Warmed39 U.vm ∧ U.heap = h0) (fun _ _ _ _ _ => True) (fun _ U o U' => ∃ v L, o = .returned v ∧ Q_con_PRINT Z p1 w h0 n0 v U'.heap L ∧ FrameEnd U o U' L ({ frames := 1, cells := 0, slots := 0, locals := 12 } : Room).cells ({ frames := 1, cells := 0, slots := 0, locals := 12 } : Room).slots) := by
  refine MetFree.of_bodySF (plainFor_of_name pn_2) hisR ?_
  intro p e s m args below meth c s₁ Bd hml0 hP hK
  obtain ⟨rfl, hZ, hh⟩ := hP
  have hx := Bd.exec
  have hby := Bd.bytes
  have hml : c.maxLocals = 6 := hml0
  have hown : s.vm.findClass "com/example/lamassu/lamassu/builtin/CharClass" = some m.cls := findClass_of_methodNamed Bd.named
  have hnm := (name_of_methodNamed Bd.named Bd.method).1
  have X0 : Stand p l e ({ frames := 1, cells := 0, slots := 0, locals := 12 } : Room) s m #[(.ref (w 6)), (.int p1)] below meth c s₁ [] 0 0 := Stand.of_body Bd
  have e0 : s₁.heap = h0 := by rw [← hh, Bd.state]; rfl
  have N0 := Fr.nil n0
  show oG p e below s (Q_con_PRINT Z p1 w h0 n0) ({ frames := 1, cells := 0, slots := 0, locals := 12 } : Room).cells ({ frames := 1, cells := 0, slots := 0, locals := 12 } : Room).slots _
  refine oS (fun t k => castTop (ef_3_ri m (w 6) p1) k) ?_
  show oG _ _ _ _ _ _ _ (s₁.setTop (mkF m 0 #[.val (.ref (w 6)), .val (.int p1), .unset, .unset, .unset, .unset] []))
  suffices cut : oG p e below s (Q_con_PRINT Z p1 w h0 n0) ({ frames := 1, cells := 0, slots := 0, locals := 12 } : Room).cells ({ frames := 1, cells := 0, slots := 0, locals := 12 } : Room).slots (s₁.setTop (mkF m 18 #[.val (.ref (w 6)), .val (.int p1), .val (.int (own_lo p1)), .unset, .unset, .unset] [])) by
    refine oS (fun t k => XS.iloadN X0.here hx rfl (hb hby d3_0) rfl k) ?_
    refine oS (fun t k => oBp lb_97 X0.here hx rfl (hb hby d3_1) k) ?_
    by_cases hc3 : p1 < (97 : Int32)
    · refine oS (fun t k => XS.icmpYes X0.here hx rfl (pc0 := 3) (pc' := 16) rfl (hb hby d3_3) rfl (tlt hc3).1 (by decide) (by decide) k) ?_
      show oG _ _ _ _ _ _ _ (s₁.setTop (mkF m 16 #[.val (.ref (w 6)), .val (.int p1), .unset, .unset, .unset, .unset] []))
      refine oS (fun t k => oIc li_0 X0.here hx rfl (hb hby d3_16) k) ?_
      refine oS (fun t k => XS.istoreN X0.here hx rfl (hb hby d3_17) rfl (l' := #[.val (.ref (w 6)), .val (.int p1), .val (.int 0), .unset, .unset, .unset]) rfl k) ?_
      have ej0 : (own_lo p1) = (0 : Int32) := (by simp only [own_lo, if_pos hc3])
      rw [ej0] at cut
      exact cut
    · refine oS (fun t k => XS.icmpNo X0.here hx rfl (hb hby d3_3) rfl (flt hc3).1 k) ?_
      show oG _ _ _ _ _ _ _ (s₁.setTop (mkF m 6 #[.val (.ref (w 6)), .val (.int p1), .unset, .unset, .unset, .unset] []))
      refine oS (fun t k => XS.iloadN X0.here hx rfl (hb hby d3_6) rfl k) ?_
      refine oS (fun t k => oBp lb_122 X0.here hx rfl (hb hby d3_7) k) ?_
      by_cases hc9 : (122 : Int32) < p1
      · refine oS (fun t k => XS.icmpYes X0.here hx rfl (pc0 := 9) (pc' := 16) rfl (hb hby d3_9) rfl (tlt hc9).2.2.1 (by decide) (by decide) k) ?_
        show oG _ _ _ _ _ _ _ (s₁.setTop (mkF m 16 #[.val (.ref (w 6)), .val (.int p1), .unset, .unset, .unset, .unset] []))
        refine oS (fun t k => oIc li_0 X0.here hx rfl (hb hby d3_16) k) ?_
        refine oS (fun t k => XS.istoreN X0.here hx rfl (hb hby d3_17) rfl (l' := #[.val (.ref (w 6)), .val (.int p1), .val (.int 0), .unset, .unset, .unset]) rfl k) ?_
        have ej0 : (own_lo p1) = (0 : Int32) := (by simp only [own_lo, if_neg hc3, if_pos hc9])
        rw [ej0] at cut
        exact cut
      · refine oS (fun t k => XS.icmpNo X0.here hx rfl (hb hby d3_9) rfl (flt hc9).2.2.1 k) ?_
        show oG _ _ _ _ _ _ _ (s₁.setTop (mkF m 12 #[.val (.ref (w 6)), .val (.int p1), .unset, .unset, .unset, .unset] []))
        refine oS (fun t k => oIc li_1 X0.here hx rfl (hb hby d3_12) k) ?_
        refine oS (fun t k => XS.goto X0.here hx rfl (pc0 := 13) (pc' := 17) rfl (hb hby d3_13) (by decide) (by decide) k) ?_
        refine oS (fun t k => XS.istoreN X0.here hx rfl (hb hby d3_17) rfl (l' := #[.val (.ref (w 6)), .val (.int p1), .val (.int 1), .unset, .unset, .unset]) rfl k) ?_
        show oG _ _ _ _ _ _ _ (s₁.setTop (mkF m 18 #[.val (.ref (w 6)), .val (.int p1), .val (.int 1), .unset, .unset, .unset] []))
        have ej0 : (own_lo p1) = (1 : Int32) := (by simp only [own_lo, if_neg hc3, if_neg hc9])
        rw [ej0] at cut
        exact cut
  suffices cut : oG p e below s (Q_con_PRINT Z p1 w h0 n0) ({ frames := 1, cells := 0, slots := 0, locals := 12 } : Room).cells ({ frames := 1, cells := 0, slots := 0, locals := 12 } : Room).slots (s₁.setTop (mkF m 36 #[.val (.ref (w 6)), .val (.int p1), .val (.int (own_lo p1)), .val (.int (own_up p1)), .unset, .unset] [])) by
    refine oS (fun t k => XS.iloadN X0.here hx rfl (hb hby d3_18) rfl k) ?_
    refine oS (fun t k => oBp lb_65 X0.here hx rfl (hb hby d3_19) k) ?_
    by_cases hc21 : p1 < (65 : Int32)
    · refine oS (fun t k => XS.icmpYes X0.here hx rfl (pc0 := 21) (pc' := 34) rfl (hb hby d3_21) rfl (tlt hc21).1 (by decide) (by decide) k) ?_
      show oG _ _ _ _ _ _ _ (s₁.setTop (mkF m 34 #[.val (.ref (w 6)), .val (.int p1), .val (.int (own_lo p1)), .unset, .unset, .unset] []))
      refine oS (fun t k => oIc li_0 X0.here hx rfl (hb hby d3_34) k) ?_
      refine oS (fun t k => XS.istoreN X0.here hx rfl (hb hby d3_35) rfl (l' := #[.val (.ref (w 6)), .val (.int p1), .val (.int (own_lo p1)), .val (.int 0), .unset, .unset]) rfl k) ?_
      have ej0 : (own_up p1) = (0 : Int32) := (by simp only [own_up, if_pos hc21])
      rw [ej0] at cut
      exact cut
    · refine oS (fun t k => XS.icmpNo X0.here hx rfl (hb hby d3_21) rfl (flt hc21).1 k) ?_
      show oG _ _ _ _ _ _ _ (s₁.setTop (mkF m 24 #[.val (.ref (w 6)), .val (.int p1), .val (.int (own_lo p1)), .unset, .unset, .unset] []))
      refine oS (fun t k => XS.iloadN X0.here hx rfl (hb hby d3_24) rfl k) ?_
      refine oS (fun t k => oBp lb_90 X0.here hx rfl (hb hby d3_25) k) ?_
      by_cases hc27 : (90 : Int32) < p1
      · refine oS (fun t k => XS.icmpYes X0.here hx rfl (pc0 := 27) (pc' := 34) rfl (hb hby d3_27) rfl (tlt hc27).2.2.1 (by decide) (by decide) k) ?_
        show oG _ _ _ _ _ _ _ (s₁.setTop (mkF m 34 #[.val (.ref (w 6)), .val (.int p1), .val (.int (own_lo p1)), .unset, .unset, .unset] []))
        refine oS (fun t k => oIc li_0 X0.here hx rfl (hb hby d3_34) k) ?_
        refine oS (fun t k => XS.istoreN X0.here hx rfl (hb hby d3_35) rfl (l' := #[.val (.ref (w 6)), .val (.int p1), .val (.int (own_lo p1)), .val (.int 0), .unset, .unset]) rfl k) ?_
        have ej0 : (own_up p1) = (0 : Int32) := (by simp only [own_up, if_neg hc21, if_pos hc27])
        rw [ej0] at cut
        exact cut
      · refine oS (fun t k => XS.icmpNo X0.here hx rfl (hb hby d3_27) rfl (flt hc27).2.2.1 k) ?_
        show oG _ _ _ _ _ _ _ (s₁.setTop (mkF m 30 #[.val (.ref (w 6)), .val (.int p1), .val (.int (own_lo p1)), .unset, .unset, .unset] []))
        refine oS (fun t k => oIc li_1 X0.here hx rfl (hb hby d3_30) k) ?_
        refine oS (fun t k => XS.goto X0.here hx rfl (pc0 := 31) (pc' := 35) rfl (hb hby d3_31) (by decide) (by decide) k) ?_
        refine oS (fun t k => XS.istoreN X0.here hx rfl (hb hby d3_35) rfl (l' := #[.val (.ref (w 6)), .val (.int p1), .val (.int (own_lo p1)), .val (.int 1), .unset, .unset]) rfl k) ?_
        show oG _ _ _ _ _ _ _ (s₁.setTop (mkF m 36 #[.val (.ref (w 6)), .val (.int p1), .val (.int (own_lo p1)), .val (.int 1), .unset, .unset] []))
        have ej0 : (own_up p1) = (1 : Int32) := (by simp only [own_up, if_neg hc21, if_neg hc27])
        rw [ej0] at cut
        exact cut
  suffices cut : oG p e below s (Q_con_PRINT Z p1 w h0 n0) ({ frames := 1, cells := 0, slots := 0, locals := 12 } : Room).cells ({ frames := 1, cells := 0, slots := 0, locals := 12 } : Room).slots (s₁.setTop (mkF m 55 #[.val (.ref (w 6)), .val (.int p1), .val (.int (own_lo p1)), .val (.int (own_up p1)), .val (.int (own_dg p1)), .unset] [])) by
    refine oS (fun t k => XS.iloadN X0.here hx rfl (hb hby d3_36) rfl k) ?_
    refine oS (fun t k => oBp lb_48 X0.here hx rfl (hb hby d3_37) k) ?_
    by_cases hc39 : p1 < (48 : Int32)
    · refine oS (fun t k => XS.icmpYes X0.here hx rfl (pc0 := 39) (pc' := 52) rfl (hb hby d3_39) rfl (tlt hc39).1 (by decide) (by decide) k) ?_
      show oG _ _ _ _ _ _ _ (s₁.setTop (mkF m 52 #[.val (.ref (w 6)), .val (.int p1), .val (.int (own_lo p1)), .val (.int (own_up p1)), .unset, .unset] []))
      refine oS (fun t k => oIc li_0 X0.here hx rfl (hb hby d3_52) k) ?_
      refine oS (fun t k => XS.istore X0.here hx rfl (hb hby d3_53) rfl (l' := #[.val (.ref (w 6)), .val (.int p1), .val (.int (own_lo p1)), .val (.int (own_up p1)), .val (.int 0), .unset]) rfl k) ?_
      have ej0 : (own_dg p1) = (0 : Int32) := (by simp only [own_dg, if_pos hc39])
      rw [ej0] at cut
      exact cut
    · refine oS (fun t k => XS.icmpNo X0.here hx rfl (hb hby d3_39) rfl (flt hc39).1 k) ?_
      show oG _ _ _ _ _ _ _ (s₁.setTop (mkF m 42 #[.val (.ref (w 6)), .val (.int p1), .val (.int (own_lo p1)), .val (.int (own_up p1)), .unset, .unset] []))
      refine oS (fun t k => XS.iloadN X0.here hx rfl (hb hby d3_42) rfl k) ?_
      refine oS (fun t k => oBp lb_57 X0.here hx rfl (hb hby d3_43) k) ?_
      by_cases hc45 : (57 : Int32) < p1
      · refine oS (fun t k => XS.icmpYes X0.here hx rfl (pc0 := 45) (pc' := 52) rfl (hb hby d3_45) rfl (tlt hc45).2.2.1 (by decide) (by decide) k) ?_
        show oG _ _ _ _ _ _ _ (s₁.setTop (mkF m 52 #[.val (.ref (w 6)), .val (.int p1), .val (.int (own_lo p1)), .val (.int (own_up p1)), .unset, .unset] []))
        refine oS (fun t k => oIc li_0 X0.here hx rfl (hb hby d3_52) k) ?_
        refine oS (fun t k => XS.istore X0.here hx rfl (hb hby d3_53) rfl (l' := #[.val (.ref (w 6)), .val (.int p1), .val (.int (own_lo p1)), .val (.int (own_up p1)), .val (.int 0), .unset]) rfl k) ?_
        have ej0 : (own_dg p1) = (0 : Int32) := (by simp only [own_dg, if_neg hc39, if_pos hc45])
        rw [ej0] at cut
        exact cut
      · refine oS (fun t k => XS.icmpNo X0.here hx rfl (hb hby d3_45) rfl (flt hc45).2.2.1 k) ?_
        show oG _ _ _ _ _ _ _ (s₁.setTop (mkF m 48 #[.val (.ref (w 6)), .val (.int p1), .val (.int (own_lo p1)), .val (.int (own_up p1)), .unset, .unset] []))
        refine oS (fun t k => oIc li_1 X0.here hx rfl (hb hby d3_48) k) ?_
        refine oS (fun t k => XS.goto X0.here hx rfl (pc0 := 49) (pc' := 53) rfl (hb hby d3_49) (by decide) (by decide) k) ?_
        refine oS (fun t k => XS.istore X0.here hx rfl (hb hby d3_53) rfl (l' := #[.val (.ref (w 6)), .val (.int p1), .val (.int (own_lo p1)), .val (.int (own_up p1)), .val (.int 1), .unset]) rfl k) ?_
        show oG _ _ _ _ _ _ _ (s₁.setTop (mkF m 55 #[.val (.ref (w 6)), .val (.int p1), .val (.int (own_lo p1)), .val (.int (own_up p1)), .val (.int 1), .unset] []))
        have ej0 : (own_dg p1) = (1 : Int32) := (by simp only [own_dg, if_neg hc39, if_neg hc45])
        rw [ej0] at cut
        exact cut
  suffices cut : oG p e below s (Q_con_PRINT Z p1 w h0 n0) ({ frames := 1, cells := 0, slots := 0, locals := 12 } : Room).cells ({ frames := 1, cells := 0, slots := 0, locals := 12 } : Room).slots (s₁.setTop (mkF m 74 #[.val (.ref (w 6)), .val (.int p1), .val (.int (own_lo p1)), .val (.int (own_up p1)), .val (.int (own_dg p1)), .val (.int (own_gr p1))] [])) by
    refine oS (fun t k => XS.iloadN X0.here hx rfl (hb hby d3_55) rfl k) ?_
    refine oS (fun t k => oBp lb_32 X0.here hx rfl (hb hby d3_56) k) ?_
    by_cases hc58 : (32 : Int32) < p1
    · refine oS (fun t k => XS.icmpNo X0.here hx rfl (hb hby d3_58) rfl (tlt hc58).2.2.2 k) ?_
      show oG _ _ _ _ _ _ _ (s₁.setTop (mkF m 61 #[.val (.ref (w 6)), .val (.int p1), .val (.int (own_lo p1)), .val (.int (own_up p1)), .val (.int (own_dg p1)), .unset] []))
      refine oS (fun t k => XS.iloadN X0.here hx rfl (hb hby d3_61) rfl k) ?_
      refine oS (fun t k => oBp lb_127 X0.here hx rfl (hb hby d3_62) k) ?_
      by_cases hc64 : p1 < (127 : Int32)
      · refine oS (fun t k => XS.icmpNo X0.here hx rfl (hb hby d3_64) rfl (tlt hc64).2.1 k) ?_
        show oG _ _ _ _ _ _ _ (s₁.setTop (mkF m 67 #[.val (.ref (w 6)), .val (.int p1), .val (.int (own_lo p1)), .val (.int (own_up p1)), .val (.int (own_dg p1)), .unset] []))
        refine oS (fun t k => oIc li_1 X0.here hx rfl (hb hby d3_67) k) ?_
        refine oS (fun t k => XS.goto X0.here hx rfl (pc0 := 68) (pc' := 72) rfl (hb hby d3_68) (by decide) (by decide) k) ?_
        refine oS (fun t k => XS.istore X0.here hx rfl (hb hby d3_72) rfl (l' := #[.val (.ref (w 6)), .val (.int p1), .val (.int (own_lo p1)), .val (.int (own_up p1)), .val (.int (own_dg p1)), .val (.int 1)]) rfl k) ?_
        show oG _ _ _ _ _ _ _ (s₁.setTop (mkF m 74 #[.val (.ref (w 6)), .val (.int p1), .val (.int (own_lo p1)), .val (.int (own_up p1)), .val (.int (own_dg p1)), .val (.int 1)] []))
        have ej0 : (own_gr p1) = (1 : Int32) := (by simp only [own_gr, if_pos hc58, if_pos hc64])
        rw [ej0] at cut
        exact cut
      · refine oS (fun t k => XS.icmpYes X0.here hx rfl (pc0 := 64) (pc' := 71) rfl (hb hby d3_64) rfl (flt hc64).2.1 (by decide) (by decide) k) ?_
        show oG _ _ _ _ _ _ _ (s₁.setTop (mkF m 71 #[.val (.ref (w 6)), .val (.int p1), .val (.int (own_lo p1)), .val (.int (own_up p1)), .val (.int (own_dg p1)), .unset] []))
        refine oS (fun t k => oIc li_0 X0.here hx rfl (hb hby d3_71) k) ?_
        refine oS (fun t k => XS.istore X0.here hx rfl (hb hby d3_72) rfl (l' := #[.val (.ref (w 6)), .val (.int p1), .val (.int (own_lo p1)), .val (.int (own_up p1)), .val (.int (own_dg p1)), .val (.int 0)]) rfl k) ?_
        have ej0 : (own_gr p1) = (0 : Int32) := (by simp only [own_gr, if_pos hc58, if_neg hc64])
        rw [ej0] at cut
        exact cut
    · refine oS (fun t k => XS.icmpYes X0.here hx rfl (pc0 := 58) (pc' := 71) rfl (hb hby d3_58) rfl (flt hc58).2.2.2 (by decide) (by decide) k) ?_
      show oG _ _ _ _ _ _ _ (s₁.setTop (mkF m 71 #[.val (.ref (w 6)), .val (.int p1), .val (.int (own_lo p1)), .val (.int (own_up p1)), .val (.int (own_dg p1)), .unset] []))
      refine oS (fun t k => oIc li_0 X0.here hx rfl (hb hby d3_71) k) ?_
      refine oS (fun t k => XS.istore X0.here hx rfl (hb hby d3_72) rfl (l' := #[.val (.ref (w 6)), .val (.int p1), .val (.int (own_lo p1)), .val (.int (own_up p1)), .val (.int (own_dg p1)), .val (.int 0)]) rfl k) ?_
      have ej0 : (own_gr p1) = (0 : Int32) := (by simp only [own_gr, if_neg hc58])
      rw [ej0] at cut
      exact cut
  refine oS (fun t k => XS.aloadN X0.here hx rfl (hb hby d3_74) rfl rfl k) ?_
  obtain ⟨cq1, kq1, q1a, q1b, q1c⟩ := isOf hZ e0 ((wE6 W).ext O0.2)
  obtain ⟨_, _, ⟨T1, L1, k1, n1⟩, -, X1, ⟨Lc1, hQ1, l1, y1, z1⟩, st1⟩ := X0.virtualBackUp hx (x := mY3) (y := mY2) hown (mvT hZ (oW hw 16 rfl)) (mvT hZ (oW hw 17 rfl)) (mvT hZ (oW hw 18 rfl)) (by decide) (mvT hZ (oW hw 20 rfl)) (mvT hZ (oW hw 19 rfl)) (backOf (W := 0) (rm_ord_PRINT l Z a0 hw []  w h0 n0 O0 W ) hZ (oW hw 22 rfl) (oW hw 21 rfl) (by decide) (by decide)) q1a q1c (g := (mkF m 75 #[.val (.ref (w 6)), .val (.int p1), .val (.int (own_lo p1)), .val (.int (own_up p1)), .val (.int (own_dg p1)), .val (.int (own_gr p1))] [(.ref (w 6))])) rfl (by rw [hml]; rfl) (Steps.refl _) (argsL := []) (rest := []) (lenOf pd_0 rfl) rfl (by show 2 * 0 + _ ≤ _; exact Nat.le_of_eq rfl) (hb hby d3_75) (fun _ _ => ⟨rfl, e0, (by decide : 0 + 0 ≤ _), (by decide : 0 + 0 ≤ _)⟩)
  dsimp only [Pt.U, Pt.locs, Pt.cells, Pt.slots] at X1 l1 y1 z1 st1 hQ1
  subst l1 y1 z1
  obtain ⟨rfl, Nq1, e1⟩ := hQ1
  have N1 := Fr.app N0 Nq1
  refine oS (fun t k => st1.trans k) ?_
  show oG _ _ _ _ _ _ _ (T1.setTop (mkF m 78 #[.val (.ref (w 6)), .val (.int p1), .val (.int (own_lo p1)), .val (.int (own_up p1)), .val (.int (own_dg p1)), .val (.int (own_gr p1))] [(.int 7)]))
  try clear st1
  refine oS (fun t k => XS.tswIn X1.here hx rfl (pc0 := 78) (pc' := 241) rfl (hb hby d3_78) (i := (7 : Int32)) rfl (by decide) (o := 163) rfl (by decide) (by decide) k) ?_
  refine oS (fun t k => XS.iload X1.here hx rfl (hb hby d3_241) rfl k) ?_
  by_cases hc243 : (own_gr p1) = (0 : Int32)
  · refine oS (fun t k => XS.ifNo X1.here hx rfl (hb hby d3_243) rfl ((if0 _ _).trans (teq hc243).2) k) ?_
    show oG _ _ _ _ _ _ _ (T1.setTop (mkF m 246 #[.val (.ref (w 6)), .val (.int p1), .val (.int (own_lo p1)), .val (.int (own_up p1)), .val (.int (own_dg p1)), .val (.int (own_gr p1))] []))
    refine oS (fun t k => XS.iloadN X1.here hx rfl (hb hby d3_246) rfl k) ?_
    refine oS (fun t k => oBp lb_32 X1.here hx rfl (hb hby d3_247) k) ?_
    by_cases hc249 : p1 = (32 : Int32)
    · refine oS (fun t k => XS.icmpNo X1.here hx rfl (hb hby d3_249) rfl (teq hc249).2 k) ?_
      show oG _ _ _ _ _ _ _ (T1.setTop (mkF m 252 #[.val (.ref (w 6)), .val (.int p1), .val (.int (own_lo p1)), .val (.int (own_up p1)), .val (.int (own_dg p1)), .val (.int (own_gr p1))] []))
      refine oS (fun t k => oIc li_1 X1.here hx rfl (hb hby d3_252) k) ?_
      refine oS (fun t k => XS.goto X1.here hx rfl (pc0 := 253) (pc' := 350) rfl (hb hby d3_253) (by decide) (by decide) k) ?_
      exact own_ret (v := some (.int 1)) X1 (fun h => by rw [Bd.returns] at h; cases h) Bd.notSynchronized (fun fs hr => retN X1 hx (t := .boolean) Bd.returns (by simp) (hb hby d3_350) hr) (by rw [e1]; exact ⟨(congrArg (fun z => some (Value.int z)) (own_all (P := fun c => ((own_gr c) = (0 : Int32)) → (c = (32 : Int32)) → (1 : Int32) = (own_in (7 : Int32) c)) p1 hlo hhi (by decide +kernel) hc243 hc249)), N1, rfl⟩) (by decide) (by decide)
    · refine oS (fun t k => XS.icmpYes X1.here hx rfl (pc0 := 249) (pc' := 256) rfl (hb hby d3_249) rfl (feq hc249).2 (by decide) (by decide) k) ?_
      show oG _ _ _ _ _ _ _ (T1.setTop (mkF m 256 #[.val (.ref (w 6)), .val (.int p1), .val (.int (own_lo p1)), .val (.int (own_up p1)), .val (.int (own_dg p1)), .val (.int (own_gr p1))] []))
      refine oS (fun t k => oIc li_0 X1.here hx rfl (hb hby d3_256) k) ?_
      refine oS (fun t k => XS.goto X1.here hx rfl (pc0 := 257) (pc' := 350) rfl (hb hby d3_257) (by decide) (by decide) k) ?_
      exact own_ret (v := some (.int 0)) X1 (fun h => by rw [Bd.returns] at h; cases h) Bd.notSynchronized (fun fs hr => retN X1 hx (t := .boolean) Bd.returns (by simp) (hb hby d3_350) hr) (by rw [e1]; exact ⟨(congrArg (fun z => some (Value.int z)) (own_all (P := fun c => ((own_gr c) = (0 : Int32)) → ¬ (c = (32 : Int32)) → (0 : Int32) = (own_in (7 : Int32) c)) p1 hlo hhi (by decide +kernel) hc243 hc249)), N1, rfl⟩) (by decide) (by decide)
  · refine oS (fun t k => XS.ifYes X1.here hx rfl (pc0 := 243) (pc' := 252) rfl (hb hby d3_243) rfl ((if0 _ _).trans (feq hc243).2) (by decide) (by decide) k) ?_
    show oG _ _ _ _ _ _ _ (T1.setTop (mkF m 252 #[.val (.ref (w 6)), .val (.int p1), .val (.int (own_lo p1)), .val (.int (own_up p1)), .val (.int (own_dg p1)), .val (.int (own_gr p1))] []))
    refine oS (fun t k => oIc li_1 X1.here hx rfl (hb hby d3_252) k) ?_
    refine oS (fun t k => XS.goto X1.here hx rfl (pc0 := 253) (pc' := 350) rfl (hb hby d3_253) (by decide) (by decide) k) ?_
    exact own_ret (v := some (.int 1)) X1 (fun h => by rw [Bd.returns] at h; cases h) Bd.notSynchronized (fun fs hr => retN X1 hx (t := .boolean) Bd.returns (by simp) (hb hby d3_350) hr) (by rw [e1]; exact ⟨(congrArg (fun z => some (Value.int z)) (own_all (P := fun c => ¬ ((own_gr c) = (0 : Int32)) → (1 : Int32) = (own_in (7 : Int32) c)) p1 hlo hhi (by decide +kernel) hc243)), N1, rfl⟩) (by decide) (by decide)
def Q_ord_PUNCT (Z : State)  (w : Nat → Addr) (h0 : Heap) (n0 : Nat) (v : Option Value) (h : Heap) (L : List Loc) : Prop := v = some (.int 8) ∧ Fr n0 L ∧ h = h0
set_option maxRecDepth 65536 in
set_option maxHeartbeats 40000000 in
theorem rm_ord_PUNCT (l : Launch) (Z : State) (a0 : Array Value) (hw : ∀ d ∈ tables_1, d.before a0 Z = true) (ws : List Jvm.Cond)  (w : Nat → Addr) (h0 : Heap) (n0 : Nat) (O0 : Old Z n0 h0) (W : own_World Z w) :
    MetFree l mY2 (head1 (Jvm.Cond.code mY2 jdk_37_method_2_code 1 (some .int) :: ws) ({ frames := 0, cells := 0, slots := 0, locals := 0 } : Room)) (fun a U => a = #[(.ref (w 3))] ∧ Z.Warmed39 U.vm ∧ U.heap = h0) (fun _ _ _ _ _ => True) (fun _ U o U' => ∃ v L, o = .returned v ∧ Q_ord_PUNCT Z  w h0 n0 v U'.heap L ∧ FrameEnd U o U' L ({ frames := 0, cells := 0, slots := 0, locals := 0 } : Room).cells ({ frames := 0, cells := 0, slots := 0, locals := 0 } : Room).slots) := by
  refine MetFree.of_bodySF (plainFor_of_name pn_1) hisR ?_
  intro p e s m args below meth c s₁ Bd hml0 hP hK
  obtain ⟨rfl, hZ, hh⟩ := hP
  have hx := Bd.exec
  have hby := Bd.bytes
  have hml : c.maxLocals = 1 := hml0
  have hown : s.vm.findClass "java/lang/Enum" = some m.cls := findClass_of_methodNamed Bd.named
  have hnm := (name_of_methodNamed Bd.named Bd.method).1
  have X0 : Stand p l e ({ frames := 0, cells := 0, slots := 0, locals := 0 } : Room) s m #[(.ref (w 3))] below meth c s₁ [] 0 0 := Stand.of_body Bd
  have e0 : s₁.heap = h0 := by rw [← hh, Bd.state]; rfl
  have N0 := Fr.nil n0
  show oG p e below s (Q_ord_PUNCT Z  w h0 n0) ({ frames := 0, cells := 0, slots := 0, locals := 0 } : Room).cells ({ frames := 0, cells := 0, slots := 0, locals := 0 } : Room).slots _
  refine oS (fun t k => castTop (ef_4_r m (w 3)) k) ?_
  show oG _ _ _ _ _ _ _ (s₁.setTop (mkF m 0 #[.val (.ref (w 3))] []))
  refine oS (fun t k => XS.aloadN X0.here hx rfl (hb hby d4_0) rfl rfl k) ?_
  obtain ⟨T1, X1, e1, st1⟩ := getF X0 hx hZ hown (host := "") (Or.inl (oW hw 23 rfl)) Via.refl e0 ((wF3_ordinal W).ext O0.2) (g := (mkF m 1 #[.val (.ref (w 3))] [(.ref (w 3))])) rfl rfl (hb hby d4_1)
  refine oS (fun t k => st1 t k) ?_
  try clear st1
  exact own_ret (v := some (.int 8)) X1 (fun h => by rw [Bd.returns] at h; cases h) Bd.notSynchronized (fun fs hr => retOut X1 hx (t := .int) Bd.returns rfl (Or.inl ⟨rfl, Or.inl rfl, _, rfl⟩) (hb hby d4_4) hr) (by rw [e1]; exact ⟨rfl, N0, rfl⟩) (by decide) (by decide)
theorem d3_260 : decode prog_6_method_5_code 260 = .ok (.iload 5, 2) := by decide +kernel
theorem d3_262 : decode prog_6_method_5_code 262 = .ok (.ifCond .eq 20, 3) := by decide +kernel
theorem d3_282 : decode prog_6_method_5_code 282 = .ok (.iconst 0, 1) := by decide +kernel
theorem d3_283 : decode prog_6_method_5_code 283 = .ok (.goto 67, 3) := by decide +kernel
theorem d3_265 : decode prog_6_method_5_code 265 = .ok (.iload_n 2, 1) := by decide +kernel
theorem d3_266 : decode prog_6_method_5_code 266 = .ok (.ifCond .ne 16, 3) := by decide +kernel
theorem d3_269 : decode prog_6_method_5_code 269 = .ok (.iload_n 3, 1) := by decide +kernel
theorem d3_270 : decode prog_6_method_5_code 270 = .ok (.ifCond .ne 12, 3) := by decide +kernel
theorem d3_273 : decode prog_6_method_5_code 273 = .ok (.iload 4, 2) := by decide +kernel
theorem d3_275 : decode prog_6_method_5_code 275 = .ok (.ifCond .ne 7, 3) := by decide +kernel
theorem d3_278 : decode prog_6_method_5_code 278 = .ok (.iconst 1, 1) := by decide +kernel
theorem d3_279 : decode prog_6_method_5_code 279 = .ok (.goto 71, 3) := by decide +kernel
def Q_con_PUNCT (Z : State) (p1 : Int32) (w : Nat → Addr) (h0 : Heap) (n0 : Nat) (v : Option Value) (h : Heap) (L : List Loc) : Prop := v = some (.int (own_in (8 : Int32) p1)) ∧ Fr n0 L ∧ h = h0
set_option maxRecDepth 65536 in
set_option maxHeartbeats 40000000 in
theorem rm_con_PUNCT (l : Launch) (Z : State) (a0 : Array Value) (hw : ∀ d ∈ tables_1, d.before a0 Z = true) (ws : List Jvm.Cond) (p1 : Int32) (w : Nat → Addr) (h0 : Heap) (n0 : Nat) (O0 : Old Z n0 h0) (W : own_World Z w) (hlo : ¬ (p1 < (0 : Int32))) (hhi : p1 < (256 : Int32)) :
    MetFree l mY4 (head1 (Jvm.Cond.code mY4 prog_6_method_5_code 6 (some .boolean) :: ws) ({ frames := 1, cells := 0, slots := 0, locals := 12 } : Room)) (fun a U => a = #[(.ref (w 3)), (.int p1)] ∧ Z.Warmed39 U.vm ∧ U.heap = h0) (fun _ _ _ _ _ => True) (fun _ U o U' => ∃ v L, o = .returned v ∧ Q_con_PUNCT Z p1 w h0 n0 v U'.heap L ∧ FrameEnd U o U' L ({ frames := 1, cells := 0, slots := 0, locals := 12 } : Room).cells ({ frames := 1, cells := 0, slots := 0, locals := 12 } : Room).slots) := by
  refine MetFree.of_bodySF (plainFor_of_name pn_2) hisR ?_
  intro p e s m args below meth c s₁ Bd hml0 hP hK
  obtain ⟨rfl, hZ, hh⟩ := hP
  have hx := Bd.exec
  have hby := Bd.bytes
  have hml : c.maxLocals = 6 := hml0
  have hown : s.vm.findClass "com/example/lamassu/lamassu/builtin/CharClass" = some m.cls := findClass_of_methodNamed Bd.named
  have hnm := (name_of_methodNamed Bd.named Bd.method).1
  have X0 : Stand p l e ({ frames := 1, cells := 0, slots := 0, locals := 12 } : Room) s m #[(.ref (w 3)), (.int p1)] below meth c s₁ [] 0 0 := Stand.of_body Bd
  have e0 : s₁.heap = h0 := by rw [← hh, Bd.state]; rfl
  have N0 := Fr.nil n0
  show oG p e below s (Q_con_PUNCT Z p1 w h0 n0) ({ frames := 1, cells := 0, slots := 0, locals := 12 } : Room).cells ({ frames := 1, cells := 0, slots := 0, locals := 12 } : Room).slots _
  refine oS (fun t k => castTop (ef_3_ri m (w 3) p1) k) ?_
  show oG _ _ _ _ _ _ _ (s₁.setTop (mkF m 0 #[.val (.ref (w 3)), .val (.int p1), .unset, .unset, .unset, .unset] []))
  suffices cut : oG p e below s (Q_con_PUNCT Z p1 w h0 n0) ({ frames := 1, cells := 0, slots := 0, locals := 12 } : Room).cells ({ frames := 1, cells := 0, slots := 0, locals := 12 } : Room).slots (s₁.setTop (mkF m 18 #[.val (.ref (w 3)), .val (.int p1), .val (.int (own_lo p1)), .unset, .unset, .unset] [])) by
    refine oS (fun t k => XS.iloadN X0.here hx rfl (hb hby d3_0) rfl k) ?_
    refine oS (fun t k => oBp lb_97 X0.here hx rfl (hb hby d3_1) k) ?_
    by_cases hc3 : p1 < (97 : Int32)
    · refine oS (fun t k => XS.icmpYes X0.here hx rfl (pc0 := 3) (pc' := 16) rfl (hb hby d3_3) rfl (tlt hc3).1 (by decide) (by decide) k) ?_
      show oG _ _ _ _ _ _ _ (s₁.setTop (mkF m 16 #[.val (.ref (w 3)), .val (.int p1), .unset, .unset, .unset, .unset] []))
      refine oS (fun t k => oIc li_0 X0.here hx rfl (hb hby d3_16) k) ?_
      refine oS (fun t k => XS.istoreN X0.here hx rfl (hb hby d3_17) rfl (l' := #[.val (.ref (w 3)), .val (.int p1), .val (.int 0), .unset, .unset, .unset]) rfl k) ?_
      have ej0 : (own_lo p1) = (0 : Int32) := (by simp only [own_lo, if_pos hc3])
      rw [ej0] at cut
      exact cut
    · refine oS (fun t k => XS.icmpNo X0.here hx rfl (hb hby d3_3) rfl (flt hc3).1 k) ?_
      show oG _ _ _ _ _ _ _ (s₁.setTop (mkF m 6 #[.val (.ref (w 3)), .val (.int p1), .unset, .unset, .unset, .unset] []))
      refine oS (fun t k => XS.iloadN X0.here hx rfl (hb hby d3_6) rfl k) ?_
      refine oS (fun t k => oBp lb_122 X0.here hx rfl (hb hby d3_7) k) ?_
      by_cases hc9 : (122 : Int32) < p1
      · refine oS (fun t k => XS.icmpYes X0.here hx rfl (pc0 := 9) (pc' := 16) rfl (hb hby d3_9) rfl (tlt hc9).2.2.1 (by decide) (by decide) k) ?_
        show oG _ _ _ _ _ _ _ (s₁.setTop (mkF m 16 #[.val (.ref (w 3)), .val (.int p1), .unset, .unset, .unset, .unset] []))
        refine oS (fun t k => oIc li_0 X0.here hx rfl (hb hby d3_16) k) ?_
        refine oS (fun t k => XS.istoreN X0.here hx rfl (hb hby d3_17) rfl (l' := #[.val (.ref (w 3)), .val (.int p1), .val (.int 0), .unset, .unset, .unset]) rfl k) ?_
        have ej0 : (own_lo p1) = (0 : Int32) := (by simp only [own_lo, if_neg hc3, if_pos hc9])
        rw [ej0] at cut
        exact cut
      · refine oS (fun t k => XS.icmpNo X0.here hx rfl (hb hby d3_9) rfl (flt hc9).2.2.1 k) ?_
        show oG _ _ _ _ _ _ _ (s₁.setTop (mkF m 12 #[.val (.ref (w 3)), .val (.int p1), .unset, .unset, .unset, .unset] []))
        refine oS (fun t k => oIc li_1 X0.here hx rfl (hb hby d3_12) k) ?_
        refine oS (fun t k => XS.goto X0.here hx rfl (pc0 := 13) (pc' := 17) rfl (hb hby d3_13) (by decide) (by decide) k) ?_
        refine oS (fun t k => XS.istoreN X0.here hx rfl (hb hby d3_17) rfl (l' := #[.val (.ref (w 3)), .val (.int p1), .val (.int 1), .unset, .unset, .unset]) rfl k) ?_
        show oG _ _ _ _ _ _ _ (s₁.setTop (mkF m 18 #[.val (.ref (w 3)), .val (.int p1), .val (.int 1), .unset, .unset, .unset] []))
        have ej0 : (own_lo p1) = (1 : Int32) := (by simp only [own_lo, if_neg hc3, if_neg hc9])
        rw [ej0] at cut
        exact cut
  suffices cut : oG p e below s (Q_con_PUNCT Z p1 w h0 n0) ({ frames := 1, cells := 0, slots := 0, locals := 12 } : Room).cells ({ frames := 1, cells := 0, slots := 0, locals := 12 } : Room).slots (s₁.setTop (mkF m 36 #[.val (.ref (w 3)), .val (.int p1), .val (.int (own_lo p1)), .val (.int (own_up p1)), .unset, .unset] [])) by
    refine oS (fun t k => XS.iloadN X0.here hx rfl (hb hby d3_18) rfl k) ?_
    refine oS (fun t k => oBp lb_65 X0.here hx rfl (hb hby d3_19) k) ?_
    by_cases hc21 : p1 < (65 : Int32)
    · refine oS (fun t k => XS.icmpYes X0.here hx rfl (pc0 := 21) (pc' := 34) rfl (hb hby d3_21) rfl (tlt hc21).1 (by decide) (by decide) k) ?_
      show oG _ _ _ _ _ _ _ (s₁.setTop (mkF m 34 #[.val (.ref (w 3)), .val (.int p1), .val (.int (own_lo p1)), .unset, .unset, .unset] []))
      refine oS (fun t k => oIc li_0 X0.here hx rfl (hb hby d3_34) k) ?_
      refine oS (fun t k => XS.istoreN X0.here hx rfl (hb hby d3_35) rfl (l' := #[.val (.ref (w 3)), .val (.int p1), .val (.int (own_lo p1)), .val (.int 0), .unset, .unset]) rfl k) ?_
      have ej0 : (own_up p1) = (0 : Int32) := (by simp only [own_up, if_pos hc21])
      rw [ej0] at cut
      exact cut
    · refine oS (fun t k => XS.icmpNo X0.here hx rfl (hb hby d3_21) rfl (flt hc21).1 k) ?_
      show oG _ _ _ _ _ _ _ (s₁.setTop (mkF m 24 #[.val (.ref (w 3)), .val (.int p1), .val (.int (own_lo p1)), .unset, .unset, .unset] []))
      refine oS (fun t k => XS.iloadN X0.here hx rfl (hb hby d3_24) rfl k) ?_
      refine oS (fun t k => oBp lb_90 X0.here hx rfl (hb hby d3_25) k) ?_
      by_cases hc27 : (90 : Int32) < p1
      · refine oS (fun t k => XS.icmpYes X0.here hx rfl (pc0 := 27) (pc' := 34) rfl (hb hby d3_27) rfl (tlt hc27).2.2.1 (by decide) (by decide) k) ?_
        show oG _ _ _ _ _ _ _ (s₁.setTop (mkF m 34 #[.val (.ref (w 3)), .val (.int p1), .val (.int (own_lo p1)), .unset, .unset, .unset] []))
        refine oS (fun t k => oIc li_0 X0.here hx rfl (hb hby d3_34) k) ?_
        refine oS (fun t k => XS.istoreN X0.here hx rfl (hb hby d3_35) rfl (l' := #[.val (.ref (w 3)), .val (.int p1), .val (.int (own_lo p1)), .val (.int 0), .unset, .unset]) rfl k) ?_
        have ej0 : (own_up p1) = (0 : Int32) := (by simp only [own_up, if_neg hc21, if_pos hc27])
        rw [ej0] at cut
        exact cut
      · refine oS (fun t k => XS.icmpNo X0.here hx rfl (hb hby d3_27) rfl (flt hc27).2.2.1 k) ?_
        show oG _ _ _ _ _ _ _ (s₁.setTop (mkF m 30 #[.val (.ref (w 3)), .val (.int p1), .val (.int (own_lo p1)), .unset, .unset, .unset] []))
        refine oS (fun t k => oIc li_1 X0.here hx rfl (hb hby d3_30) k) ?_
        refine oS (fun t k => XS.goto X0.here hx rfl (pc0 := 31) (pc' := 35) rfl (hb hby d3_31) (by decide) (by decide) k) ?_
        refine oS (fun t k => XS.istoreN X0.here hx rfl (hb hby d3_35) rfl (l' := #[.val (.ref (w 3)), .val (.int p1), .val (.int (own_lo p1)), .val (.int 1), .unset, .unset]) rfl k) ?_
        show oG _ _ _ _ _ _ _ (s₁.setTop (mkF m 36 #[.val (.ref (w 3)), .val (.int p1), .val (.int (own_lo p1)), .val (.int 1), .unset, .unset] []))
        have ej0 : (own_up p1) = (1 : Int32) := (by simp only [own_up, if_neg hc21, if_neg hc27])
        rw [ej0] at cut
        exact cut
  suffices cut : oG p e below s (Q_con_PUNCT Z p1 w h0 n0) ({ frames := 1, cells := 0, slots := 0, locals := 12 } : Room).cells ({ frames := 1, cells := 0, slots := 0, locals := 12 } : Room).slots (s₁.setTop (mkF m 55 #[.val (.ref (w 3)), .val (.int p1), .val (.int (own_lo p1)), .val (.int (own_up p1)), .val (.int (own_dg p1)), .unset] [])) by
    refine oS (fun t k => XS.iloadN X0.here hx rfl (hb hby d3_36) rfl k) ?_
    refine oS (fun t k => oBp lb_48 X0.here hx rfl (hb hby d3_37) k) ?_
    by_cases hc39 : p1 < (48 : Int32)
    · refine oS (fun t k => XS.icmpYes X0.here hx rfl (pc0 := 39) (pc' := 52) rfl (hb hby d3_39) rfl (tlt hc39).1 (by decide) (by decide) k) ?_
      show oG _ _ _ _ _ _ _ (s₁.setTop (mkF m 52 #[.val (.ref (w 3)), .val (.int p1), .val (.int (own_lo p1)), .val (.int (own_up p1)), .unset, .unset] []))
      refine oS (fun t k => oIc li_0 X0.here hx rfl (hb hby d3_52) k) ?_
      refine oS (fun t k => XS.istore X0.here hx rfl (hb hby d3_53) rfl (l' := #[.val (.ref (w 3)), .val (.int p1), .val (.int (own_lo p1)), .val (.int (own_up p1)), .val (.int 0), .unset]) rfl k) ?_
      have ej0 : (own_dg p1) = (0 : Int32) := (by simp only [own_dg, if_pos hc39])
      rw [ej0] at cut
      exact cut
    · refine oS (fun t k => XS.icmpNo X0.here hx rfl (hb hby d3_39) rfl (flt hc39).1 k) ?_
      show oG _ _ _ _ _ _ _ (s₁.setTop (mkF m 42 #[.val (.ref (w 3)), .val (.int p1), .val (.int (own_lo p1)), .val (.int (own_up p1)), .unset, .unset] []))
      refine oS (fun t k => XS.iloadN X0.here hx rfl (hb hby d3_42) rfl k) ?_
      refine oS (fun t k => oBp lb_57 X0.here hx rfl (hb hby d3_43) k) ?_
      by_cases hc45 : (57 : Int32) < p1
      · refine oS (fun t k => XS.icmpYes X0.here hx rfl (pc0 := 45) (pc' := 52) rfl (hb hby d3_45) rfl (tlt hc45).2.2.1 (by decide) (by decide) k) ?_
        show oG _ _ _ _ _ _ _ (s₁.setTop (mkF m 52 #[.val (.ref (w 3)), .val (.int p1), .val (.int (own_lo p1)), .val (.int (own_up p1)), .unset, .unset] []))
        refine oS (fun t k => oIc li_0 X0.here hx rfl (hb hby d3_52) k) ?_
        refine oS (fun t k => XS.istore X0.here hx rfl (hb hby d3_53) rfl (l' := #[.val (.ref (w 3)), .val (.int p1), .val (.int (own_lo p1)), .val (.int (own_up p1)), .val (.int 0), .unset]) rfl k) ?_
        have ej0 : (own_dg p1) = (0 : Int32) := (by simp only [own_dg, if_neg hc39, if_pos hc45])
        rw [ej0] at cut
        exact cut
      · refine oS (fun t k => XS.icmpNo X0.here hx rfl (hb hby d3_45) rfl (flt hc45).2.2.1 k) ?_
        show oG _ _ _ _ _ _ _ (s₁.setTop (mkF m 48 #[.val (.ref (w 3)), .val (.int p1), .val (.int (own_lo p1)), .val (.int (own_up p1)), .unset, .unset] []))
        refine oS (fun t k => oIc li_1 X0.here hx rfl (hb hby d3_48) k) ?_
        refine oS (fun t k => XS.goto X0.here hx rfl (pc0 := 49) (pc' := 53) rfl (hb hby d3_49) (by decide) (by decide) k) ?_
        refine oS (fun t k => XS.istore X0.here hx rfl (hb hby d3_53) rfl (l' := #[.val (.ref (w 3)), .val (.int p1), .val (.int (own_lo p1)), .val (.int (own_up p1)), .val (.int 1), .unset]) rfl k) ?_
        show oG _ _ _ _ _ _ _ (s₁.setTop (mkF m 55 #[.val (.ref (w 3)), .val (.int p1), .val (.int (own_lo p1)), .val (.int (own_up p1)), .val (.int 1), .unset] []))
        have ej0 : (own_dg p1) = (1 : Int32) := (by simp only [own_dg, if_neg hc39, if_neg hc45])
        rw [ej0] at cut
        exact cut
  suffices cut : oG p e below s (Q_con_PUNCT Z p1 w h0 n0) ({ frames := 1, cells := 0, slots := 0, locals := 12 } : Room).cells ({ frames := 1, cells := 0, slots := 0, locals := 12 } : Room).slots (s₁.setTop (mkF m 74 #[.val (.ref (w 3)), .val (.int p1), .val (.int (own_lo p1)), .val (.int (own_up p1)), .val (.int (own_dg p1)), .val (.int (own_gr p1))] [])) by
    refine oS (fun t k => XS.iloadN X0.here hx rfl (hb hby d3_55) rfl k) ?_
    refine oS (fun t k => oBp lb_32 X0.here hx rfl (hb hby d3_56) k) ?_
    by_cases hc58 : (32 : Int32) < p1
    · refine oS (fun t k => XS.icmpNo X0.here hx rfl (hb hby d3_58) rfl (tlt hc58).2.2.2 k) ?_
      show oG _ _ _ _ _ _ _ (s₁.setTop (mkF m 61 #[.val (.ref (w 3)), .val (.int p1), .val (.int (own_lo p1)), .val (.int (own_up p1)), .val (.int (own_dg p1)), .unset] []))
      refine oS (fun t k => XS.iloadN X0.here hx rfl (hb hby d3_61) rfl k) ?_
      refine oS (fun t k => oBp lb_127 X0.here hx rfl (hb hby d3_62) k) ?_
      by_cases hc64 : p1 < (127 : Int32)
      · refine oS (fun t k => XS.icmpNo X0.here hx rfl (hb hby d3_64) rfl (tlt hc64).2.1 k) ?_
        show oG _ _ _ _ _ _ _ (s₁.setTop (mkF m 67 #[.val (.ref (w 3)), .val (.int p1), .val (.int (own_lo p1)), .val (.int (own_up p1)), .val (.int (own_dg p1)), .unset] []))
        refine oS (fun t k => oIc li_1 X0.here hx rfl (hb hby d3_67) k) ?_
        refine oS (fun t k => XS.goto X0.here hx rfl (pc0 := 68) (pc' := 72) rfl (hb hby d3_68) (by decide) (by decide) k) ?_
        refine oS (fun t k => XS.istore X0.here hx rfl (hb hby d3_72) rfl (l' := #[.val (.ref (w 3)), .val (.int p1), .val (.int (own_lo p1)), .val (.int (own_up p1)), .val (.int (own_dg p1)), .val (.int 1)]) rfl k) ?_
        show oG _ _ _ _ _ _ _ (s₁.setTop (mkF m 74 #[.val (.ref (w 3)), .val (.int p1), .val (.int (own_lo p1)), .val (.int (own_up p1)), .val (.int (own_dg p1)), .val (.int 1)] []))
        have ej0 : (own_gr p1) = (1 : Int32) := (by simp only [own_gr, if_pos hc58, if_pos hc64])
        rw [ej0] at cut
        exact cut
      · refine oS (fun t k => XS.icmpYes X0.here hx rfl (pc0 := 64) (pc' := 71) rfl (hb hby d3_64) rfl (flt hc64).2.1 (by decide) (by decide) k) ?_
        show oG _ _ _ _ _ _ _ (s₁.setTop (mkF m 71 #[.val (.ref (w 3)), .val (.int p1), .val (.int (own_lo p1)), .val (.int (own_up p1)), .val (.int (own_dg p1)), .unset] []))
        refine oS (fun t k => oIc li_0 X0.here hx rfl (hb hby d3_71) k) ?_
        refine oS (fun t k => XS.istore X0.here hx rfl (hb hby d3_72) rfl (l' := #[.val (.ref (w 3)), .val (.int p1), .val (.int (own_lo p1)), .val (.int (own_up p1)), .val (.int (own_dg p1)), .val (.int 0)]) rfl k) ?_
        have ej0 : (own_gr p1) = (0 : Int32) := (by simp only [own_gr, if_pos hc58, if_neg hc64])
        rw [ej0] at cut
        exact cut
    · refine oS (fun t k => XS.icmpYes X0.here hx rfl (pc0 := 58) (pc' := 71) rfl (hb hby d3_58) rfl (flt hc58).2.2.2 (by decide) (by decide) k) ?_
      show oG _ _ _ _ _ _ _ (s₁.setTop (mkF m 71 #[.val (.ref (w 3)), .val (.int p1), .val (.int (own_lo p1)), .val (.int (own_up p1)), .val (.int (own_dg p1)), .unset] []))
      refine oS (fun t k => oIc li_0 X0.here hx rfl (hb hby d3_71) k) ?_
      refine oS (fun t k => XS.istore X0.here hx rfl (hb hby d3_72) rfl (l' := #[.val (.ref (w 3)), .val (.int p1), .val (.int (own_lo p1)), .val (.int (own_up p1)), .val (.int (own_dg p1)), .val (.int 0)]) rfl k) ?_
      have ej0 : (own_gr p1) = (0 : Int32) := (by simp only [own_gr, if_neg hc58])
      rw [ej0] at cut
      exact cut
  refine oS (fun t k => XS.aloadN X0.here hx rfl (hb hby d3_74) rfl rfl k) ?_
  obtain ⟨cq1, kq1, q1a, q1b, q1c⟩ := isOf hZ e0 ((wE3 W).ext O0.2)
  obtain ⟨_, _, ⟨T1, L1, k1, n1⟩, -, X1, ⟨Lc1, hQ1, l1, y1, z1⟩, st1⟩ := X0.virtualBackUp hx (x := mY3) (y := mY2) hown (mvT hZ (oW hw 16 rfl)) (mvT hZ (oW hw 17 rfl)) (mvT hZ (oW hw 18 rfl)) (by decide) (mvT hZ (oW hw 20 rfl)) (mvT hZ (oW hw 19 rfl)) (backOf (W := 0) (rm_ord_PUNCT l Z a0 hw []  w h0 n0 O0 W ) hZ (oW hw 22 rfl) (oW hw 21 rfl) (by decide) (by decide)) q1a q1c (g := (mkF m 75 #[.val (.ref (w 3)), .val (.int p1), .val (.int (own_lo p1)), .val (.int (own_up p1)), .val (.int (own_dg p1)), .val (.int (own_gr p1))] [(.ref (w 3))])) rfl (by rw [hml]; rfl) (Steps.refl _) (argsL := []) (rest := []) (lenOf pd_0 rfl) rfl (by show 2 * 0 + _ ≤ _; exact Nat.le_of_eq rfl) (hb hby d3_75) (fun _ _ => ⟨rfl, e0, (by decide : 0 + 0 ≤ _), (by decide : 0 + 0 ≤ _)⟩)
  dsimp only [Pt.U, Pt.locs, Pt.cells, Pt.slots] at X1 l1 y1 z1 st1 hQ1
  subst l1 y1 z1
  obtain ⟨rfl, Nq1, e1⟩ := hQ1
  have N1 := Fr.app N0 Nq1
  refine oS (fun t k => st1.trans k) ?_
  show oG _ _ _ _ _ _ _ (T1.setTop (mkF m 78 #[.val (.ref (w 3)), .val (.int p1), .val (.int (own_lo p1)), .val (.int (own_up p1)), .val (.int (own_dg p1)), .val (.int (own_gr p1))] [(.int 8)]))
  try clear st1
  refine oS (fun t k => XS.tswIn X1.here hx rfl (pc0 := 78) (pc' := 260) rfl (hb hby d3_78) (i := (8 : Int32)) rfl (by decide) (o := 182) rfl (by decide) (by decide) k) ?_
  refine oS (fun t k => XS.iload X1.here hx rfl (hb hby d3_260) rfl k) ?_
  by_cases hc262 : (own_gr p1) = (0 : Int32)
  · refine oS (fun t k => XS.ifYes X1.here hx rfl (pc0 := 262) (pc' := 282) rfl (hb hby d3_262) rfl ((if0 _ _).trans (teq hc262).1) (by decide) (by decide) k) ?_
    show oG _ _ _ _ _ _ _ (T1.setTop (mkF m 282 #[.val (.ref (w 3)), .val (.int p1), .val (.int (own_lo p1)), .val (.int (own_up p1)), .val (.int (own_dg p1)), .val (.int (own_gr p1))] []))
    refine oS (fun t k => oIc li_0 X1.here hx rfl (hb hby d3_282) k) ?_
    refine oS (fun t k => XS.goto X1.here hx rfl (pc0 := 283) (pc' := 350) rfl (hb hby d3_283) (by decide) (by decide) k) ?_
    exact own_ret (v := some (.int 0)) X1 (fun h => by rw [Bd.returns] at h; cases h) Bd.notSynchronized (fun fs hr => retN X1 hx (t := .boolean) Bd.returns (by simp) (hb hby d3_350) hr) (by rw [e1]; exact ⟨(congrArg (fun z => some (Value.int z)) (own_all (P := fun c => ((own_gr c) = (0 : Int32)) → (0 : Int32) = (own_in (8 : Int32) c)) p1 hlo hhi (by decide +kernel) hc262)), N1, rfl⟩) (by decide) (by decide)
  · refine oS (fun t k => XS.ifNo X1.here hx rfl (hb hby d3_262) rfl ((if0 _ _).trans (feq hc262).1) k) ?_
    show oG _ _ _ _ _ _ _ (T1.setTop (mkF m 265 #[.val (.ref (w 3)), .val (.int p1), .val (.int (own_lo p1)), .val (.int (own_up p1)), .val (.int (own_dg p1)), .val (.int (own_gr p1))] []))
    refine oS (fun t k => XS.iloadN X1.here hx rfl (hb hby d3_265) rfl k) ?_
    by_cases hc266 : (own_lo p1) = (0 : Int32)
    · refine oS (fun t k => XS.ifNo X1.here hx rfl (hb hby d3_266) rfl ((if0 _ _).trans (teq hc266).2) k) ?_
      refine oS (fun t k => XS.iloadN X1.here hx rfl (hb hby d3_269) rfl k) ?_
      show oG _ _ _ _ _ _ _ (T1.setTop (mkF m 270 #[.val (.ref (w 3)), .val (.int p1), .val (.int (own_lo p1)), .val (.int (own_up p1)), .val (.int (own_dg p1)), .val (.int (own_gr p1))] [(.int (own_up p1))]))
      by_cases hc270 : (own_up p1) = (0 : Int32)
      · refine oS (fun t k => XS.ifNo X1.here hx rfl (hb hby d3_270) rfl ((if0 _ _).trans (teq hc270).2) k) ?_
        refine oS (fun t k => XS.iload X1.here hx rfl (hb hby d3_273) rfl k) ?_
        by_cases hc275 : (own_dg p1) = (0 : Int32)
        · refine oS (fun t k => XS.ifNo X1.here hx rfl (hb hby d3_275) rfl ((if0 _ _).trans (teq hc275).2) k) ?_
          show oG _ _ _ _ _ _ _ (T1.setTop (mkF m 278 #[.val (.ref (w 3)), .val (.int p1), .val (.int (own_lo p1)), .val (.int (own_up p1)), .val (.int (own_dg p1)), .val (.int (own_gr p1))] []))
          refine oS (fun t k => oIc li_1 X1.here hx rfl (hb hby d3_278) k) ?_
          refine oS (fun t k => XS.goto X1.here hx rfl (pc0 := 279) (pc' := 350) rfl (hb hby d3_279) (by decide) (by decide) k) ?_
          exact own_ret (v := some (.int 1)) X1 (fun h => by rw [Bd.returns] at h; cases h) Bd.notSynchronized (fun fs hr => retN X1 hx (t := .boolean) Bd.returns (by simp) (hb hby d3_350) hr) (by rw [e1]; exact ⟨(congrArg (fun z => some (Value.int z)) (own_all (P := fun c => ¬ ((own_gr c) = (0 : Int32)) → ((own_lo c) = (0 : Int32)) → ((own_up c) = (0 : Int32)) → ((own_dg c) = (0 : Int32)) → (1 : Int32) = (own_in (8 : Int32) c)) p1 hlo hhi (by decide +kernel) hc262 hc266 hc270 hc275)), N1, rfl⟩) (by decide) (by decide)
        · refine oS (fun t k => XS.ifYes X1.here hx rfl (pc0 := 275) (pc' := 282) rfl (hb hby d3_275) rfl ((if0 _ _).trans (feq hc275).2) (by decide) (by decide) k) ?_
          show oG _ _ _ _ _ _ _ (T1.setTop (mkF m 282 #[.val (.ref (w 3)), .val (.int p1), .val (.int (own_lo p1)), .val (.int (own_up p1)), .val (.int (own_dg p1)), .val (.int (own_gr p1))] []))
          refine oS (fun t k => oIc li_0 X1.here hx rfl (hb hby d3_282) k) ?_
          refine oS (fun t k => XS.goto X1.here hx rfl (pc0 := 283) (pc' := 350) rfl (hb hby d3_283) (by decide) (by decide) k) ?_
          exact own_ret (v := some (.int 0)) X1 (fun h => by rw [Bd.returns] at h; cases h) Bd.notSynchronized (fun fs hr => retN X1 hx (t := .boolean) Bd.returns (by simp) (hb hby d3_350) hr) (by rw [e1]; exact ⟨(congrArg (fun z => some (Value.int z)) (own_all (P := fun c => ¬ ((own_gr c) = (0 : Int32)) → ((own_lo c) = (0 : Int32)) → ((own_up c) = (0 : Int32)) → ¬ ((own_dg c) = (0 : Int32)) → (0 : Int32) = (own_in (8 : Int32) c)) p1 hlo hhi (by decide +kernel) hc262 hc266 hc270 hc275)), N1, rfl⟩) (by decide) (by decide)
      · refine oS (fun t k => XS.ifYes X1.here hx rfl (pc0 := 270) (pc' := 282) rfl (hb hby d3_270) rfl ((if0 _ _).trans (feq hc270).2) (by decide) (by decide) k) ?_
        refine oS (fun t k => oIc li_0 X1.here hx rfl (hb hby d3_282) k) ?_
        refine oS (fun t k => XS.goto X1.here hx rfl (pc0 := 283) (pc' := 350) rfl (hb hby d3_283) (by decide) (by decide) k) ?_
        show oG _ _ _ _ _ _ _ (T1.setTop (mkF m 350 #[.val (.ref (w 3)), .val (.int p1), .val (.int (own_lo p1)), .val (.int (own_up p1)), .val (.int (own_dg p1)), .val (.int (own_gr p1))] [(.int 0)]))
        exact own_ret (v := some (.int 0)) X1 (fun h => by rw [Bd.returns] at h; cases h) Bd.notSynchronized (fun fs hr => retN X1 hx (t := .boolean) Bd.returns (by simp) (hb hby d3_350) hr) (by rw [e1]; exact ⟨(congrArg (fun z => some (Value.int z)) (own_all (P := fun c => ¬ ((own_gr c) = (0 : Int32)) → ((own_lo c) = (0 : Int32)) → ¬ ((own_up c) = (0 : Int32)) → (0 : Int32) = (own_in (8 : Int32) c)) p1 hlo hhi (by decide +kernel) hc262 hc266 hc270)), N1, rfl⟩) (by decide) (by decide)
    · refine oS (fun t k => XS.ifYes X1.here hx rfl (pc0 := 266) (pc' := 282) rfl (hb hby d3_266) rfl ((if0 _ _).trans (feq hc266).2) (by decide) (by decide) k) ?_
      refine oS (fun t k => oIc li_0 X1.here hx rfl (hb hby d3_282) k) ?_
      show oG _ _ _ _ _ _ _ (T1.setTop (mkF m 283 #[.val (.ref (w 3)), .val (.int p1), .val (.int (own_lo p1)), .val (.int (own_up p1)), .val (.int (own_dg p1)), .val (.int (own_gr p1))] [(.int 0)]))
      refine oS (fun t k => XS.goto X1.here hx rfl (pc0 := 283) (pc' := 350) rfl (hb hby d3_283) (by decide) (by decide) k) ?_
      exact own_ret (v := some (.int 0)) X1 (fun h => by rw [Bd.returns] at h; cases h) Bd.notSynchronized (fun fs hr => retN X1 hx (t := .boolean) Bd.returns (by simp) (hb hby d3_350) hr) (by rw [e1]; exact ⟨(congrArg (fun z => some (Value.int z)) (own_all (P := fun c => ¬ ((own_gr c) = (0 : Int32)) → ¬ ((own_lo c) = (0 : Int32)) → (0 : Int32) = (own_in (8 : Int32) c)) p1 hlo hhi (by decide +kernel) hc262 hc266)), N1, rfl⟩) (by decide) (by decide)
def Q_ord_SPACE (Z : State)  (w : Nat → Addr) (h0 : Heap) (n0 : Nat) (v : Option Value) (h : Heap) (L : List Loc) : Prop := v = some (.int 9) ∧ Fr n0 L ∧ h = h0
set_option maxRecDepth 65536 in
set_option maxHeartbeats 40000000 in
theorem rm_ord_SPACE (l : Launch) (Z : State) (a0 : Array Value) (hw : ∀ d ∈ tables_1, d.before a0 Z = true) (ws : List Jvm.Cond)  (w : Nat → Addr) (h0 : Heap) (n0 : Nat) (O0 : Old Z n0 h0) (W : own_World Z w) :
    MetFree l mY2 (head1 (Jvm.Cond.code mY2 jdk_37_method_2_code 1 (some .int) :: ws) ({ frames := 0, cells := 0, slots := 0, locals := 0 } : Room)) (fun a U => a = #[(.ref (w 11))] ∧ Z.Warmed39 U.vm ∧ U.heap = h0) (fun _ _ _ _ _ => True) (fun _ U o U' => ∃ v L, o = .returned v ∧ Q_ord_SPACE Z  w h0 n0 v U'.heap L ∧ FrameEnd U o U' L ({ frames := 0, cells := 0, slots := 0, locals := 0 } : Room).cells ({ frames := 0, cells := 0, slots := 0, locals := 0 } : Room).slots) := by
  refine MetFree.of_bodySF (plainFor_of_name pn_1) hisR ?_
  intro p e s m args below meth c s₁ Bd hml0 hP hK
  obtain ⟨rfl, hZ, hh⟩ := hP
  have hx := Bd.exec
  have hby := Bd.bytes
  have hml : c.maxLocals = 1 := hml0
  have hown : s.vm.findClass "java/lang/Enum" = some m.cls := findClass_of_methodNamed Bd.named
  have hnm := (name_of_methodNamed Bd.named Bd.method).1
  have X0 : Stand p l e ({ frames := 0, cells := 0, slots := 0, locals := 0 } : Room) s m #[(.ref (w 11))] below meth c s₁ [] 0 0 := Stand.of_body Bd
  have e0 : s₁.heap = h0 := by rw [← hh, Bd.state]; rfl
  have N0 := Fr.nil n0
  show oG p e below s (Q_ord_SPACE Z  w h0 n0) ({ frames := 0, cells := 0, slots := 0, locals := 0 } : Room).cells ({ frames := 0, cells := 0, slots := 0, locals := 0 } : Room).slots _
  refine oS (fun t k => castTop (ef_4_r m (w 11)) k) ?_
  show oG _ _ _ _ _ _ _ (s₁.setTop (mkF m 0 #[.val (.ref (w 11))] []))
  refine oS (fun t k => XS.aloadN X0.here hx rfl (hb hby d4_0) rfl rfl k) ?_
  obtain ⟨T1, X1, e1, st1⟩ := getF X0 hx hZ hown (host := "") (Or.inl (oW hw 23 rfl)) Via.refl e0 ((wF11_ordinal W).ext O0.2) (g := (mkF m 1 #[.val (.ref (w 11))] [(.ref (w 11))])) rfl rfl (hb hby d4_1)
  refine oS (fun t k => st1 t k) ?_
  try clear st1
  exact own_ret (v := some (.int 9)) X1 (fun h => by rw [Bd.returns] at h; cases h) Bd.notSynchronized (fun fs hr => retOut X1 hx (t := .int) Bd.returns rfl (Or.inl ⟨rfl, Or.inl rfl, _, rfl⟩) (hb hby d4_4) hr) (by rw [e1]; exact ⟨rfl, N0, rfl⟩) (by decide) (by decide)
theorem d3_286 : decode prog_6_method_5_code 286 = .ok (.iload_n 1, 1) := by decide +kernel
theorem d3_287 : decode prog_6_method_5_code 287 = .ok (.bipush 32, 2) := by decide +kernel
theorem d3_289 : decode prog_6_method_5_code 289 = .ok (.if_icmp .eq 15, 3) := by decide +kernel
theorem d3_304 : decode prog_6_method_5_code 304 = .ok (.iconst 1, 1) := by decide +kernel
theorem d3_305 : decode prog_6_method_5_code 305 = .ok (.goto 45, 3) := by decide +kernel
theorem d3_292 : decode prog_6_method_5_code 292 = .ok (.iload_n 1, 1) := by decide +kernel
theorem d3_293 : decode prog_6_method_5_code 293 = .ok (.bipush 9, 2) := by decide +kernel
theorem d3_295 : decode prog_6_method_5_code 295 = .ok (.if_icmp .lt 13, 3) := by decide +kernel
theorem d3_308 : decode prog_6_method_5_code 308 = .ok (.iconst 0, 1) := by decide +kernel
theorem d3_309 : decode prog_6_method_5_code 309 = .ok (.goto 41, 3) := by decide +kernel
theorem d3_298 : decode prog_6_method_5_code 298 = .ok (.iload_n 1, 1) := by decide +kernel
theorem d3_299 : decode prog_6_method_5_code 299 = .ok (.bipush 13, 2) := by decide +kernel
theorem d3_301 : decode prog_6_method_5_code 301 = .ok (.if_icmp .gt 7, 3) := by decide +kernel
def Q_con_SPACE (Z : State) (p1 : Int32) (w : Nat → Addr) (h0 : Heap) (n0 : Nat) (v : Option Value) (h : Heap) (L : List Loc) : Prop := v = some (.int (own_in (9 : Int32) p1)) ∧ Fr n0 L ∧ h = h0
set_option maxRecDepth 65536 in
set_option maxHeartbeats 40000000 in
theorem rm_con_SPACE (l : Launch) (Z : State) (a0 : Array Value) (hw : ∀ d ∈ tables_1, d.before a0 Z = true) (ws : List Jvm.Cond) (p1 : Int32) (w : Nat → Addr) (h0 : Heap) (n0 : Nat) (O0 : Old Z n0 h0) (W : own_World Z w) (hlo : ¬ (p1 < (0 : Int32))) (hhi : p1 < (256 : Int32)) :
    MetFree l mY4 (head1 (Jvm.Cond.code mY4 prog_6_method_5_code 6 (some .boolean) :: ws) ({ frames := 1, cells := 0, slots := 0, locals := 12 } : Room)) (fun a U => a = #[(.ref (w 11)), (.int p1)] ∧ Z.Warmed39 U.vm ∧ U.heap = h0) (fun _ _ _ _ _ => True) (fun _ U o U' => ∃ v L, o = .returned v ∧ Q_con_SPACE Z p1 w h0 n0 v U'.heap L ∧ FrameEnd U o U' L ({ frames := 1, cells := 0, slots := 0, locals := 12 } : Room).cells ({ frames := 1, cells := 0, slots := 0, locals := 12 } : Room).slots) := by
  refine MetFree.of_bodySF (plainFor_of_name pn_2) hisR ?_
  intro p e s m args below meth c s₁ Bd hml0 hP hK
  obtain ⟨rfl, hZ, hh⟩ := hP
  have hx := Bd.exec
  have hby := Bd.bytes
  have hml : c.maxLocals = 6 := hml0
  have hown : s.vm.findClass "com/example/lamassu/lamassu/builtin/CharClass" = some m.cls := findClass_of_methodNamed Bd.named
  have hnm := (name_of_methodNamed Bd.named Bd.method).1
  have X0 : Stand p l e ({ frames := 1, cells := 0, slots := 0, locals := 12 } : Room) s m #[(.ref (w 11)), (.int p1)] below meth c s₁ [] 0 0 := Stand.of_body Bd
  have e0 : s₁.heap = h0 := by rw [← hh, Bd.state]; rfl
  have N0 := Fr.nil n0
  show oG p e below s (Q_con_SPACE Z p1 w h0 n0) ({ frames := 1, cells := 0, slots := 0, locals := 12 } : Room).cells ({ frames := 1, cells := 0, slots := 0, locals := 12 } : Room).slots _
  refine oS (fun t k => castTop (ef_3_ri m (w 11) p1) k) ?_
  show oG _ _ _ _ _ _ _ (s₁.setTop (mkF m 0 #[.val (.ref (w 11)), .val (.int p1), .unset, .unset, .unset, .unset] []))
  suffices cut : oG p e below s (Q_con_SPACE Z p1 w h0 n0) ({ frames := 1, cells := 0, slots := 0, locals := 12 } : Room).cells ({ frames := 1, cells := 0, slots := 0, locals := 12 } : Room).slots (s₁.setTop (mkF m 18 #[.val (.ref (w 11)), .val (.int p1), .val (.int (own_lo p1)), .unset, .unset, .unset] [])) by
    refine oS (fun t k => XS.iloadN X0.here hx rfl (hb hby d3_0) rfl k) ?_
    refine oS (fun t k => oBp lb_97 X0.here hx rfl (hb hby d3_1) k) ?_
    by_cases hc3 : p1 < (97 : Int32)
    · refine oS (fun t k => XS.icmpYes X0.here hx rfl (pc0 := 3) (pc' := 16) rfl (hb hby d3_3) rfl (tlt hc3).1 (by decide) (by decide) k) ?_
      show oG _ _ _ _ _ _ _ (s₁.setTop (mkF m 16 #[.val (.ref (w 11)), .val (.int p1), .unset, .unset, .unset, .unset] []))
      refine oS (fun t k => oIc li_0 X0.here hx rfl (hb hby d3_16) k) ?_
      refine oS (fun t k => XS.istoreN X0.here hx rfl (hb hby d3_17) rfl (l' := #[.val (.ref (w 11)), .val (.int p1), .val (.int 0), .unset, .unset, .unset]) rfl k) ?_
      have ej0 : (own_lo p1) = (0 : Int32) := (by simp only [own_lo, if_pos hc3])
      rw [ej0] at cut
      exact cut
    · refine oS (fun t k => XS.icmpNo X0.here hx rfl (hb hby d3_3) rfl (flt hc3).1 k) ?_
      show oG _ _ _ _ _ _ _ (s₁.setTop (mkF m 6 #[.val (.ref (w 11)), .val (.int p1), .unset, .unset, .unset, .unset] []))
      refine oS (fun t k => XS.iloadN X0.here hx rfl (hb hby d3_6) rfl k) ?_
      refine oS (fun t k => oBp lb_122 X0.here hx rfl (hb hby d3_7) k) ?_
      by_cases hc9 : (122 : Int32) < p1
      · refine oS (fun t k => XS.icmpYes X0.here hx rfl (pc0 := 9) (pc' := 16) rfl (hb hby d3_9) rfl (tlt hc9).2.2.1 (by decide) (by decide) k) ?_
        show oG _ _ _ _ _ _ _ (s₁.setTop (mkF m 16 #[.val (.ref (w 11)), .val (.int p1), .unset, .unset, .unset, .unset] []))
        refine oS (fun t k => oIc li_0 X0.here hx rfl (hb hby d3_16) k) ?_
        refine oS (fun t k => XS.istoreN X0.here hx rfl (hb hby d3_17) rfl (l' := #[.val (.ref (w 11)), .val (.int p1), .val (.int 0), .unset, .unset, .unset]) rfl k) ?_
        have ej0 : (own_lo p1) = (0 : Int32) := (by simp only [own_lo, if_neg hc3, if_pos hc9])
        rw [ej0] at cut
        exact cut
      · refine oS (fun t k => XS.icmpNo X0.here hx rfl (hb hby d3_9) rfl (flt hc9).2.2.1 k) ?_
        show oG _ _ _ _ _ _ _ (s₁.setTop (mkF m 12 #[.val (.ref (w 11)), .val (.int p1), .unset, .unset, .unset, .unset] []))
        refine oS (fun t k => oIc li_1 X0.here hx rfl (hb hby d3_12) k) ?_
        refine oS (fun t k => XS.goto X0.here hx rfl (pc0 := 13) (pc' := 17) rfl (hb hby d3_13) (by decide) (by decide) k) ?_
        refine oS (fun t k => XS.istoreN X0.here hx rfl (hb hby d3_17) rfl (l' := #[.val (.ref (w 11)), .val (.int p1), .val (.int 1), .unset, .unset, .unset]) rfl k) ?_
        show oG _ _ _ _ _ _ _ (s₁.setTop (mkF m 18 #[.val (.ref (w 11)), .val (.int p1), .val (.int 1), .unset, .unset, .unset] []))
        have ej0 : (own_lo p1) = (1 : Int32) := (by simp only [own_lo, if_neg hc3, if_neg hc9])
        rw [ej0] at cut
        exact cut
  suffices cut : oG p e below s (Q_con_SPACE Z p1 w h0 n0) ({ frames := 1, cells := 0, slots := 0, locals := 12 } : Room).cells ({ frames := 1, cells := 0, slots := 0, locals := 12 } : Room).slots (s₁.setTop (mkF m 36 #[.val (.ref (w 11)), .val (.int p1), .val (.int (own_lo p1)), .val (.int (own_up p1)), .unset, .unset] [])) by
    refine oS (fun t k => XS.iloadN X0.here hx rfl (hb hby d3_18) rfl k) ?_
    refine oS (fun t k => oBp lb_65 X0.here hx rfl (hb hby d3_19) k) ?_
    by_cases hc21 : p1 < (65 : Int32)
    · refine oS (fun t k => XS.icmpYes X0.here hx rfl (pc0 := 21) (pc' := 34) rfl (hb hby d3_21) rfl (tlt hc21).1 (by decide) (by decide) k) ?_
      show oG _ _ _ _ _ _ _ (s₁.setTop (mkF m 34 #[.val (.ref (w 11)), .val (.int p1), .val (.int (own_lo p1)), .unset, .unset, .unset] []))
      refine oS (fun t k => oIc li_0 X0.here hx rfl (hb hby d3_34) k) ?_
      refine oS (fun t k => XS.istoreN X0.here hx rfl (hb hby d3_35) rfl (l' := #[.val (.ref (w 11)), .val (.int p1), .val (.int (own_lo p1)), .val (.int 0), .unset, .unset]) rfl k) ?_
      have ej0 : (own_up p1) = (0 : Int32) := (by simp only [own_up, if_pos hc21])
      rw [ej0] at cut
      exact cut
    · refine oS (fun t k => XS.icmpNo X0.here hx rfl (hb hby d3_21) rfl (flt hc21).1 k) ?_
      show oG _ _ _ _ _ _ _ (s₁.setTop (mkF m 24 #[.val (.ref (w 11)), .val (.int p1), .val (.int (own_lo p1)), .unset, .unset, .unset] []))
      refine oS (fun t k => XS.iloadN X0.here hx rfl (hb hby d3_24) rfl k) ?_
      refine oS (fun t k => oBp lb_90 X0.here hx rfl (hb hby d3_25) k) ?_
      by_cases hc27 : (90 : Int32) < p1
      · refine oS (fun t k => XS.icmpYes X0.here hx rfl (pc0 := 27) (pc' := 34) rfl (hb hby d3_27) rfl (tlt hc27).2.2.1 (by decide) (by decide) k) ?_
        show oG _ _ _ _ _ _ _ (s₁.setTop (mkF m 34 #[.val (.ref (w 11)), .val (.int p1), .val (.int (own_lo p1)), .unset, .unset, .unset] []))
        refine oS (fun t k => oIc li_0 X0.here hx rfl (hb hby d3_34) k) ?_
        refine oS (fun t k => XS.istoreN X0.here hx rfl (hb hby d3_35) rfl (l' := #[.val (.ref (w 11)), .val (.int p1), .val (.int (own_lo p1)), .val (.int 0), .unset, .unset]) rfl k) ?_
        have ej0 : (own_up p1) = (0 : Int32) := (by simp only [own_up, if_neg hc21, if_pos hc27])
        rw [ej0] at cut
        exact cut
      · refine oS (fun t k => XS.icmpNo X0.here hx rfl (hb hby d3_27) rfl (flt hc27).2.2.1 k) ?_
        show oG _ _ _ _ _ _ _ (s₁.setTop (mkF m 30 #[.val (.ref (w 11)), .val (.int p1), .val (.int (own_lo p1)), .unset, .unset, .unset] []))
        refine oS (fun t k => oIc li_1 X0.here hx rfl (hb hby d3_30) k) ?_
        refine oS (fun t k => XS.goto X0.here hx rfl (pc0 := 31) (pc' := 35) rfl (hb hby d3_31) (by decide) (by decide) k) ?_
        refine oS (fun t k => XS.istoreN X0.here hx rfl (hb hby d3_35) rfl (l' := #[.val (.ref (w 11)), .val (.int p1), .val (.int (own_lo p1)), .val (.int 1), .unset, .unset]) rfl k) ?_
        show oG _ _ _ _ _ _ _ (s₁.setTop (mkF m 36 #[.val (.ref (w 11)), .val (.int p1), .val (.int (own_lo p1)), .val (.int 1), .unset, .unset] []))
        have ej0 : (own_up p1) = (1 : Int32) := (by simp only [own_up, if_neg hc21, if_neg hc27])
        rw [ej0] at cut
        exact cut
  suffices cut : oG p e below s (Q_con_SPACE Z p1 w h0 n0) ({ frames := 1, cells := 0, slots := 0, locals := 12 } : Room).cells ({ frames := 1, cells := 0, slots := 0, locals := 12 } : Room).slots (s₁.setTop (mkF m 55 #[.val (.ref (w 11)), .val (.int p1), .val (.int (own_lo p1)), .val (.int (own_up p1)), .val (.int (own_dg p1)), .unset] [])) by
    refine oS (fun t k => XS.iloadN X0.here hx rfl (hb hby d3_36) rfl k) ?_
    refine oS (fun t k => oBp lb_48 X0.here hx rfl (hb hby d3_37) k) ?_
    by_cases hc39 : p1 < (48 : Int32)
    · refine oS (fun t k => XS.icmpYes X0.here hx rfl (pc0 := 39) (pc' := 52) rfl (hb hby d3_39) rfl (tlt hc39).1 (by decide) (by decide) k) ?_
      show oG _ _ _ _ _ _ _ (s₁.setTop (mkF m 52 #[.val (.ref (w 11)), .val (.int p1), .val (.int (own_lo p1)), .val (.int (own_up p1)), .unset, .unset] []))
      refine oS (fun t k => oIc li_0 X0.here hx rfl (hb hby d3_52) k) ?_
      refine oS (fun t k => XS.istore X0.here hx rfl (hb hby d3_53) rfl (l' := #[.val (.ref (w 11)), .val (.int p1), .val (.int (own_lo p1)), .val (.int (own_up p1)), .val (.int 0), .unset]) rfl k) ?_
      have ej0 : (own_dg p1) = (0 : Int32) := (by simp only [own_dg, if_pos hc39])
      rw [ej0] at cut
      exact cut
    · refine oS (fun t k => XS.icmpNo X0.here hx rfl (hb hby d3_39) rfl (flt hc39).1 k) ?_
      show oG _ _ _ _ _ _ _ (s₁.setTop (mkF m 42 #[.val (.ref (w 11)), .val (.int p1), .val (.int (own_lo p1)), .val (.int (own_up p1)), .unset, .unset] []))
      refine oS (fun t k => XS.iloadN X0.here hx rfl (hb hby d3_42) rfl k) ?_
      refine oS (fun t k => oBp lb_57 X0.here hx rfl (hb hby d3_43) k) ?_
      by_cases hc45 : (57 : Int32) < p1
      · refine oS (fun t k => XS.icmpYes X0.here hx rfl (pc0 := 45) (pc' := 52) rfl (hb hby d3_45) rfl (tlt hc45).2.2.1 (by decide) (by decide) k) ?_
        show oG _ _ _ _ _ _ _ (s₁.setTop (mkF m 52 #[.val (.ref (w 11)), .val (.int p1), .val (.int (own_lo p1)), .val (.int (own_up p1)), .unset, .unset] []))
        refine oS (fun t k => oIc li_0 X0.here hx rfl (hb hby d3_52) k) ?_
        refine oS (fun t k => XS.istore X0.here hx rfl (hb hby d3_53) rfl (l' := #[.val (.ref (w 11)), .val (.int p1), .val (.int (own_lo p1)), .val (.int (own_up p1)), .val (.int 0), .unset]) rfl k) ?_
        have ej0 : (own_dg p1) = (0 : Int32) := (by simp only [own_dg, if_neg hc39, if_pos hc45])
        rw [ej0] at cut
        exact cut
      · refine oS (fun t k => XS.icmpNo X0.here hx rfl (hb hby d3_45) rfl (flt hc45).2.2.1 k) ?_
        show oG _ _ _ _ _ _ _ (s₁.setTop (mkF m 48 #[.val (.ref (w 11)), .val (.int p1), .val (.int (own_lo p1)), .val (.int (own_up p1)), .unset, .unset] []))
        refine oS (fun t k => oIc li_1 X0.here hx rfl (hb hby d3_48) k) ?_
        refine oS (fun t k => XS.goto X0.here hx rfl (pc0 := 49) (pc' := 53) rfl (hb hby d3_49) (by decide) (by decide) k) ?_
        refine oS (fun t k => XS.istore X0.here hx rfl (hb hby d3_53) rfl (l' := #[.val (.ref (w 11)), .val (.int p1), .val (.int (own_lo p1)), .val (.int (own_up p1)), .val (.int 1), .unset]) rfl k) ?_
        show oG _ _ _ _ _ _ _ (s₁.setTop (mkF m 55 #[.val (.ref (w 11)), .val (.int p1), .val (.int (own_lo p1)), .val (.int (own_up p1)), .val (.int 1), .unset] []))
        have ej0 : (own_dg p1) = (1 : Int32) := (by simp only [own_dg, if_neg hc39, if_neg hc45])
        rw [ej0] at cut
        exact cut
  suffices cut : oG p e below s (Q_con_SPACE Z p1 w h0 n0) ({ frames := 1, cells := 0, slots := 0, locals := 12 } : Room).cells ({ frames := 1, cells := 0, slots := 0, locals := 12 } : Room).slots (s₁.setTop (mkF m 74 #[.val (.ref (w 11)), .val (.int p1), .val (.int (own_lo p1)), .val (.int (own_up p1)), .val (.int (own_dg p1)), .val (.int (own_gr p1))] [])) by
    refine oS (fun t k => XS.iloadN X0.here hx rfl (hb hby d3_55) rfl k) ?_
    refine oS (fun t k => oBp lb_32 X0.here hx rfl (hb hby d3_56) k) ?_
    by_cases hc58 : (32 : Int32) < p1
    · refine oS (fun t k => XS.icmpNo X0.here hx rfl (hb hby d3_58) rfl (tlt hc58).2.2.2 k) ?_
      show oG _ _ _ _ _ _ _ (s₁.setTop (mkF m 61 #[.val (.ref (w 11)), .val (.int p1), .val (.int (own_lo p1)), .val (.int (own_up p1)), .val (.int (own_dg p1)), .unset] []))
      refine oS (fun t k => XS.iloadN X0.here hx rfl (hb hby d3_61) rfl k) ?_
      refine oS (fun t k => oBp lb_127 X0.here hx rfl (hb hby d3_62) k) ?_
      by_cases hc64 : p1 < (127 : Int32)
      · refine oS (fun t k => XS.icmpNo X0.here hx rfl (hb hby d3_64) rfl (tlt hc64).2.1 k) ?_
        show oG _ _ _ _ _ _ _ (s₁.setTop (mkF m 67 #[.val (.ref (w 11)), .val (.int p1), .val (.int (own_lo p1)), .val (.int (own_up p1)), .val (.int (own_dg p1)), .unset] []))
        refine oS (fun t k => oIc li_1 X0.here hx rfl (hb hby d3_67) k) ?_
        refine oS (fun t k => XS.goto X0.here hx rfl (pc0 := 68) (pc' := 72) rfl (hb hby d3_68) (by decide) (by decide) k) ?_
        refine oS (fun t k => XS.istore X0.here hx rfl (hb hby d3_72) rfl (l' := #[.val (.ref (w 11)), .val (.int p1), .val (.int (own_lo p1)), .val (.int (own_up p1)), .val (.int (own_dg p1)), .val (.int 1)]) rfl k) ?_
        show oG _ _ _ _ _ _ _ (s₁.setTop (mkF m 74 #[.val (.ref (w 11)), .val (.int p1), .val (.int (own_lo p1)), .val (.int (own_up p1)), .val (.int (own_dg p1)), .val (.int 1)] []))
        have ej0 : (own_gr p1) = (1 : Int32) := (by simp only [own_gr, if_pos hc58, if_pos hc64])
        rw [ej0] at cut
        exact cut
      · refine oS (fun t k => XS.icmpYes X0.here hx rfl (pc0 := 64) (pc' := 71) rfl (hb hby d3_64) rfl (flt hc64).2.1 (by decide) (by decide) k) ?_
        show oG _ _ _ _ _ _ _ (s₁.setTop (mkF m 71 #[.val (.ref (w 11)), .val (.int p1), .val (.int (own_lo p1)), .val (.int (own_up p1)), .val (.int (own_dg p1)), .unset] []))
        refine oS (fun t k => oIc li_0 X0.here hx rfl (hb hby d3_71) k) ?_
        refine oS (fun t k => XS.istore X0.here hx rfl (hb hby d3_72) rfl (l' := #[.val (.ref (w 11)), .val (.int p1), .val (.int (own_lo p1)), .val (.int (own_up p1)), .val (.int (own_dg p1)), .val (.int 0)]) rfl k) ?_
        have ej0 : (own_gr p1) = (0 : Int32) := (by simp only [own_gr, if_pos hc58, if_neg hc64])
        rw [ej0] at cut
        exact cut
    · refine oS (fun t k => XS.icmpYes X0.here hx rfl (pc0 := 58) (pc' := 71) rfl (hb hby d3_58) rfl (flt hc58).2.2.2 (by decide) (by decide) k) ?_
      show oG _ _ _ _ _ _ _ (s₁.setTop (mkF m 71 #[.val (.ref (w 11)), .val (.int p1), .val (.int (own_lo p1)), .val (.int (own_up p1)), .val (.int (own_dg p1)), .unset] []))
      refine oS (fun t k => oIc li_0 X0.here hx rfl (hb hby d3_71) k) ?_
      refine oS (fun t k => XS.istore X0.here hx rfl (hb hby d3_72) rfl (l' := #[.val (.ref (w 11)), .val (.int p1), .val (.int (own_lo p1)), .val (.int (own_up p1)), .val (.int (own_dg p1)), .val (.int 0)]) rfl k) ?_
      have ej0 : (own_gr p1) = (0 : Int32) := (by simp only [own_gr, if_neg hc58])
      rw [ej0] at cut
      exact cut
  refine oS (fun t k => XS.aloadN X0.here hx rfl (hb hby d3_74) rfl rfl k) ?_
  obtain ⟨cq1, kq1, q1a, q1b, q1c⟩ := isOf hZ e0 ((wE11 W).ext O0.2)
  obtain ⟨_, _, ⟨T1, L1, k1, n1⟩, -, X1, ⟨Lc1, hQ1, l1, y1, z1⟩, st1⟩ := X0.virtualBackUp hx (x := mY3) (y := mY2) hown (mvT hZ (oW hw 16 rfl)) (mvT hZ (oW hw 17 rfl)) (mvT hZ (oW hw 18 rfl)) (by decide) (mvT hZ (oW hw 20 rfl)) (mvT hZ (oW hw 19 rfl)) (backOf (W := 0) (rm_ord_SPACE l Z a0 hw []  w h0 n0 O0 W ) hZ (oW hw 22 rfl) (oW hw 21 rfl) (by decide) (by decide)) q1a q1c (g := (mkF m 75 #[.val (.ref (w 11)), .val (.int p1), .val (.int (own_lo p1)), .val (.int (own_up p1)), .val (.int (own_dg p1)), .val (.int (own_gr p1))] [(.ref (w 11))])) rfl (by rw [hml]; rfl) (Steps.refl _) (argsL := []) (rest := []) (lenOf pd_0 rfl) rfl (by show 2 * 0 + _ ≤ _; exact Nat.le_of_eq rfl) (hb hby d3_75) (fun _ _ => ⟨rfl, e0, (by decide : 0 + 0 ≤ _), (by decide : 0 + 0 ≤ _)⟩)
  dsimp only [Pt.U, Pt.locs, Pt.cells, Pt.slots] at X1 l1 y1 z1 st1 hQ1
  subst l1 y1 z1
  obtain ⟨rfl, Nq1, e1⟩ := hQ1
  have N1 := Fr.app N0 Nq1
  refine oS (fun t k => st1.trans k) ?_
  show oG _ _ _ _ _ _ _ (T1.setTop (mkF m 78 #[.val (.ref (w 11)), .val (.int p1), .val (.int (own_lo p1)), .val (.int (own_up p1)), .val (.int (own_dg p1)), .val (.int (own_gr p1))] [(.int 9)]))
  try clear st1
  refine oS (fun t k => XS.tswIn X1.here hx rfl (pc0 := 78) (pc' := 286) rfl (hb hby d3_78) (i := (9 : Int32)) rfl (by decide) (o := 208) rfl (by decide) (by decide) k) ?_
  refine oS (fun t k => XS.iloadN X1.here hx rfl (hb hby d3_286) rfl k) ?_
  refine oS (fun t k => oBp lb_32 X1.here hx rfl (hb hby d3_287) k) ?_
  show oG _ _ _ _ _ _ _ (T1.setTop (mkF m 289 #[.val (.ref (w 11)), .val (.int p1), .val (.int (own_lo p1)), .val (.int (own_up p1)), .val (.int (own_dg p1)), .val (.int (own_gr p1))] [(.int 32), (.int p1)]))
  by_cases hc289 : p1 = (32 : Int32)
  · refine oS (fun t k => XS.icmpYes X1.here hx rfl (pc0 := 289) (pc' := 304) rfl (hb hby d3_289) rfl (teq hc289).1 (by decide) (by decide) k) ?_
    refine oS (fun t k => oIc li_1 X1.here hx rfl (hb hby d3_304) k) ?_
    refine oS (fun t k => XS.goto X1.here hx rfl (pc0 := 305) (pc' := 350) rfl (hb hby d3_305) (by decide) (by decide) k) ?_
    show oG _ _ _ _ _ _ _ (T1.setTop (mkF m 350 #[.val (.ref (w 11)), .val (.int p1), .val (.int (own_lo p1)), .val (.int (own_up p1)), .val (.int (own_dg p1)), .val (.int (own_gr p1))] [(.int 1)]))
    exact own_ret (v := some (.int 1)) X1 (fun h => by rw [Bd.returns] at h; cases h) Bd.notSynchronized (fun fs hr => retN X1 hx (t := .boolean) Bd.returns (by simp) (hb hby d3_350) hr) (by rw [e1]; exact ⟨(congrArg (fun z => some (Value.int z)) (own_all (P := fun c => (c = (32 : Int32)) → (1 : Int32) = (own_in (9 : Int32) c)) p1 hlo hhi (by decide +kernel) hc289)), N1, rfl⟩) (by decide) (by decide)
  · refine oS (fun t k => XS.icmpNo X1.here hx rfl (hb hby d3_289) rfl (feq hc289).1 k) ?_
    refine oS (fun t k => XS.iloadN X1.here hx rfl (hb hby d3_292) rfl k) ?_
    refine oS (fun t k => oBp lb_9 X1.here hx rfl (hb hby d3_293) k) ?_
    show oG _ _ _ _ _ _ _ (T1.setTop (mkF m 295 #[.val (.ref (w 11)), .val (.int p1), .val (.int (own_lo p1)), .val (.int (own_up p1)), .val (.int (own_dg p1)), .val (.int (own_gr p1))] [(.int 9), (.int p1)]))
    by_cases hc295 : p1 < (9 : Int32)
    · refine oS (fun t k => XS.icmpYes X1.here hx rfl (pc0 := 295) (pc' := 308) rfl (hb hby d3_295) rfl (tlt hc295).1 (by decide) (by decide) k) ?_
      refine oS (fun t k => oIc li_0 X1.here hx rfl (hb hby d3_308) k) ?_
      refine oS (fun t k => XS.goto X1.here hx rfl (pc0 := 309) (pc' := 350) rfl (hb hby d3_309) (by decide) (by decide) k) ?_
      show oG _ _ _ _ _ _ _ (T1.setTop (mkF m 350 #[.val (.ref (w 11)), .val (.int p1), .val (.int (own_lo p1)), .val (.int (own_up p1)), .val (.int (own_dg p1)), .val (.int (own_gr p1))] [(.int 0)]))
      exact own_ret (v := some (.int 0)) X1 (fun h => by rw [Bd.returns] at h; cases h) Bd.notSynchronized (fun fs hr => retN X1 hx (t := .boolean) Bd.returns (by simp) (hb hby d3_350) hr) (by rw [e1]; exact ⟨(congrArg (fun z => some (Value.int z)) (own_all (P := fun c => ¬ (c = (32 : Int32)) → (c < (9 : Int32)) → (0 : Int32) = (own_in (9 : Int32) c)) p1 hlo hhi (by decide +kernel) hc289 hc295)), N1, rfl⟩) (by decide) (by decide)
    · refine oS (fun t k => XS.icmpNo X1.here hx rfl (hb hby d3_295) rfl (flt hc295).1 k) ?_
      refine oS (fun t k => XS.iloadN X1.here hx rfl (hb hby d3_298) rfl k) ?_
      refine oS (fun t k => oBp lb_13 X1.here hx rfl (hb hby d3_299) k) ?_
      show oG _ _ _ _ _ _ _ (T1.setTop (mkF m 301 #[.val (.ref (w 11)), .val (.int p1), .val (.int (own_lo p1)), .val (.int (own_up p1)), .val (.int (own_dg p1)), .val (.int (own_gr p1))] [(.int 13), (.int p1)]))
      by_cases hc301 : (13 : Int32) < p1
      · refine oS (fun t k => XS.icmpYes X1.here hx rfl (pc0 := 301) (pc' := 308) rfl (hb hby d3_301) rfl (tlt hc301).2.2.1 (by decide) (by decide) k) ?_
        refine oS (fun t k => oIc li_0 X1.here hx rfl (hb hby d3_308) k) ?_
        refine oS (fun t k => XS.goto X1.here hx rfl (pc0 := 309) (pc' := 350) rfl (hb hby d3_309) (by decide) (by decide) k) ?_
        show oG _ _ _ _ _ _ _ (T1.setTop (mkF m 350 #[.val (.ref (w 11)), .val (.int p1), .val (.int (own_lo p1)), .val (.int (own_up p1)), .val (.int (own_dg p1)), .val (.int (own_gr p1))] [(.int 0)]))
        exact own_ret (v := some (.int 0)) X1 (fun h => by rw [Bd.returns] at h; cases h) Bd.notSynchronized (fun fs hr => retN X1 hx (t := .boolean) Bd.returns (by simp) (hb hby d3_350) hr) (by rw [e1]; exact ⟨(congrArg (fun z => some (Value.int z)) (own_all (P := fun c => ¬ (c = (32 : Int32)) → ¬ (c < (9 : Int32)) → ((13 : Int32) < c) → (0 : Int32) = (own_in (9 : Int32) c)) p1 hlo hhi (by decide +kernel) hc289 hc295 hc301)), N1, rfl⟩) (by decide) (by decide)
      · refine oS (fun t k => XS.icmpNo X1.here hx rfl (hb hby d3_301) rfl (flt hc301).2.2.1 k) ?_
        refine oS (fun t k => oIc li_1 X1.here hx rfl (hb hby d3_304) k) ?_
        refine oS (fun t k => XS.goto X1.here hx rfl (pc0 := 305) (pc' := 350) rfl (hb hby d3_305) (by decide) (by decide) k) ?_
        show oG _ _ _ _ _ _ _ (T1.setTop (mkF m 350 #[.val (.ref (w 11)), .val (.int p1), .val (.int (own_lo p1)), .val (.int (own_up p1)), .val (.int (own_dg p1)), .val (.int (own_gr p1))] [(.int 1)]))
        exact own_ret (v := some (.int 1)) X1 (fun h => by rw [Bd.returns] at h; cases h) Bd.notSynchronized (fun fs hr => retN X1 hx (t := .boolean) Bd.returns (by simp) (hb hby d3_350) hr) (by rw [e1]; exact ⟨(congrArg (fun z => some (Value.int z)) (own_all (P := fun c => ¬ (c = (32 : Int32)) → ¬ (c < (9 : Int32)) → ¬ ((13 : Int32) < c) → (1 : Int32) = (own_in (9 : Int32) c)) p1 hlo hhi (by decide +kernel) hc289 hc295 hc301)), N1, rfl⟩) (by decide) (by decide)
def Q_ord_UPPER (Z : State)  (w : Nat → Addr) (h0 : Heap) (n0 : Nat) (v : Option Value) (h : Heap) (L : List Loc) : Prop := v = some (.int 10) ∧ Fr n0 L ∧ h = h0
set_option maxRecDepth 65536 in
set_option maxHeartbeats 40000000 in
theorem rm_ord_UPPER (l : Launch) (Z : State) (a0 : Array Value) (hw : ∀ d ∈ tables_1, d.before a0 Z = true) (ws : List Jvm.Cond)  (w : Nat → Addr) (h0 : Heap) (n0 : Nat) (O0 : Old Z n0 h0) (W : own_World Z w) :
    MetFree l mY2 (head1 (Jvm.Cond.code mY2 jdk_37_method_2_code 1 (some .int) :: ws) ({ frames := 0, cells := 0, slots := 0, locals := 0 } : Room)) (fun a U => a = #[(.ref (w 8))] ∧ Z.Warmed39 U.vm ∧ U.heap = h0) (fun _ _ _ _ _ => True) (fun _ U o U' => ∃ v L, o = .returned v ∧ Q_ord_UPPER Z  w h0 n0 v U'.heap L ∧ FrameEnd U o U' L ({ frames := 0, cells := 0, slots := 0, locals := 0 } : Room).cells ({ frames := 0, cells := 0, slots := 0, locals := 0 } : Room).slots) := by
  refine MetFree.of_bodySF (plainFor_of_name pn_1) hisR ?_
  intro p e s m args below meth c s₁ Bd hml0 hP hK
  obtain ⟨rfl, hZ, hh⟩ := hP
  have hx := Bd.exec
  have hby := Bd.bytes
  have hml : c.maxLocals = 1 := hml0
  have hown : s.vm.findClass "java/lang/Enum" = some m.cls := findClass_of_methodNamed Bd.named
  have hnm := (name_of_methodNamed Bd.named Bd.method).1
  have X0 : Stand p l e ({ frames := 0, cells := 0, slots := 0, locals := 0 } : Room) s m #[(.ref (w 8))] below meth c s₁ [] 0 0 := Stand.of_body Bd
  have e0 : s₁.heap = h0 := by rw [← hh, Bd.state]; rfl
  have N0 := Fr.nil n0
  show oG p e below s (Q_ord_UPPER Z  w h0 n0) ({ frames := 0, cells := 0, slots := 0, locals := 0 } : Room).cells ({ frames := 0, cells := 0, slots := 0, locals := 0 } : Room).slots _
  refine oS (fun t k => castTop (ef_4_r m (w 8)) k) ?_
  show oG _ _ _ _ _ _ _ (s₁.setTop (mkF m 0 #[.val (.ref (w 8))] []))
  refine oS (fun t k => XS.aloadN X0.here hx rfl (hb hby d4_0) rfl rfl k) ?_
  obtain ⟨T1, X1, e1, st1⟩ := getF X0 hx hZ hown (host := "") (Or.inl (oW hw 23 rfl)) Via.refl e0 ((wF8_ordinal W).ext O0.2) (g := (mkF m 1 #[.val (.ref (w 8))] [(.ref (w 8))])) rfl rfl (hb hby d4_1)
  refine oS (fun t k => st1 t k) ?_
  try clear st1
  exact own_ret (v := some (.int 10)) X1 (fun h => by rw [Bd.returns] at h; cases h) Bd.notSynchronized (fun fs hr => retOut X1 hx (t := .int) Bd.returns rfl (Or.inl ⟨rfl, Or.inl rfl, _, rfl⟩) (hb hby d4_4) hr) (by rw [e1]; exact ⟨rfl, N0, rfl⟩) (by decide) (by decide)
theorem d3_312 : decode prog_6_method_5_code 312 = .ok (.iload_n 3, 1) := by decide +kernel
theorem d3_313 : decode prog_6_method_5_code 313 = .ok (.goto 37, 3) := by decide +kernel
def Q_con_UPPER (Z : State) (p1 : Int32) (w : Nat → Addr) (h0 : Heap) (n0 : Nat) (v : Option Value) (h : Heap) (L : List Loc) : Prop := v = some (.int (own_in (10 : Int32) p1)) ∧ Fr n0 L ∧ h = h0
set_option maxRecDepth 65536 in
set_option maxHeartbeats 40000000 in
theorem rm_con_UPPER (l : Launch) (Z : State) (a0 : Array Value) (hw : ∀ d ∈ tables_1, d.before a0 Z = true) (ws : List Jvm.Cond) (p1 : Int32) (w : Nat → Addr) (h0 : Heap) (n0 : Nat) (O0 : Old Z n0 h0) (W : own_World Z w) (hlo : ¬ (p1 < (0 : Int32))) (hhi : p1 < (256 : Int32)) :
    MetFree l mY4 (head1 (Jvm.Cond.code mY4 prog_6_method_5_code 6 (some .boolean) :: ws) ({ frames := 1, cells := 0, slots := 0, locals := 12 } : Room)) (fun a U => a = #[(.ref (w 8)), (.int p1)] ∧ Z.Warmed39 U.vm ∧ U.heap = h0) (fun _ _ _ _ _ => True) (fun _ U o U' => ∃ v L, o = .returned v ∧ Q_con_UPPER Z p1 w h0 n0 v U'.heap L ∧ FrameEnd U o U' L ({ frames := 1, cells := 0, slots := 0, locals := 12 } : Room).cells ({ frames := 1, cells := 0, slots := 0, locals := 12 } : Room).slots) := by
  refine MetFree.of_bodySF (plainFor_of_name pn_2) hisR ?_
  intro p e s m args below meth c s₁ Bd hml0 hP hK
  obtain ⟨rfl, hZ, hh⟩ := hP
  have hx := Bd.exec
  have hby := Bd.bytes
  have hml : c.maxLocals = 6 := hml0
  have hown : s.vm.findClass "com/example/lamassu/lamassu/builtin/CharClass" = some m.cls := findClass_of_methodNamed Bd.named
  have hnm := (name_of_methodNamed Bd.named Bd.method).1
  have X0 : Stand p l e ({ frames := 1, cells := 0, slots := 0, locals := 12 } : Room) s m #[(.ref (w 8)), (.int p1)] below meth c s₁ [] 0 0 := Stand.of_body Bd
  have e0 : s₁.heap = h0 := by rw [← hh, Bd.state]; rfl
  have N0 := Fr.nil n0
  show oG p e below s (Q_con_UPPER Z p1 w h0 n0) ({ frames := 1, cells := 0, slots := 0, locals := 12 } : Room).cells ({ frames := 1, cells := 0, slots := 0, locals := 12 } : Room).slots _
  refine oS (fun t k => castTop (ef_3_ri m (w 8) p1) k) ?_
  show oG _ _ _ _ _ _ _ (s₁.setTop (mkF m 0 #[.val (.ref (w 8)), .val (.int p1), .unset, .unset, .unset, .unset] []))
  suffices cut : oG p e below s (Q_con_UPPER Z p1 w h0 n0) ({ frames := 1, cells := 0, slots := 0, locals := 12 } : Room).cells ({ frames := 1, cells := 0, slots := 0, locals := 12 } : Room).slots (s₁.setTop (mkF m 18 #[.val (.ref (w 8)), .val (.int p1), .val (.int (own_lo p1)), .unset, .unset, .unset] [])) by
    refine oS (fun t k => XS.iloadN X0.here hx rfl (hb hby d3_0) rfl k) ?_
    refine oS (fun t k => oBp lb_97 X0.here hx rfl (hb hby d3_1) k) ?_
    by_cases hc3 : p1 < (97 : Int32)
    · refine oS (fun t k => XS.icmpYes X0.here hx rfl (pc0 := 3) (pc' := 16) rfl (hb hby d3_3) rfl (tlt hc3).1 (by decide) (by decide) k) ?_
      show oG _ _ _ _ _ _ _ (s₁.setTop (mkF m 16 #[.val (.ref (w 8)), .val (.int p1), .unset, .unset, .unset, .unset] []))
      refine oS (fun t k => oIc li_0 X0.here hx rfl (hb hby d3_16) k) ?_
      refine oS (fun t k => XS.istoreN X0.here hx rfl (hb hby d3_17) rfl (l' := #[.val (.ref (w 8)), .val (.int p1), .val (.int 0), .unset, .unset, .unset]) rfl k) ?_
      have ej0 : (own_lo p1) = (0 : Int32) := (by simp only [own_lo, if_pos hc3])
      rw [ej0] at cut
      exact cut
    · refine oS (fun t k => XS.icmpNo X0.here hx rfl (hb hby d3_3) rfl (flt hc3).1 k) ?_
      show oG _ _ _ _ _ _ _ (s₁.setTop (mkF m 6 #[.val (.ref (w 8)), .val (.int p1), .unset, .unset, .unset, .unset] []))
      refine oS (fun t k => XS.iloadN X0.here hx rfl (hb hby d3_6) rfl k) ?_
      refine oS (fun t k => oBp lb_122 X0.here hx rfl (hb hby d3_7) k) ?_
      by_cases hc9 : (122 : Int32) < p1
      · refine oS (fun t k => XS.icmpYes X0.here hx rfl (pc0 := 9) (pc' := 16) rfl (hb hby d3_9) rfl (tlt hc9).2.2.1 (by decide) (by decide) k) ?_
        show oG _ _ _ _ _ _ _ (s₁.setTop (mkF m 16 #[.val (.ref (w 8)), .val (.int p1), .unset, .unset, .unset, .unset] []))
        refine oS (fun t k => oIc li_0 X0.here hx rfl (hb hby d3_16) k) ?_
        refine oS (fun t k => XS.istoreN X0.here hx rfl (hb hby d3_17) rfl (l' := #[.val (.ref (w 8)), .val (.int p1), .val (.int 0), .unset, .unset, .unset]) rfl k) ?_
        have ej0 : (own_lo p1) = (0 : Int32) := (by simp only [own_lo, if_neg hc3, if_pos hc9])
        rw [ej0] at cut
        exact cut
      · refine oS (fun t k => XS.icmpNo X0.here hx rfl (hb hby d3_9) rfl (flt hc9).2.2.1 k) ?_
        show oG _ _ _ _ _ _ _ (s₁.setTop (mkF m 12 #[.val (.ref (w 8)), .val (.int p1), .unset, .unset, .unset, .unset] []))
        refine oS (fun t k => oIc li_1 X0.here hx rfl (hb hby d3_12) k) ?_
        refine oS (fun t k => XS.goto X0.here hx rfl (pc0 := 13) (pc' := 17) rfl (hb hby d3_13) (by decide) (by decide) k) ?_
        refine oS (fun t k => XS.istoreN X0.here hx rfl (hb hby d3_17) rfl (l' := #[.val (.ref (w 8)), .val (.int p1), .val (.int 1), .unset, .unset, .unset]) rfl k) ?_
        show oG _ _ _ _ _ _ _ (s₁.setTop (mkF m 18 #[.val (.ref (w 8)), .val (.int p1), .val (.int 1), .unset, .unset, .unset] []))
        have ej0 : (own_lo p1) = (1 : Int32) := (by simp only [own_lo, if_neg hc3, if_neg hc9])
        rw [ej0] at cut
        exact cut
  suffices cut : oG p e below s (Q_con_UPPER Z p1 w h0 n0) ({ frames := 1, cells := 0, slots := 0, locals := 12 } : Room).cells ({ frames := 1, cells := 0, slots := 0, locals := 12 } : Room).slots (s₁.setTop (mkF m 36 #[.val (.ref (w 8)), .val (.int p1), .val (.int (own_lo p1)), .val (.int (own_up p1)), .unset, .unset] [])) by
    refine oS (fun t k => XS.iloadN X0.here hx rfl (hb hby d3_18) rfl k) ?_
    refine oS (fun t k => oBp lb_65 X0.here hx rfl (hb hby d3_19) k) ?_
    by_cases hc21 : p1 < (65 : Int32)
    · refine oS (fun t k => XS.icmpYes X0.here hx rfl (pc0 := 21) (pc' := 34) rfl (hb hby d3_21) rfl (tlt hc21).1 (by decide) (by decide) k) ?_
      show oG _ _ _ _ _ _ _ (s₁.setTop (mkF m 34 #[.val (.ref (w 8)), .val (.int p1), .val (.int (own_lo p1)), .unset, .unset, .unset] []))
      refine oS (fun t k => oIc li_0 X0.here hx rfl (hb hby d3_34) k) ?_
      refine oS (fun t k => XS.istoreN X0.here hx rfl (hb hby d3_35) rfl (l' := #[.val (.ref (w 8)), .val (.int p1), .val (.int (own_lo p1)), .val (.int 0), .unset, .unset]) rfl k) ?_
      have ej0 : (own_up p1) = (0 : Int32) := (by simp only [own_up, if_pos hc21])
      rw [ej0] at cut
      exact cut
    · refine oS (fun t k => XS.icmpNo X0.here hx rfl (hb hby d3_21) rfl (flt hc21).1 k) ?_
      show oG _ _ _ _ _ _ _ (s₁.setTop (mkF m 24 #[.val (.ref (w 8)), .val (.int p1), .val (.int (own_lo p1)), .unset, .unset, .unset] []))
      refine oS (fun t k => XS.iloadN X0.here hx rfl (hb hby d3_24) rfl k) ?_
      refine oS (fun t k => oBp lb_90 X0.here hx rfl (hb hby d3_25) k) ?_
      by_cases hc27 : (90 : Int32) < p1
      · refine oS (fun t k => XS.icmpYes X0.here hx rfl (pc0 := 27) (pc' := 34) rfl (hb hby d3_27) rfl (tlt hc27).2.2.1 (by decide) (by decide) k) ?_
        show oG _ _ _ _ _ _ _ (s₁.setTop (mkF m 34 #[.val (.ref (w 8)), .val (.int p1), .val (.int (own_lo p1)), .unset, .unset, .unset] []))
        refine oS (fun t k => oIc li_0 X0.here hx rfl (hb hby d3_34) k) ?_
        refine oS (fun t k => XS.istoreN X0.here hx rfl (hb hby d3_35) rfl (l' := #[.val (.ref (w 8)), .val (.int p1), .val (.int (own_lo p1)), .val (.int 0), .unset, .unset]) rfl k) ?_
        have ej0 : (own_up p1) = (0 : Int32) := (by simp only [own_up, if_neg hc21, if_pos hc27])
        rw [ej0] at cut
        exact cut
      · refine oS (fun t k => XS.icmpNo X0.here hx rfl (hb hby d3_27) rfl (flt hc27).2.2.1 k) ?_
        show oG _ _ _ _ _ _ _ (s₁.setTop (mkF m 30 #[.val (.ref (w 8)), .val (.int p1), .val (.int (own_lo p1)), .unset, .unset, .unset] []))
        refine oS (fun t k => oIc li_1 X0.here hx rfl (hb hby d3_30) k) ?_
        refine oS (fun t k => XS.goto X0.here hx rfl (pc0 := 31) (pc' := 35) rfl (hb hby d3_31) (by decide) (by decide) k) ?_
        refine oS (fun t k => XS.istoreN X0.here hx rfl (hb hby d3_35) rfl (l' := #[.val (.ref (w 8)), .val (.int p1), .val (.int (own_lo p1)), .val (.int 1), .unset, .unset]) rfl k) ?_
        show oG _ _ _ _ _ _ _ (s₁.setTop (mkF m 36 #[.val (.ref (w 8)), .val (.int p1), .val (.int (own_lo p1)), .val (.int 1), .unset, .unset] []))
        have ej0 : (own_up p1) = (1 : Int32) := (by simp only [own_up, if_neg hc21, if_neg hc27])
        rw [ej0] at cut
        exact cut
  suffices cut : oG p e below s (Q_con_UPPER Z p1 w h0 n0) ({ frames := 1, cells := 0, slots := 0, locals := 12 } : Room).cells ({ frames := 1, cells := 0, slots := 0, locals := 12 } : Room).slots (s₁.setTop (mkF m 55 #[.val (.ref (w 8)), .val (.int p1), .val (.int (own_lo p1)), .val (.int (own_up p1)), .val (.int (own_dg p1)), .unset] [])) by
    refine oS (fun t k => XS.iloadN X0.here hx rfl (hb hby d3_36) rfl k) ?_
    refine oS (fun t k => oBp lb_48 X0.here hx rfl (hb hby d3_37) k) ?_
    by_cases hc39 : p1 < (48 : Int32)
    · refine oS (fun t k => XS.icmpYes X0.here hx rfl (pc0 := 39) (pc' := 52) rfl (hb hby d3_39) rfl (tlt hc39).1 (by decide) (by decide) k) ?_
      show oG _ _ _ _ _ _ _ (s₁.setTop (mkF m 52 #[.val (.ref (w 8)), .val (.int p1), .val (.int (own_lo p1)), .val (.int (own_up p1)), .unset, .unset] []))
      refine oS (fun t k => oIc li_0 X0.here hx rfl (hb hby d3_52) k) ?_
      refine oS (fun t k => XS.istore X0.here hx rfl (hb hby d3_53) rfl (l' := #[.val (.ref (w 8)), .val (.int p1), .val (.int (own_lo p1)), .val (.int (own_up p1)), .val (.int 0), .unset]) rfl k) ?_
      have ej0 : (own_dg p1) = (0 : Int32) := (by simp only [own_dg, if_pos hc39])
      rw [ej0] at cut
      exact cut
    · refine oS (fun t k => XS.icmpNo X0.here hx rfl (hb hby d3_39) rfl (flt hc39).1 k) ?_
      show oG _ _ _ _ _ _ _ (s₁.setTop (mkF m 42 #[.val (.ref (w 8)), .val (.int p1), .val (.int (own_lo p1)), .val (.int (own_up p1)), .unset, .unset] []))
      refine oS (fun t k => XS.iloadN X0.here hx rfl (hb hby d3_42) rfl k) ?_
      refine oS (fun t k => oBp lb_57 X0.here hx rfl (hb hby d3_43) k) ?_
      by_cases hc45 : (57 : Int32) < p1
      · refine oS (fun t k => XS.icmpYes X0.here hx rfl (pc0 := 45) (pc' := 52) rfl (hb hby d3_45) rfl (tlt hc45).2.2.1 (by decide) (by decide) k) ?_
        show oG _ _ _ _ _ _ _ (s₁.setTop (mkF m 52 #[.val (.ref (w 8)), .val (.int p1), .val (.int (own_lo p1)), .val (.int (own_up p1)), .unset, .unset] []))
        refine oS (fun t k => oIc li_0 X0.here hx rfl (hb hby d3_52) k) ?_
        refine oS (fun t k => XS.istore X0.here hx rfl (hb hby d3_53) rfl (l' := #[.val (.ref (w 8)), .val (.int p1), .val (.int (own_lo p1)), .val (.int (own_up p1)), .val (.int 0), .unset]) rfl k) ?_
        have ej0 : (own_dg p1) = (0 : Int32) := (by simp only [own_dg, if_neg hc39, if_pos hc45])
        rw [ej0] at cut
        exact cut
      · refine oS (fun t k => XS.icmpNo X0.here hx rfl (hb hby d3_45) rfl (flt hc45).2.2.1 k) ?_
        show oG _ _ _ _ _ _ _ (s₁.setTop (mkF m 48 #[.val (.ref (w 8)), .val (.int p1), .val (.int (own_lo p1)), .val (.int (own_up p1)), .unset, .unset] []))
        refine oS (fun t k => oIc li_1 X0.here hx rfl (hb hby d3_48) k) ?_
        refine oS (fun t k => XS.goto X0.here hx rfl (pc0 := 49) (pc' := 53) rfl (hb hby d3_49) (by decide) (by decide) k) ?_
        refine oS (fun t k => XS.istore X0.here hx rfl (hb hby d3_53) rfl (l' := #[.val (.ref (w 8)), .val (.int p1), .val (.int (own_lo p1)), .val (.int (own_up p1)), .val (.int 1), .unset]) rfl k) ?_
        show oG _ _ _ _ _ _ _ (s₁.setTop (mkF m 55 #[.val (.ref (w 8)), .val (.int p1), .val (.int (own_lo p1)), .val (.int (own_up p1)), .val (.int 1), .unset] []))
        have ej0 : (own_dg p1) = (1 : Int32) := (by simp only [own_dg, if_neg hc39, if_neg hc45])
        rw [ej0] at cut
        exact cut
  suffices cut : oG p e below s (Q_con_UPPER Z p1 w h0 n0) ({ frames := 1, cells := 0, slots := 0, locals := 12 } : Room).cells ({ frames := 1, cells := 0, slots := 0, locals := 12 } : Room).slots (s₁.setTop (mkF m 74 #[.val (.ref (w 8)), .val (.int p1), .val (.int (own_lo p1)), .val (.int (own_up p1)), .val (.int (own_dg p1)), .val (.int (own_gr p1))] [])) by
    refine oS (fun t k => XS.iloadN X0.here hx rfl (hb hby d3_55) rfl k) ?_
    refine oS (fun t k => oBp lb_32 X0.here hx rfl (hb hby d3_56) k) ?_
    by_cases hc58 : (32 : Int32) < p1
    · refine oS (fun t k => XS.icmpNo X0.here hx rfl (hb hby d3_58) rfl (tlt hc58).2.2.2 k) ?_
      show oG _ _ _ _ _ _ _ (s₁.setTop (mkF m 61 #[.val (.ref (w 8)), .val (.int p1), .val (.int (own_lo p1)), .val (.int (own_up p1)), .val (.int (own_dg p1)), .unset] []))
      refine oS (fun t k => XS.iloadN X0.here hx rfl (hb hby d3_61) rfl k) ?_
      refine oS (fun t k => oBp lb_127 X0.here hx rfl (hb hby d3_62) k) ?_
      by_cases hc64 : p1 < (127 : Int32)
      · refine oS (fun t k => XS.icmpNo X0.here hx rfl (hb hby d3_64) rfl (tlt hc64).2.1 k) ?_
        show oG _ _ _ _ _ _ _ (s₁.setTop (mkF m 67 #[.val (.ref (w 8)), .val (.int p1), .val (.int (own_lo p1)), .val (.int (own_up p1)), .val (.int (own_dg p1)), .unset] []))
        refine oS (fun t k => oIc li_1 X0.here hx rfl (hb hby d3_67) k) ?_
        refine oS (fun t k => XS.goto X0.here hx rfl (pc0 := 68) (pc' := 72) rfl (hb hby d3_68) (by decide) (by decide) k) ?_
        refine oS (fun t k => XS.istore X0.here hx rfl (hb hby d3_72) rfl (l' := #[.val (.ref (w 8)), .val (.int p1), .val (.int (own_lo p1)), .val (.int (own_up p1)), .val (.int (own_dg p1)), .val (.int 1)]) rfl k) ?_
        show oG _ _ _ _ _ _ _ (s₁.setTop (mkF m 74 #[.val (.ref (w 8)), .val (.int p1), .val (.int (own_lo p1)), .val (.int (own_up p1)), .val (.int (own_dg p1)), .val (.int 1)] []))
        have ej0 : (own_gr p1) = (1 : Int32) := (by simp only [own_gr, if_pos hc58, if_pos hc64])
        rw [ej0] at cut
        exact cut
      · refine oS (fun t k => XS.icmpYes X0.here hx rfl (pc0 := 64) (pc' := 71) rfl (hb hby d3_64) rfl (flt hc64).2.1 (by decide) (by decide) k) ?_
        show oG _ _ _ _ _ _ _ (s₁.setTop (mkF m 71 #[.val (.ref (w 8)), .val (.int p1), .val (.int (own_lo p1)), .val (.int (own_up p1)), .val (.int (own_dg p1)), .unset] []))
        refine oS (fun t k => oIc li_0 X0.here hx rfl (hb hby d3_71) k) ?_
        refine oS (fun t k => XS.istore X0.here hx rfl (hb hby d3_72) rfl (l' := #[.val (.ref (w 8)), .val (.int p1), .val (.int (own_lo p1)), .val (.int (own_up p1)), .val (.int (own_dg p1)), .val (.int 0)]) rfl k) ?_
        have ej0 : (own_gr p1) = (0 : Int32) := (by simp only [own_gr, if_pos hc58, if_neg hc64])
        rw [ej0] at cut
        exact cut
    · refine oS (fun t k => XS.icmpYes X0.here hx rfl (pc0 := 58) (pc' := 71) rfl (hb hby d3_58) rfl (flt hc58).2.2.2 (by decide) (by decide) k) ?_
      show oG _ _ _ _ _ _ _ (s₁.setTop (mkF m 71 #[.val (.ref (w 8)), .val (.int p1), .val (.int (own_lo p1)), .val (.int (own_up p1)), .val (.int (own_dg p1)), .unset] []))
      refine oS (fun t k => oIc li_0 X0.here hx rfl (hb hby d3_71) k) ?_
      refine oS (fun t k => XS.istore X0.here hx rfl (hb hby d3_72) rfl (l' := #[.val (.ref (w 8)), .val (.int p1), .val (.int (own_lo p1)), .val (.int (own_up p1)), .val (.int (own_dg p1)), .val (.int 0)]) rfl k) ?_
      have ej0 : (own_gr p1) = (0 : Int32) := (by simp only [own_gr, if_neg hc58])
      rw [ej0] at cut
      exact cut
  refine oS (fun t k => XS.aloadN X0.here hx rfl (hb hby d3_74) rfl rfl k) ?_
  obtain ⟨cq1, kq1, q1a, q1b, q1c⟩ := isOf hZ e0 ((wE8 W).ext O0.2)
  obtain ⟨_, _, ⟨T1, L1, k1, n1⟩, -, X1, ⟨Lc1, hQ1, l1, y1, z1⟩, st1⟩ := X0.virtualBackUp hx (x := mY3) (y := mY2) hown (mvT hZ (oW hw 16 rfl)) (mvT hZ (oW hw 17 rfl)) (mvT hZ (oW hw 18 rfl)) (by decide) (mvT hZ (oW hw 20 rfl)) (mvT hZ (oW hw 19 rfl)) (backOf (W := 0) (rm_ord_UPPER l Z a0 hw []  w h0 n0 O0 W ) hZ (oW hw 22 rfl) (oW hw 21 rfl) (by decide) (by decide)) q1a q1c (g := (mkF m 75 #[.val (.ref (w 8)), .val (.int p1), .val (.int (own_lo p1)), .val (.int (own_up p1)), .val (.int (own_dg p1)), .val (.int (own_gr p1))] [(.ref (w 8))])) rfl (by rw [hml]; rfl) (Steps.refl _) (argsL := []) (rest := []) (lenOf pd_0 rfl) rfl (by show 2 * 0 + _ ≤ _; exact Nat.le_of_eq rfl) (hb hby d3_75) (fun _ _ => ⟨rfl, e0, (by decide : 0 + 0 ≤ _), (by decide : 0 + 0 ≤ _)⟩)
  dsimp only [Pt.U, Pt.locs, Pt.cells, Pt.slots] at X1 l1 y1 z1 st1 hQ1
  subst l1 y1 z1
  obtain ⟨rfl, Nq1, e1⟩ := hQ1
  have N1 := Fr.app N0 Nq1
  refine oS (fun t k => st1.trans k) ?_
  show oG _ _ _ _ _ _ _ (T1.setTop (mkF m 78 #[.val (.ref (w 8)), .val (.int p1), .val (.int (own_lo p1)), .val (.int (own_up p1)), .val (.int (own_dg p1)), .val (.int (own_gr p1))] [(.int 10)]))
  try clear st1
  refine oS (fun t k => XS.tswIn X1.here hx rfl (pc0 := 78) (pc' := 312) rfl (hb hby d3_78) (i := (10 : Int32)) rfl (by decide) (o := 234) rfl (by decide) (by decide) k) ?_
  refine oS (fun t k => XS.iloadN X1.here hx rfl (hb hby d3_312) rfl k) ?_
  refine oS (fun t k => XS.goto X1.here hx rfl (pc0 := 313) (pc' := 350) rfl (hb hby d3_313) (by decide) (by decide) k) ?_
  show oG _ _ _ _ _ _ _ (T1.setTop (mkF m 350 #[.val (.ref (w 8)), .val (.int p1), .val (.int (own_lo p1)), .val (.int (own_up p1)), .val (.int (own_dg p1)), .val (.int (own_gr p1))] [(.int (own_up p1))]))
  exact own_ret (v := some (.int (nar .boolean (own_up p1)))) X1 (fun h => by rw [Bd.returns] at h; cases h) Bd.notSynchronized (fun fs hr => retN X1 hx (t := .boolean) Bd.returns (by simp) (hb hby d3_350) hr) (by rw [e1]; exact ⟨(congrArg (fun z => some (Value.int z)) (own_all (P := fun c => (nar .boolean (own_up c)) = (own_in (10 : Int32) c)) p1 hlo hhi (by decide +kernel))), N1, rfl⟩) (by decide) (by decide)
def Q_ord_XDIGIT (Z : State)  (w : Nat → Addr) (h0 : Heap) (n0 : Nat) (v : Option Value) (h : Heap) (L : List Loc) : Prop := v = some (.int 11) ∧ Fr n0 L ∧ h = h0
set_option maxRecDepth 65536 in
set_option maxHeartbeats 40000000 in
theorem rm_ord_XDIGIT (l : Launch) (Z : State) (a0 : Array Value) (hw : ∀ d ∈ tables_1, d.before a0 Z = true) (ws : List Jvm.Cond)  (w : Nat → Addr) (h0 : Heap) (n0 : Nat) (O0 : Old Z n0 h0) (W : own_World Z w) :
    MetFree l mY2 (head1 (Jvm.Cond.code mY2 jdk_37_method_2_code 1 (some .int) :: ws) ({ frames := 0, cells := 0, slots := 0, locals := 0 } : Room)) (fun a U => a = #[(.ref (w 2))] ∧ Z.Warmed39 U.vm ∧ U.heap = h0) (fun _ _ _ _ _ => True) (fun _ U o U' => ∃ v L, o = .returned v ∧ Q_ord_XDIGIT Z  w h0 n0 v U'.heap L ∧ FrameEnd U o U' L ({ frames := 0, cells := 0, slots := 0, locals := 0 } : Room).cells ({ frames := 0, cells := 0, slots := 0, locals := 0 } : Room).slots) := by
  refine MetFree.of_bodySF (plainFor_of_name pn_1) hisR ?_
  intro p e s m args below meth c s₁ Bd hml0 hP hK
  obtain ⟨rfl, hZ, hh⟩ := hP
  have hx := Bd.exec
  have hby := Bd.bytes
  have hml : c.maxLocals = 1 := hml0
  have hown : s.vm.findClass "java/lang/Enum" = some m.cls := findClass_of_methodNamed Bd.named
  have hnm := (name_of_methodNamed Bd.named Bd.method).1
  have X0 : Stand p l e ({ frames := 0, cells := 0, slots := 0, locals := 0 } : Room) s m #[(.ref (w 2))] below meth c s₁ [] 0 0 := Stand.of_body Bd
  have e0 : s₁.heap = h0 := by rw [← hh, Bd.state]; rfl
  have N0 := Fr.nil n0
  show oG p e below s (Q_ord_XDIGIT Z  w h0 n0) ({ frames := 0, cells := 0, slots := 0, locals := 0 } : Room).cells ({ frames := 0, cells := 0, slots := 0, locals := 0 } : Room).slots _
  refine oS (fun t k => castTop (ef_4_r m (w 2)) k) ?_
  show oG _ _ _ _ _ _ _ (s₁.setTop (mkF m 0 #[.val (.ref (w 2))] []))
  refine oS (fun t k => XS.aloadN X0.here hx rfl (hb hby d4_0) rfl rfl k) ?_
  obtain ⟨T1, X1, e1, st1⟩ := getF X0 hx hZ hown (host := "") (Or.inl (oW hw 23 rfl)) Via.refl e0 ((wF2_ordinal W).ext O0.2) (g := (mkF m 1 #[.val (.ref (w 2))] [(.ref (w 2))])) rfl rfl (hb hby d4_1)
  refine oS (fun t k => st1 t k) ?_
  try clear st1
  exact own_ret (v := some (.int 11)) X1 (fun h => by rw [Bd.returns] at h; cases h) Bd.notSynchronized (fun fs hr => retOut X1 hx (t := .int) Bd.returns rfl (Or.inl ⟨rfl, Or.inl rfl, _, rfl⟩) (hb hby d4_4) hr) (by rw [e1]; exact ⟨rfl, N0, rfl⟩) (by decide) (by decide)
theorem d3_316 : decode prog_6_method_5_code 316 = .ok (.iload 4, 2) := by decide +kernel
theorem d3_318 : decode prog_6_method_5_code 318 = .ok (.ifCond .ne 27, 3) := by decide +kernel
theorem d3_321 : decode prog_6_method_5_code 321 = .ok (.iload_n 1, 1) := by decide +kernel
theorem d3_322 : decode prog_6_method_5_code 322 = .ok (.bipush 97, 2) := by decide +kernel
theorem d3_324 : decode prog_6_method_5_code 324 = .ok (.if_icmp .lt 9, 3) := by decide +kernel
theorem d3_333 : decode prog_6_method_5_code 333 = .ok (.iload_n 1, 1) := by decide +kernel
theorem d3_334 : decode prog_6_method_5_code 334 = .ok (.bipush 65, 2) := by decide +kernel
theorem d3_336 : decode prog_6_method_5_code 336 = .ok (.if_icmp .lt 13, 3) := by decide +kernel
theorem d3_349 : decode prog_6_method_5_code 349 = .ok (.iconst 0, 1) := by decide +kernel
theorem d3_339 : decode prog_6_method_5_code 339 = .ok (.iload_n 1, 1) := by decide +kernel
theorem d3_340 : decode prog_6_method_5_code 340 = .ok (.bipush 70, 2) := by decide +kernel
theorem d3_342 : decode prog_6_method_5_code 342 = .ok (.if_icmp .gt 7, 3) := by decide +kernel
theorem d3_345 : decode prog_6_method_5_code 345 = .ok (.iconst 1, 1) := by decide +kernel
theorem d3_346 : decode prog_6_method_5_code 346 = .ok (.goto 4, 3) := by decide +kernel
theorem d3_327 : decode prog_6_method_5_code 327 = .ok (.iload_n 1, 1) := by decide +kernel
theorem d3_328 : decode prog_6_method_5_code 328 = .ok (.bipush 102, 2) := by decide +kernel
theorem d3_330 : decode prog_6_method_5_code 330 = .ok (.if_icmp .le 15, 3) := by decide +kernel
def Q_con_XDIGIT (Z : State) (p1 : Int32) (w : Nat → Addr) (h0 : Heap) (n0 : Nat) (v : Option Value) (h : Heap) (L : List Loc) : Prop := v = some (.int (own_in (11 : Int32) p1)) ∧ Fr n0 L ∧ h = h0
set_option maxRecDepth 65536 in
set_option maxHeartbeats 40000000 in
theorem rm_con_XDIGIT (l : Launch) (Z : State) (a0 : Array Value) (hw : ∀ d ∈ tables_1, d.before a0 Z = true) (ws : List Jvm.Cond) (p1 : Int32) (w : Nat → Addr) (h0 : Heap) (n0 : Nat) (O0 : Old Z n0 h0) (W : own_World Z w) (hlo : ¬ (p1 < (0 : Int32))) (hhi : p1 < (256 : Int32)) :
    MetFree l mY4 (head1 (Jvm.Cond.code mY4 prog_6_method_5_code 6 (some .boolean) :: ws) ({ frames := 1, cells := 0, slots := 0, locals := 12 } : Room)) (fun a U => a = #[(.ref (w 2)), (.int p1)] ∧ Z.Warmed39 U.vm ∧ U.heap = h0) (fun _ _ _ _ _ => True) (fun _ U o U' => ∃ v L, o = .returned v ∧ Q_con_XDIGIT Z p1 w h0 n0 v U'.heap L ∧ FrameEnd U o U' L ({ frames := 1, cells := 0, slots := 0, locals := 12 } : Room).cells ({ frames := 1, cells := 0, slots := 0, locals := 12 } : Room).slots) := by
  refine MetFree.of_bodySF (plainFor_of_name pn_2) hisR ?_
  intro p e s m args below meth c s₁ Bd hml0 hP hK
  obtain ⟨rfl, hZ, hh⟩ := hP
  have hx := Bd.exec
  have hby := Bd.bytes
  have hml : c.maxLocals = 6 := hml0
  have hown : s.vm.findClass "com/example/lamassu/lamassu/builtin/CharClass" = some m.cls := findClass_of_methodNamed Bd.named
  have hnm := (name_of_methodNamed Bd.named Bd.method).1
  have X0 : Stand p l e ({ frames := 1, cells := 0, slots := 0, locals := 12 } : Room) s m #[(.ref (w 2)), (.int p1)] below meth c s₁ [] 0 0 := Stand.of_body Bd
  have e0 : s₁.heap = h0 := by rw [← hh, Bd.state]; rfl
  have N0 := Fr.nil n0
  show oG p e below s (Q_con_XDIGIT Z p1 w h0 n0) ({ frames := 1, cells := 0, slots := 0, locals := 12 } : Room).cells ({ frames := 1, cells := 0, slots := 0, locals := 12 } : Room).slots _
  refine oS (fun t k => castTop (ef_3_ri m (w 2) p1) k) ?_
  show oG _ _ _ _ _ _ _ (s₁.setTop (mkF m 0 #[.val (.ref (w 2)), .val (.int p1), .unset, .unset, .unset, .unset] []))
  suffices cut : oG p e below s (Q_con_XDIGIT Z p1 w h0 n0) ({ frames := 1, cells := 0, slots := 0, locals := 12 } : Room).cells ({ frames := 1, cells := 0, slots := 0, locals := 12 } : Room).slots (s₁.setTop (mkF m 18 #[.val (.ref (w 2)), .val (.int p1), .val (.int (own_lo p1)), .unset, .unset, .unset] [])) by
    refine oS (fun t k => XS.iloadN X0.here hx rfl (hb hby d3_0) rfl k) ?_
    refine oS (fun t k => oBp lb_97 X0.here hx rfl (hb hby d3_1) k) ?_
    by_cases hc3 : p1 < (97 : Int32)
    · refine oS (fun t k => XS.icmpYes X0.here hx rfl (pc0 := 3) (pc' := 16) rfl (hb hby d3_3) rfl (tlt hc3).1 (by decide) (by decide) k) ?_
      show oG _ _ _ _ _ _ _ (s₁.setTop (mkF m 16 #[.val (.ref (w 2)), .val (.int p1), .unset, .unset, .unset, .unset] []))
      refine oS (fun t k => oIc li_0 X0.here hx rfl (hb hby d3_16) k) ?_
      refine oS (fun t k => XS.istoreN X0.here hx rfl (hb hby d3_17) rfl (l' := #[.val (.ref (w 2)), .val (.int p1), .val (.int 0), .unset, .unset, .unset]) rfl k) ?_
      have ej0 : (own_lo p1) = (0 : Int32) := (by simp only [own_lo, if_pos hc3])
      rw [ej0] at cut
      exact cut
    · refine oS (fun t k => XS.icmpNo X0.here hx rfl (hb hby d3_3) rfl (flt hc3).1 k) ?_
      show oG _ _ _ _ _ _ _ (s₁.setTop (mkF m 6 #[.val (.ref (w 2)), .val (.int p1), .unset, .unset, .unset, .unset] []))
      refine oS (fun t k => XS.iloadN X0.here hx rfl (hb hby d3_6) rfl k) ?_
      refine oS (fun t k => oBp lb_122 X0.here hx rfl (hb hby d3_7) k) ?_
      by_cases hc9 : (122 : Int32) < p1
      · refine oS (fun t k => XS.icmpYes X0.here hx rfl (pc0 := 9) (pc' := 16) rfl (hb hby d3_9) rfl (tlt hc9).2.2.1 (by decide) (by decide) k) ?_
        show oG _ _ _ _ _ _ _ (s₁.setTop (mkF m 16 #[.val (.ref (w 2)), .val (.int p1), .unset, .unset, .unset, .unset] []))
        refine oS (fun t k => oIc li_0 X0.here hx rfl (hb hby d3_16) k) ?_
        refine oS (fun t k => XS.istoreN X0.here hx rfl (hb hby d3_17) rfl (l' := #[.val (.ref (w 2)), .val (.int p1), .val (.int 0), .unset, .unset, .unset]) rfl k) ?_
        have ej0 : (own_lo p1) = (0 : Int32) := (by simp only [own_lo, if_neg hc3, if_pos hc9])
        rw [ej0] at cut
        exact cut
      · refine oS (fun t k => XS.icmpNo X0.here hx rfl (hb hby d3_9) rfl (flt hc9).2.2.1 k) ?_
        show oG _ _ _ _ _ _ _ (s₁.setTop (mkF m 12 #[.val (.ref (w 2)), .val (.int p1), .unset, .unset, .unset, .unset] []))
        refine oS (fun t k => oIc li_1 X0.here hx rfl (hb hby d3_12) k) ?_
        refine oS (fun t k => XS.goto X0.here hx rfl (pc0 := 13) (pc' := 17) rfl (hb hby d3_13) (by decide) (by decide) k) ?_
        refine oS (fun t k => XS.istoreN X0.here hx rfl (hb hby d3_17) rfl (l' := #[.val (.ref (w 2)), .val (.int p1), .val (.int 1), .unset, .unset, .unset]) rfl k) ?_
        show oG _ _ _ _ _ _ _ (s₁.setTop (mkF m 18 #[.val (.ref (w 2)), .val (.int p1), .val (.int 1), .unset, .unset, .unset] []))
        have ej0 : (own_lo p1) = (1 : Int32) := (by simp only [own_lo, if_neg hc3, if_neg hc9])
        rw [ej0] at cut
        exact cut
  suffices cut : oG p e below s (Q_con_XDIGIT Z p1 w h0 n0) ({ frames := 1, cells := 0, slots := 0, locals := 12 } : Room).cells ({ frames := 1, cells := 0, slots := 0, locals := 12 } : Room).slots (s₁.setTop (mkF m 36 #[.val (.ref (w 2)), .val (.int p1), .val (.int (own_lo p1)), .val (.int (own_up p1)), .unset, .unset] [])) by
    refine oS (fun t k => XS.iloadN X0.here hx rfl (hb hby d3_18) rfl k) ?_
    refine oS (fun t k => oBp lb_65 X0.here hx rfl (hb hby d3_19) k) ?_
    by_cases hc21 : p1 < (65 : Int32)
    · refine oS (fun t k => XS.icmpYes X0.here hx rfl (pc0 := 21) (pc' := 34) rfl (hb hby d3_21) rfl (tlt hc21).1 (by decide) (by decide) k) ?_
      show oG _ _ _ _ _ _ _ (s₁.setTop (mkF m 34 #[.val (.ref (w 2)), .val (.int p1), .val (.int (own_lo p1)), .unset, .unset, .unset] []))
      refine oS (fun t k => oIc li_0 X0.here hx rfl (hb hby d3_34) k) ?_
      refine oS (fun t k => XS.istoreN X0.here hx rfl (hb hby d3_35) rfl (l' := #[.val (.ref (w 2)), .val (.int p1), .val (.int (own_lo p1)), .val (.int 0), .unset, .unset]) rfl k) ?_
      have ej0 : (own_up p1) = (0 : Int32) := (by simp only [own_up, if_pos hc21])
      rw [ej0] at cut
      exact cut
    · refine oS (fun t k => XS.icmpNo X0.here hx rfl (hb hby d3_21) rfl (flt hc21).1 k) ?_
      show oG _ _ _ _ _ _ _ (s₁.setTop (mkF m 24 #[.val (.ref (w 2)), .val (.int p1), .val (.int (own_lo p1)), .unset, .unset, .unset] []))
      refine oS (fun t k => XS.iloadN X0.here hx rfl (hb hby d3_24) rfl k) ?_
      refine oS (fun t k => oBp lb_90 X0.here hx rfl (hb hby d3_25) k) ?_
      by_cases hc27 : (90 : Int32) < p1
      · refine oS (fun t k => XS.icmpYes X0.here hx rfl (pc0 := 27) (pc' := 34) rfl (hb hby d3_27) rfl (tlt hc27).2.2.1 (by decide) (by decide) k) ?_
        show oG _ _ _ _ _ _ _ (s₁.setTop (mkF m 34 #[.val (.ref (w 2)), .val (.int p1), .val (.int (own_lo p1)), .unset, .unset, .unset] []))
        refine oS (fun t k => oIc li_0 X0.here hx rfl (hb hby d3_34) k) ?_
        refine oS (fun t k => XS.istoreN X0.here hx rfl (hb hby d3_35) rfl (l' := #[.val (.ref (w 2)), .val (.int p1), .val (.int (own_lo p1)), .val (.int 0), .unset, .unset]) rfl k) ?_
        have ej0 : (own_up p1) = (0 : Int32) := (by simp only [own_up, if_neg hc21, if_pos hc27])
        rw [ej0] at cut
        exact cut
      · refine oS (fun t k => XS.icmpNo X0.here hx rfl (hb hby d3_27) rfl (flt hc27).2.2.1 k) ?_
        show oG _ _ _ _ _ _ _ (s₁.setTop (mkF m 30 #[.val (.ref (w 2)), .val (.int p1), .val (.int (own_lo p1)), .unset, .unset, .unset] []))
        refine oS (fun t k => oIc li_1 X0.here hx rfl (hb hby d3_30) k) ?_
        refine oS (fun t k => XS.goto X0.here hx rfl (pc0 := 31) (pc' := 35) rfl (hb hby d3_31) (by decide) (by decide) k) ?_
        refine oS (fun t k => XS.istoreN X0.here hx rfl (hb hby d3_35) rfl (l' := #[.val (.ref (w 2)), .val (.int p1), .val (.int (own_lo p1)), .val (.int 1), .unset, .unset]) rfl k) ?_
        show oG _ _ _ _ _ _ _ (s₁.setTop (mkF m 36 #[.val (.ref (w 2)), .val (.int p1), .val (.int (own_lo p1)), .val (.int 1), .unset, .unset] []))
        have ej0 : (own_up p1) = (1 : Int32) := (by simp only [own_up, if_neg hc21, if_neg hc27])
        rw [ej0] at cut
        exact cut
  suffices cut : oG p e below s (Q_con_XDIGIT Z p1 w h0 n0) ({ frames := 1, cells := 0, slots := 0, locals := 12 } : Room).cells ({ frames := 1, cells := 0, slots := 0, locals := 12 } : Room).slots (s₁.setTop (mkF m 55 #[.val (.ref (w 2)), .val (.int p1), .val (.int (own_lo p1)), .val (.int (own_up p1)), .val (.int (own_dg p1)), .unset] [])) by
    refine oS (fun t k => XS.iloadN X0.here hx rfl (hb hby d3_36) rfl k) ?_
    refine oS (fun t k => oBp lb_48 X0.here hx rfl (hb hby d3_37) k) ?_
    by_cases hc39 : p1 < (48 : Int32)
    · refine oS (fun t k => XS.icmpYes X0.here hx rfl (pc0 := 39) (pc' := 52) rfl (hb hby d3_39) rfl (tlt hc39).1 (by decide) (by decide) k) ?_
      show oG _ _ _ _ _ _ _ (s₁.setTop (mkF m 52 #[.val (.ref (w 2)), .val (.int p1), .val (.int (own_lo p1)), .val (.int (own_up p1)), .unset, .unset] []))
      refine oS (fun t k => oIc li_0 X0.here hx rfl (hb hby d3_52) k) ?_
      refine oS (fun t k => XS.istore X0.here hx rfl (hb hby d3_53) rfl (l' := #[.val (.ref (w 2)), .val (.int p1), .val (.int (own_lo p1)), .val (.int (own_up p1)), .val (.int 0), .unset]) rfl k) ?_
      have ej0 : (own_dg p1) = (0 : Int32) := (by simp only [own_dg, if_pos hc39])
      rw [ej0] at cut
      exact cut
    · refine oS (fun t k => XS.icmpNo X0.here hx rfl (hb hby d3_39) rfl (flt hc39).1 k) ?_
      show oG _ _ _ _ _ _ _ (s₁.setTop (mkF m 42 #[.val (.ref (w 2)), .val (.int p1), .val (.int (own_lo p1)), .val (.int (own_up p1)), .unset, .unset] []))
      refine oS (fun t k => XS.iloadN X0.here hx rfl (hb hby d3_42) rfl k) ?_
      refine oS (fun t k => oBp lb_57 X0.here hx rfl (hb hby d3_43) k) ?_
      by_cases hc45 : (57 : Int32) < p1
      · refine oS (fun t k => XS.icmpYes X0.here hx rfl (pc0 := 45) (pc' := 52) rfl (hb hby d3_45) rfl (tlt hc45).2.2.1 (by decide) (by decide) k) ?_
        show oG _ _ _ _ _ _ _ (s₁.setTop (mkF m 52 #[.val (.ref (w 2)), .val (.int p1), .val (.int (own_lo p1)), .val (.int (own_up p1)), .unset, .unset] []))
        refine oS (fun t k => oIc li_0 X0.here hx rfl (hb hby d3_52) k) ?_
        refine oS (fun t k => XS.istore X0.here hx rfl (hb hby d3_53) rfl (l' := #[.val (.ref (w 2)), .val (.int p1), .val (.int (own_lo p1)), .val (.int (own_up p1)), .val (.int 0), .unset]) rfl k) ?_
        have ej0 : (own_dg p1) = (0 : Int32) := (by simp only [own_dg, if_neg hc39, if_pos hc45])
        rw [ej0] at cut
        exact cut
      · refine oS (fun t k => XS.icmpNo X0.here hx rfl (hb hby d3_45) rfl (flt hc45).2.2.1 k) ?_
        show oG _ _ _ _ _ _ _ (s₁.setTop (mkF m 48 #[.val (.ref (w 2)), .val (.int p1), .val (.int (own_lo p1)), .val (.int (own_up p1)), .unset, .unset] []))
        refine oS (fun t k => oIc li_1 X0.here hx rfl (hb hby d3_48) k) ?_
        refine oS (fun t k => XS.goto X0.here hx rfl (pc0 := 49) (pc' := 53) rfl (hb hby d3_49) (by decide) (by decide) k) ?_
        refine oS (fun t k => XS.istore X0.here hx rfl (hb hby d3_53) rfl (l' := #[.val (.ref (w 2)), .val (.int p1), .val (.int (own_lo p1)), .val (.int (own_up p1)), .val (.int 1), .unset]) rfl k) ?_
        show oG _ _ _ _ _ _ _ (s₁.setTop (mkF m 55 #[.val (.ref (w 2)), .val (.int p1), .val (.int (own_lo p1)), .val (.int (own_up p1)), .val (.int 1), .unset] []))
        have ej0 : (own_dg p1) = (1 : Int32) := (by simp only [own_dg, if_neg hc39, if_neg hc45])
        rw [ej0] at cut
        exact cut
  suffices cut : oG p e below s (Q_con_XDIGIT Z p1 w h0 n0) ({ frames := 1, cells := 0, slots := 0, locals := 12 } : Room).cells ({ frames := 1, cells := 0, slots := 0, locals := 12 } : Room).slots (s₁.setTop (mkF m 74 #[.val (.ref (w 2)), .val (.int p1), .val (.int (own_lo p1)), .val (.int (own_up p1)), .val (.int (own_dg p1)), .val (.int (own_gr p1))] [])) by
    refine oS (fun t k => XS.iloadN X0.here hx rfl (hb hby d3_55) rfl k) ?_
    refine oS (fun t k => oBp lb_32 X0.here hx rfl (hb hby d3_56) k) ?_
    by_cases hc58 : (32 : Int32) < p1
    · refine oS (fun t k => XS.icmpNo X0.here hx rfl (hb hby d3_58) rfl (tlt hc58).2.2.2 k) ?_
      show oG _ _ _ _ _ _ _ (s₁.setTop (mkF m 61 #[.val (.ref (w 2)), .val (.int p1), .val (.int (own_lo p1)), .val (.int (own_up p1)), .val (.int (own_dg p1)), .unset] []))
      refine oS (fun t k => XS.iloadN X0.here hx rfl (hb hby d3_61) rfl k) ?_
      refine oS (fun t k => oBp lb_127 X0.here hx rfl (hb hby d3_62) k) ?_
      by_cases hc64 : p1 < (127 : Int32)
      · refine oS (fun t k => XS.icmpNo X0.here hx rfl (hb hby d3_64) rfl (tlt hc64).2.1 k) ?_
        show oG _ _ _ _ _ _ _ (s₁.setTop (mkF m 67 #[.val (.ref (w 2)), .val (.int p1), .val (.int (own_lo p1)), .val (.int (own_up p1)), .val (.int (own_dg p1)), .unset] []))
        refine oS (fun t k => oIc li_1 X0.here hx rfl (hb hby d3_67) k) ?_
        refine oS (fun t k => XS.goto X0.here hx rfl (pc0 := 68) (pc' := 72) rfl (hb hby d3_68) (by decide) (by decide) k) ?_
        refine oS (fun t k => XS.istore X0.here hx rfl (hb hby d3_72) rfl (l' := #[.val (.ref (w 2)), .val (.int p1), .val (.int (own_lo p1)), .val (.int (own_up p1)), .val (.int (own_dg p1)), .val (.int 1)]) rfl k) ?_
        show oG _ _ _ _ _ _ _ (s₁.setTop (mkF m 74 #[.val (.ref (w 2)), .val (.int p1), .val (.int (own_lo p1)), .val (.int (own_up p1)), .val (.int (own_dg p1)), .val (.int 1)] []))
        have ej0 : (own_gr p1) = (1 : Int32) := (by simp only [own_gr, if_pos hc58, if_pos hc64])
        rw [ej0] at cut
        exact cut
      · refine oS (fun t k => XS.icmpYes X0.here hx rfl (pc0 := 64) (pc' := 71) rfl (hb hby d3_64) rfl (flt hc64).2.1 (by decide) (by decide) k) ?_
        show oG _ _ _ _ _ _ _ (s₁.setTop (mkF m 71 #[.val (.ref (w 2)), .val (.int p1), .val (.int (own_lo p1)), .val (.int (own_up p1)), .val (.int (own_dg p1)), .unset] []))
        refine oS (fun t k => oIc li_0 X0.here hx rfl (hb hby d3_71) k) ?_
        refine oS (fun t k => XS.istore X0.here hx rfl (hb hby d3_72) rfl (l' := #[.val (.ref (w 2)), .val (.int p1), .val (.int (own_lo p1)), .val (.int (own_up p1)), .val (.int (own_dg p1)), .val (.int 0)]) rfl k) ?_
        have ej0 : (own_gr p1) = (0 : Int32) := (by simp only [own_gr, if_pos hc58, if_neg hc64])
        rw [ej0] at cut
        exact cut
    · refine oS (fun t k => XS.icmpYes X0.here hx rfl (pc0 := 58) (pc' := 71) rfl (hb hby d3_58) rfl (flt hc58).2.2.2 (by decide) (by decide) k) ?_
      show oG _ _ _ _ _ _ _ (s₁.setTop (mkF m 71 #[.val (.ref (w 2)), .val (.int p1), .val (.int (own_lo p1)), .val (.int (own_up p1)), .val (.int (own_dg p1)), .unset] []))
      refine oS (fun t k => oIc li_0 X0.here hx rfl (hb hby d3_71) k) ?_
      refine oS (fun t k => XS.istore X0.here hx rfl (hb hby d3_72) rfl (l' := #[.val (.ref (w 2)), .val (.int p1), .val (.int (own_lo p1)), .val (.int (own_up p1)), .val (.int (own_dg p1)), .val (.int 0)]) rfl k) ?_
      have ej0 : (own_gr p1) = (0 : Int32) := (by simp only [own_gr, if_neg hc58])
      rw [ej0] at cut
      exact cut
  refine oS (fun t k => XS.aloadN X0.here hx rfl (hb hby d3_74) rfl rfl k) ?_
  obtain ⟨cq1, kq1, q1a, q1b, q1c⟩ := isOf hZ e0 ((wE2 W).ext O0.2)
  obtain ⟨_, _, ⟨T1, L1, k1, n1⟩, -, X1, ⟨Lc1, hQ1, l1, y1, z1⟩, st1⟩ := X0.virtualBackUp hx (x := mY3) (y := mY2) hown (mvT hZ (oW hw 16 rfl)) (mvT hZ (oW hw 17 rfl)) (mvT hZ (oW hw 18 rfl)) (by decide) (mvT hZ (oW hw 20 rfl)) (mvT hZ (oW hw 19 rfl)) (backOf (W := 0) (rm_ord_XDIGIT l Z a0 hw []  w h0 n0 O0 W ) hZ (oW hw 22 rfl) (oW hw 21 rfl) (by decide) (by decide)) q1a q1c (g := (mkF m 75 #[.val (.ref (w 2)), .val (.int p1), .val (.int (own_lo p1)), .val (.int (own_up p1)), .val (.int (own_dg p1)), .val (.int (own_gr p1))] [(.ref (w 2))])) rfl (by rw [hml]; rfl) (Steps.refl _) (argsL := []) (rest := []) (lenOf pd_0 rfl) rfl (by show 2 * 0 + _ ≤ _; exact Nat.le_of_eq rfl) (hb hby d3_75) (fun _ _ => ⟨rfl, e0, (by decide : 0 + 0 ≤ _), (by decide : 0 + 0 ≤ _)⟩)
  dsimp only [Pt.U, Pt.locs, Pt.cells, Pt.slots] at X1 l1 y1 z1 st1 hQ1
  subst l1 y1 z1
  obtain ⟨rfl, Nq1, e1⟩ := hQ1
  have N1 := Fr.app N0 Nq1
  refine oS (fun t k => st1.trans k) ?_
  show oG _ _ _ _ _ _ _ (T1.setTop (mkF m 78 #[.val (.ref (w 2)), .val (.int p1), .val (.int (own_lo p1)), .val (.int (own_up p1)), .val (.int (own_dg p1)), .val (.int (own_gr p1))] [(.int 11)]))
  try clear st1
  refine oS (fun t k => XS.tswIn X1.here hx rfl (pc0 := 78) (pc' := 316) rfl (hb hby d3_78) (i := (11 : Int32)) rfl (by decide) (o := 238) rfl (by decide) (by decide) k) ?_
  refine oS (fun t k => XS.iload X1.here hx rfl (hb hby d3_316) rfl k) ?_
  by_cases hc318 : (own_dg p1) = (0 : Int32)
  · refine oS (fun t k => XS.ifNo X1.here hx rfl (hb hby d3_318) rfl ((if0 _ _).trans (teq hc318).2) k) ?_
    show oG _ _ _ _ _ _ _ (T1.setTop (mkF m 321 #[.val (.ref (w 2)), .val (.int p1), .val (.int (own_lo p1)), .val (.int (own_up p1)), .val (.int (own_dg p1)), .val (.int (own_gr p1))] []))
    refine oS (fun t k => XS.iloadN X1.here hx rfl (hb hby d3_321) rfl k) ?_
    refine oS (fun t k => oBp lb_97 X1.here hx rfl (hb hby d3_322) k) ?_
    by_cases hc324 : p1 < (97 : Int32)
    · refine oS (fun t k => XS.icmpYes X1.here hx rfl (pc0 := 324) (pc' := 333) rfl (hb hby d3_324) rfl (tlt hc324).1 (by decide) (by decide) k) ?_
      show oG _ _ _ _ _ _ _ (T1.setTop (mkF m 333 #[.val (.ref (w 2)), .val (.int p1), .val (.int (own_lo p1)), .val (.int (own_up p1)), .val (.int (own_dg p1)), .val (.int (own_gr p1))] []))
      refine oS (fun t k => XS.iloadN X1.here hx rfl (hb hby d3_333) rfl k) ?_
      refine oS (fun t k => oBp lb_65 X1.here hx rfl (hb hby d3_334) k) ?_
      by_cases hc336 : p1 < (65 : Int32)
      · refine oS (fun t k => XS.icmpYes X1.here hx rfl (pc0 := 336) (pc' := 349) rfl (hb hby d3_336) rfl (tlt hc336).1 (by decide) (by decide) k) ?_
        show oG _ _ _ _ _ _ _ (T1.setTop (mkF m 349 #[.val (.ref (w 2)), .val (.int p1), .val (.int (own_lo p1)), .val (.int (own_up p1)), .val (.int (own_dg p1)), .val (.int (own_gr p1))] []))
        refine oS (fun t k => oIc li_0 X1.here hx rfl (hb hby d3_349) k) ?_
        exact own_ret (v := some (.int 0)) X1 (fun h => by rw [Bd.returns] at h; cases h) Bd.notSynchronized (fun fs hr => retN X1 hx (t := .boolean) Bd.returns (by simp) (hb hby d3_350) hr) (by rw [e1]; exact ⟨(congrArg (fun z => some (Value.int z)) (own_all (P := fun c => ((own_dg c) = (0 : Int32)) → (c < (97 : Int32)) → (c < (65 : Int32)) → (0 : Int32) = (own_in (11 : Int32) c)) p1 hlo hhi (by decide +kernel) hc318 hc324 hc336)), N1, rfl⟩) (by decide) (by decide)
      · refine oS (fun t k => XS.icmpNo X1.here hx rfl (hb hby d3_336) rfl (flt hc336).1 k) ?_
        show oG _ _ _ _ _ _ _ (T1.setTop (mkF m 339 #[.val (.ref (w 2)), .val (.int p1), .val (.int (own_lo p1)), .val (.int (own_up p1)), .val (.int (own_dg p1)), .val (.int (own_gr p1))] []))
        refine oS (fun t k => XS.iloadN X1.here hx rfl (hb hby d3_339) rfl k) ?_
        refine oS (fun t k => oBp lb_70 X1.here hx rfl (hb hby d3_340) k) ?_
        by_cases hc342 : (70 : Int32) < p1
        · refine oS (fun t k => XS.icmpYes X1.here hx rfl (pc0 := 342) (pc' := 349) rfl (hb hby d3_342) rfl (tlt hc342).2.2.1 (by decide) (by decide) k) ?_
          show oG _ _ _ _ _ _ _ (T1.setTop (mkF m 349 #[.val (.ref (w 2)), .val (.int p1), .val (.int (own_lo p1)), .val (.int (own_up p1)), .val (.int (own_dg p1)), .val (.int (own_gr p1))] []))
          refine oS (fun t k => oIc li_0 X1.here hx rfl (hb hby d3_349) k) ?_
          exact own_ret (v := some (.int 0)) X1 (fun h => by rw [Bd.returns] at h; cases h) Bd.notSynchronized (fun fs hr => retN X1 hx (t := .boolean) Bd.returns (by simp) (hb hby d3_350) hr) (by rw [e1]; exact ⟨(congrArg (fun z => some (Value.int z)) (own_all (P := fun c => ((own_dg c) = (0 : Int32)) → (c < (97 : Int32)) → ¬ (c < (65 : Int32)) → ((70 : Int32) < c) → (0 : Int32) = (own_in (11 : Int32) c)) p1 hlo hhi (by decide +kernel) hc318 hc324 hc336 hc342)), N1, rfl⟩) (by decide) (by decide)
        · refine oS (fun t k => XS.icmpNo X1.here hx rfl (hb hby d3_342) rfl (flt hc342).2.2.1 k) ?_
          show oG _ _ _ _ _ _ _ (T1.setTop (mkF m 345 #[.val (.ref (w 2)), .val (.int p1), .val (.int (own_lo p1)), .val (.int (own_up p1)), .val (.int (own_dg p1)), .val (.int (own_gr p1))] []))
          refine oS (fun t k => oIc li_1 X1.here hx rfl (hb hby d3_345) k) ?_
          refine oS (fun t k => XS.goto X1.here hx rfl (pc0 := 346) (pc' := 350) rfl (hb hby d3_346) (by decide) (by decide) k) ?_
          exact own_ret (v := some (.int 1)) X1 (fun h => by rw [Bd.returns] at h; cases h) Bd.notSynchronized (fun fs hr => retN X1 hx (t := .boolean) Bd.returns (by simp) (hb hby d3_350) hr) (by rw [e1]; exact ⟨(congrArg (fun z => some (Value.int z)) (own_all (P := fun c => ((own_dg c) = (0 : Int32)) → (c < (97 : Int32)) → ¬ (c < (65 : Int32)) → ¬ ((70 : Int32) < c) → (1 : Int32) = (own_in (11 : Int32) c)) p1 hlo hhi (by decide +kernel) hc318 hc324 hc336 hc342)), N1, rfl⟩) (by decide) (by decide)
    · refine oS (fun t k => XS.icmpNo X1.here hx rfl (hb hby d3_324) rfl (flt hc324).1 k) ?_
      show oG _ _ _ _ _ _ _ (T1.setTop (mkF m 327 #[.val (.ref (w 2)), .val (.int p1), .val (.int (own_lo p1)), .val (.int (own_up p1)), .val (.int (own_dg p1)), .val (.int (own_gr p1))] []))
      refine oS (fun t k => XS.iloadN X1.here hx rfl (hb hby d3_327) rfl k) ?_
      refine oS (fun t k => oBp lb_102 X1.here hx rfl (hb hby d3_328) k) ?_
      by_cases hc330 : (102 : Int32) < p1
      · refine oS (fun t k => XS.icmpNo X1.here hx rfl (hb hby d3_330) rfl (tlt hc330).2.2.2 k) ?_
        show oG _ _ _ _ _ _ _ (T1.setTop (mkF m 333 #[.val (.ref (w 2)), .val (.int p1), .val (.int (own_lo p1)), .val (.int (own_up p1)), .val (.int (own_dg p1)), .val (.int (own_gr p1))] []))
        refine oS (fun t k => XS.iloadN X1.here hx rfl (hb hby d3_333) rfl k) ?_
        refine oS (fun t k => oBp lb_65 X1.here hx rfl (hb hby d3_334) k) ?_
        by_cases hc336 : p1 < (65 : Int32)
        · refine oS (fun t k => XS.icmpYes X1.here hx rfl (pc0 := 336) (pc' := 349) rfl (hb hby d3_336) rfl (tlt hc336).1 (by decide) (by decide) k) ?_
          show oG _ _ _ _ _ _ _ (T1.setTop (mkF m 349 #[.val (.ref (w 2)), .val (.int p1), .val (.int (own_lo p1)), .val (.int (own_up p1)), .val (.int (own_dg p1)), .val (.int (own_gr p1))] []))
          refine oS (fun t k => oIc li_0 X1.here hx rfl (hb hby d3_349) k) ?_
          exact own_ret (v := some (.int 0)) X1 (fun h => by rw [Bd.returns] at h; cases h) Bd.notSynchronized (fun fs hr => retN X1 hx (t := .boolean) Bd.returns (by simp) (hb hby d3_350) hr) (by rw [e1]; exact ⟨(congrArg (fun z => some (Value.int z)) (own_all (P := fun c => ((own_dg c) = (0 : Int32)) → ¬ (c < (97 : Int32)) → ((102 : Int32) < c) → (c < (65 : Int32)) → (0 : Int32) = (own_in (11 : Int32) c)) p1 hlo hhi (by decide +kernel) hc318 hc324 hc330 hc336)), N1, rfl⟩) (by decide) (by decide)
        · refine oS (fun t k => XS.icmpNo X1.here hx rfl (hb hby d3_336) rfl (flt hc336).1 k) ?_
          show oG _ _ _ _ _ _ _ (T1.setTop (mkF m 339 #[.val (.ref (w 2)), .val (.int p1), .val (.int (own_lo p1)), .val (.int (own_up p1)), .val (.int (own_dg p1)), .val (.int (own_gr p1))] []))
          refine oS (fun t k => XS.iloadN X1.here hx rfl (hb hby d3_339) rfl k) ?_
          refine oS (fun t k => oBp lb_70 X1.here hx rfl (hb hby d3_340) k) ?_
          by_cases hc342 : (70 : Int32) < p1
          · refine oS (fun t k => XS.icmpYes X1.here hx rfl (pc0 := 342) (pc' := 349) rfl (hb hby d3_342) rfl (tlt hc342).2.2.1 (by decide) (by decide) k) ?_
            show oG _ _ _ _ _ _ _ (T1.setTop (mkF m 349 #[.val (.ref (w 2)), .val (.int p1), .val (.int (own_lo p1)), .val (.int (own_up p1)), .val (.int (own_dg p1)), .val (.int (own_gr p1))] []))
            refine oS (fun t k => oIc li_0 X1.here hx rfl (hb hby d3_349) k) ?_
            exact own_ret (v := some (.int 0)) X1 (fun h => by rw [Bd.returns] at h; cases h) Bd.notSynchronized (fun fs hr => retN X1 hx (t := .boolean) Bd.returns (by simp) (hb hby d3_350) hr) (by rw [e1]; exact ⟨(congrArg (fun z => some (Value.int z)) (own_all (P := fun c => ((own_dg c) = (0 : Int32)) → ¬ (c < (97 : Int32)) → ((102 : Int32) < c) → ¬ (c < (65 : Int32)) → ((70 : Int32) < c) → (0 : Int32) = (own_in (11 : Int32) c)) p1 hlo hhi (by decide +kernel) hc318 hc324 hc330 hc336 hc342)), N1, rfl⟩) (by decide) (by decide)
          · refine oS (fun t k => XS.icmpNo X1.here hx rfl (hb hby d3_342) rfl (flt hc342).2.2.1 k) ?_
            show oG _ _ _ _ _ _ _ (T1.setTop (mkF m 345 #[.val (.ref (w 2)), .val (.int p1), .val (.int (own_lo p1)), .val (.int (own_up p1)), .val (.int (own_dg p1)), .val (.int (own_gr p1))] []))
            refine oS (fun t k => oIc li_1 X1.here hx rfl (hb hby d3_345) k) ?_
            refine oS (fun t k => XS.goto X1.here hx rfl (pc0 := 346) (pc' := 350) rfl (hb hby d3_346) (by decide) (by decide) k) ?_
            exact own_ret (v := some (.int 1)) X1 (fun h => by rw [Bd.returns] at h; cases h) Bd.notSynchronized (fun fs hr => retN X1 hx (t := .boolean) Bd.returns (by simp) (hb hby d3_350) hr) (by rw [e1]; exact ⟨(congrArg (fun z => some (Value.int z)) (own_all (P := fun c => ((own_dg c) = (0 : Int32)) → ¬ (c < (97 : Int32)) → ((102 : Int32) < c) → ¬ (c < (65 : Int32)) → ¬ ((70 : Int32) < c) → (1 : Int32) = (own_in (11 : Int32) c)) p1 hlo hhi (by decide +kernel) hc318 hc324 hc330 hc336 hc342)), N1, rfl⟩) (by decide) (by decide)
      · refine oS (fun t k => XS.icmpYes X1.here hx rfl (pc0 := 330) (pc' := 345) rfl (hb hby d3_330) rfl (flt hc330).2.2.2 (by decide) (by decide) k) ?_
        show oG _ _ _ _ _ _ _ (T1.setTop (mkF m 345 #[.val (.ref (w 2)), .val (.int p1), .val (.int (own_lo p1)), .val (.int (own_up p1)), .val (.int (own_dg p1)), .val (.int (own_gr p1))] []))
        refine oS (fun t k => oIc li_1 X1.here hx rfl (hb hby d3_345) k) ?_
        refine oS (fun t k => XS.goto X1.here hx rfl (pc0 := 346) (pc' := 350) rfl (hb hby d3_346) (by decide) (by decide) k) ?_
        exact own_ret (v := some (.int 1)) X1 (fun h => by rw [Bd.returns] at h; cases h) Bd.notSynchronized (fun fs hr => retN X1 hx (t := .boolean) Bd.returns (by simp) (hb hby d3_350) hr) (by rw [e1]; exact ⟨(congrArg (fun z => some (Value.int z)) (own_all (P := fun c => ((own_dg c) = (0 : Int32)) → ¬ (c < (97 : Int32)) → ¬ ((102 : Int32) < c) → (1 : Int32) = (own_in (11 : Int32) c)) p1 hlo hhi (by decide +kernel) hc318 hc324 hc330)), N1, rfl⟩) (by decide) (by decide)
  · refine oS (fun t k => XS.ifYes X1.here hx rfl (pc0 := 318) (pc' := 345) rfl (hb hby d3_318) rfl ((if0 _ _).trans (feq hc318).2) (by decide) (by decide) k) ?_
    show oG _ _ _ _ _ _ _ (T1.setTop (mkF m 345 #[.val (.ref (w 2)), .val (.int p1), .val (.int (own_lo p1)), .val (.int (own_up p1)), .val (.int (own_dg p1)), .val (.int (own_gr p1))] []))
    refine oS (fun t k => oIc li_1 X1.here hx rfl (hb hby d3_345) k) ?_
    refine oS (fun t k => XS.goto X1.here hx rfl (pc0 := 346) (pc' := 350) rfl (hb hby d3_346) (by decide) (by decide) k) ?_
    exact own_ret (v := some (.int 1)) X1 (fun h => by rw [Bd.returns] at h; cases h) Bd.notSynchronized (fun fs hr => retN X1 hx (t := .boolean) Bd.returns (by simp) (hb hby d3_350) hr) (by rw [e1]; exact ⟨(congrArg (fun z => some (Value.int z)) (own_all (P := fun c => ¬ ((own_dg c) = (0 : Int32)) → (1 : Int32) = (own_in (11 : Int32) c)) p1 hlo hhi (by decide +kernel) hc318)), N1, rfl⟩) (by decide) (by decide)
theorem ls_255 : (Int16.ofInt (255)).toInt32 = (255 : Int32) := by decide
theorem lb_12 : (Int8.ofInt (12)).toInt32 = (12 : Int32) := by decide
theorem pd_1 : parseMethodDescriptor "(I)Lcom/example/lamassu/lamassu/builtin/CharClass;" = some ⟨[.int], some (.object "com/example/lamassu/lamassu/builtin/CharClass")⟩ := by decide +kernel
theorem pd_2 : parseMethodDescriptor "(I)I" = some ⟨[.int], some .int⟩ := by decide +kernel
theorem pd_3 : parseMethodDescriptor "(I)Z" = some ⟨[.int], some .boolean⟩ := by decide +kernel
theorem ef_0_ii (m : MethodId) (x0 : Int32) (x1 : Int32) : entryFrame m #[(.int x0), (.int x1)] maxLocals = mkF m 0 #[.val (.int x0), .val (.int x1), .unset, .unset, .unset, .unset] [] := by first | (simp [entryFrame, mkF, argsToLocals, Value.category, maxLocals]; done) | rfl
def Q_law (Z : State) (p1 : Int32) (p2 : Int32) (w : Nat → Addr) (h0 : Heap) (n0 : Nat) (v : Option Value) (h : Heap) (L : List Loc) : Prop := v = some (.int 1) ∧ Fr n0 L
set_option maxRecDepth 65536 in
set_option maxHeartbeats 40000000 in
theorem rm_law (l : Launch) (Z : State) (a0 : Array Value) (hw : ∀ d ∈ tables_1, d.before a0 Z = true) (ws : List Jvm.Cond) (p1 : Int32) (p2 : Int32) (w : Nat → Addr) (h0 : Heap) (n0 : Nat) (O0 : Old Z n0 h0) (W : own_World Z w) :
    MetFree l x (head1 (Jvm.Cond.code x code maxLocals ret :: ws) room_1) (fun a U => a = #[(.int p1), (.int p2)] ∧ Z.Warmed39 U.vm ∧ U.heap = h0) (fun _ _ _ _ _ => True) (fun _ U o U' => ∃ v L, o = .returned v ∧ Q_law Z p1 p2 w h0 n0 v U'.heap L ∧ FrameEnd U o U' L room_1.cells room_1.slots) := by
  refine MetFree.of_bodySF (plainFor_of_name pn_0) hisR ?_
  intro p e s m args below meth c s₁ Bd hml0 hP hK
  obtain ⟨rfl, hZ, hh⟩ := hP
  have hx := Bd.exec
  have hby := Bd.bytes
  have hml : c.maxLocals = 6 := hml0
  have hown : s.vm.findClass "com/example/lamassu/lamassu/builtin/CharClassContainsPinLaw" = some m.cls := findClass_of_methodNamed Bd.named
  have hnm := (name_of_methodNamed Bd.named Bd.method).1
  have X0 : Stand p l e room_1 s m #[(.int p1), (.int p2)] below meth c s₁ [] 0 0 := Stand.of_body Bd
  have e0 : s₁.heap = h0 := by rw [← hh, Bd.state]; rfl
  have N0 := Fr.nil n0
  show oG p e below s (Q_law Z p1 p2 w h0 n0) room_1.cells room_1.slots _
  refine oS (fun t k => castTop (ef_0_ii m p1 p2) k) ?_
  show oG _ _ _ _ _ _ _ (s₁.setTop (mkF m 0 #[.val (.int p1), .val (.int p2), .unset, .unset, .unset, .unset] []))
  refine oS (fun t k => XS.iloadN X0.here hx rfl (hb hby at_0) rfl k) ?_
  refine oS (fun t k => oSp ls_255 X0.here hx rfl (hb hby at_1) k) ?_
  refine oS (fun t k => XS.iand X0.here hx rfl (hb hby at_4) rfl k) ?_
  show oG _ _ _ _ _ _ _ (s₁.setTop (mkF m 5 #[.val (.int p1), .val (.int p2), .unset, .unset, .unset, .unset] [(.int (p1 &&& (255 : Int32)))]))
  refine oS (fun t k => XS.istoreN X0.here hx rfl (hb hby at_5) rfl (l' := #[.val (.int p1), .val (.int p2), .val (.int (p1 &&& (255 : Int32))), .unset, .unset, .unset]) rfl k) ?_
  refine oS (fun t k => XS.iloadN X0.here hx rfl (hb hby at_6) rfl k) ?_
  refine oS (fun t k => X0.ldcInt hx hown (mvT hZ (oW hw 0 rfl)) (g := (mkF m 7 #[.val (.int p1), .val (.int p2), .val (.int (p1 &&& (255 : Int32))), .unset, .unset, .unset] [(.int p2)])) rfl (hb hby at_7) t k) ?_
  show oG _ _ _ _ _ _ _ (s₁.setTop (mkF m 9 #[.val (.int p1), .val (.int p2), .val (.int (p1 &&& (255 : Int32))), .unset, .unset, .unset] [(.int 2147483647), (.int p2)]))
  refine oS (fun t k => XS.iand X0.here hx rfl (hb hby at_9) rfl k) ?_
  refine oS (fun t k => oBp lb_12 X0.here hx rfl (hb hby at_10) k) ?_
  refine oS (fun t k => iremM X0 hx rfl (hb hby at_12) rfl (by decide) k) ?_
  show oG _ _ _ _ _ _ _ (s₁.setTop (mkF m 13 #[.val (.int p1), .val (.int p2), .val (.int (p1 &&& (255 : Int32))), .unset, .unset, .unset] [(.int ((p2 &&& (2147483647 : Int32)) % (12 : Int32)))]))
  refine oS (fun t k => XS.istoreN X0.here hx rfl (hb hby at_13) rfl (l' := #[.val (.int p1), .val (.int p2), .val (.int (p1 &&& (255 : Int32))), .val (.int ((p2 &&& (2147483647 : Int32)) % (12 : Int32))), .unset, .unset]) rfl k) ?_
  refine oS (fun t k => XS.iloadN X0.here hx rfl (hb hby at_14) rfl k) ?_
  show oG _ _ _ _ _ _ _ (s₁.setTop (mkF m 15 #[.val (.int p1), .val (.int p2), .val (.int (p1 &&& (255 : Int32))), .val (.int ((p2 &&& (2147483647 : Int32)) % (12 : Int32))), .unset, .unset] [(.int ((p2 &&& (2147483647 : Int32)) % (12 : Int32)))]))
  rcases own_twelve p2 with hs1 | hs1 | hs1 | hs1 | hs1 | hs1 | hs1 | hs1 | hs1 | hs1 | hs1 | hs1
  · rw [hs1]
    show oG _ _ _ _ _ _ _ (s₁.setTop (mkF m 15 #[.val (.int p1), .val (.int p2), .val (.int (p1 &&& (255 : Int32))), .val (.int 0), .unset, .unset] [(.int 0)]))
    obtain ⟨_, _, ⟨T2, L2, k2, n2⟩, -, X2, ⟨Lc2, hQ2, l2, y2, z2⟩, st2⟩ := Jvm.LawKit.callS X0 hx (y := mY1) hown (mvT hZ (oW hw 1 rfl)) (mvT hZ (oW hw 2 rfl)) (mvT hZ (oW hw 3 rfl)) (mvT hZ (oW hw 4 rfl)) (by decide) (backOf (W := 0) (rm_pick l Z a0 hw [] (0 : Int32) w h0 n0 O0 W ) hZ (oW hw 4 rfl) (oW hw 3 rfl) (by decide) (by decide)) (g := (mkF m 15 #[.val (.int p1), .val (.int p2), .val (.int (p1 &&& (255 : Int32))), .val (.int 0), .unset, .unset] [(.int 0)])) rfl (by rw [hml]; rfl) (argsL := [(.int 0)]) (rest := []) (lenOf pd_1 rfl) rfl (by show 2 * 0 + _ ≤ _; exact Nat.le_of_eq rfl) (hb hby at_15) (fun _ _ => ⟨rfl, e0, (by decide : 0 + 0 ≤ _), (by decide : 0 + 0 ≤ _)⟩)
    dsimp only [Pt.U, Pt.locs, Pt.cells, Pt.slots] at X2 l2 y2 z2 st2 hQ2
    subst l2 y2 z2
    obtain ⟨rfl, Nq2, e2⟩ := hQ2
    have N2 := Fr.app N0 Nq2
    refine oS (fun t k => st2 t k) ?_
    show oG _ _ _ _ _ _ _ (T2.setTop (mkF m 18 #[.val (.int p1), .val (.int p2), .val (.int (p1 &&& (255 : Int32))), .val (.int 0), .unset, .unset] [(.ref (w 4))]))
    try clear st2
    refine oS (fun t k => XS.astore X2.here hx rfl (hb hby at_18) rfl rfl (l' := #[.val (.int p1), .val (.int p2), .val (.int (p1 &&& (255 : Int32))), .val (.int 0), .val (.ref (w 4)), .unset]) rfl k) ?_
    refine oS (fun t k => XS.iloadN X2.here hx rfl (hb hby at_20) rfl k) ?_
    obtain ⟨_, _, ⟨T3, L3, k3, n3⟩, -, X3, ⟨Lc3, hQ3, l3, y3, z3⟩, st3⟩ := Jvm.LawKit.callS X2 hx (y := mY0) hown (mvT hZ (oW hw 8 rfl)) (mvT hZ (oW hw 9 rfl)) (mvT hZ (oW hw 3 rfl)) (mvT hZ (oW hw 10 rfl)) (by decide) (backOf (W := 0) (rm_members l Z a0 hw [] (p1 &&& (255 : Int32))  h0 n0 O0  (own_b p1).1 (own_b p1).2) hZ (oW hw 10 rfl) (oW hw 3 rfl) (by decide) (by decide)) (g := (mkF m 21 #[.val (.int p1), .val (.int p2), .val (.int (p1 &&& (255 : Int32))), .val (.int 0), .val (.ref (w 4)), .unset] [(.int (p1 &&& (255 : Int32)))])) rfl (by rw [hml]; rfl) (argsL := [(.int (p1 &&& (255 : Int32)))]) (rest := []) (lenOf pd_2 rfl) rfl (by show 2 * 0 + _ ≤ _; exact Nat.le_of_eq rfl) (hb hby at_21) (fun _ _ => ⟨rfl, e2, (by decide : 0 + 0 ≤ _), (by decide : 0 + 0 ≤ _)⟩)
    dsimp only [Pt.U, Pt.locs, Pt.cells, Pt.slots] at X3 l3 y3 z3 st3 hQ3
    subst l3 y3 z3
    obtain ⟨rfl, Nq3, e3⟩ := hQ3
    have N3 := Fr.app N2 Nq3
    refine oS (fun t k => st3 t k) ?_
    show oG _ _ _ _ _ _ _ (T3.setTop (mkF m 24 #[.val (.int p1), .val (.int p2), .val (.int (p1 &&& (255 : Int32))), .val (.int 0), .val (.ref (w 4)), .unset] [(.int (own_mem (p1 &&& (255 : Int32))))]))
    try clear st3 X2 e2
    refine oS (fun t k => XS.iloadN X3.here hx rfl (hb hby at_24) rfl k) ?_
    refine oS (fun t k => XS.ishr X3.here hx rfl (hb hby at_25) rfl k) ?_
    refine oS (fun t k => oIc li_1 X3.here hx rfl (hb hby at_26) k) ?_
    show oG _ _ _ _ _ _ _ (T3.setTop (mkF m 27 #[.val (.int p1), .val (.int p2), .val (.int (p1 &&& (255 : Int32))), .val (.int 0), .val (.ref (w 4)), .unset] [(.int 1), (.int ((own_mem (p1 &&& (255 : Int32))) >>> ((0 : Int32) &&& 31)))]))
    refine oS (fun t k => XS.iand X3.here hx rfl (hb hby at_27) rfl k) ?_
    by_cases hc28 : (((own_mem (p1 &&& (255 : Int32))) >>> ((0 : Int32) &&& 31)) &&& (1 : Int32)) = (0 : Int32)
    · refine oS (fun t k => XS.ifYes X3.here hx rfl (pc0 := 28) (pc' := 35) rfl (hb hby at_28) rfl ((if0 _ _).trans (teq hc28).1) (by decide) (by decide) k) ?_
      refine oS (fun t k => oIc li_0 X3.here hx rfl (hb hby at_35) k) ?_
      show oG _ _ _ _ _ _ _ (T3.setTop (mkF m 36 #[.val (.int p1), .val (.int p2), .val (.int (p1 &&& (255 : Int32))), .val (.int 0), .val (.ref (w 4)), .unset] [(.int 0)]))
      refine oS (fun t k => XS.istore X3.here hx rfl (hb hby at_36) rfl (l' := #[.val (.int p1), .val (.int p2), .val (.int (p1 &&& (255 : Int32))), .val (.int 0), .val (.ref (w 4)), .val (.int 0)]) rfl k) ?_
      refine oS (fun t k => XS.aload X3.here hx rfl (hb hby at_38) rfl rfl k) ?_
      refine oS (fun t k => XS.iloadN X3.here hx rfl (hb hby at_40) rfl k) ?_
      show oG _ _ _ _ _ _ _ (T3.setTop (mkF m 41 #[.val (.int p1), .val (.int p2), .val (.int (p1 &&& (255 : Int32))), .val (.int 0), .val (.ref (w 4)), .val (.int 0)] [(.int (p1 &&& (255 : Int32))), (.ref (w 4))]))
      obtain ⟨cq4, kq4, q4a, q4b, q4c⟩ := isOf hZ e3 ((wE4 W).ext O0.2)
      obtain ⟨_, _, ⟨T4, L4, k4, n4⟩, -, X4, ⟨Lc4, hQ4, l4, y4, z4⟩, st4⟩ := X3.virtualBack hx (y := mY4) (z := mY4) hown (mvT hZ (oW hw 11 rfl)) (mvT hZ (oW hw 12 rfl)) (notFace_of_selects (args := #[]) (mvT hZ (oW hw 14 rfl))) (mvT hZ (oW hw 14 rfl)) (mvT hZ (oW hw 13 rfl)) (by decide) (backOf (W := 0) (rm_con_ALNUM l Z a0 hw [] (p1 &&& (255 : Int32)) w h0 n0 O0 W (own_b p1).1 (own_b p1).2) hZ (oW hw 15 rfl) (oW hw 6 rfl) (by decide) (by decide)) q4a q4c (g := (mkF m 41 #[.val (.int p1), .val (.int p2), .val (.int (p1 &&& (255 : Int32))), .val (.int 0), .val (.ref (w 4)), .val (.int 0)] [(.int (p1 &&& (255 : Int32))), (.ref (w 4))])) rfl (by rw [hml]; rfl) (Steps.refl _) (argsL := [(.int (p1 &&& (255 : Int32)))]) (rest := []) (lenOf pd_3 rfl) rfl (by show 2 * 0 + _ ≤ _; exact Nat.le_of_eq rfl) (hb hby at_41) (fun _ _ => ⟨rfl, e3, (by decide : 0 + 0 ≤ _), (by decide : 0 + 0 ≤ _)⟩)
      dsimp only [Pt.U, Pt.locs, Pt.cells, Pt.slots] at X4 l4 y4 z4 st4 hQ4
      subst l4 y4 z4
      obtain ⟨rfl, Nq4, e4⟩ := hQ4
      have N4 := Fr.app N3 Nq4
      refine oS (fun t k => st4.trans k) ?_
      show oG _ _ _ _ _ _ _ (T4.setTop (mkF m 44 #[.val (.int p1), .val (.int p2), .val (.int (p1 &&& (255 : Int32))), .val (.int 0), .val (.ref (w 4)), .val (.int 0)] [(.int (own_in (0 : Int32) (p1 &&& (255 : Int32))))]))
      try clear st4 X3 e3
      refine oS (fun t k => XS.iload X4.here hx rfl (hb hby at_44) rfl k) ?_
      refine oS (fun t k => XS.icmpNo X4.here hx rfl (hb hby at_46) rfl (teq (if_pos hc28)).2 k) ?_
      refine oS (fun t k => oIc li_1 X4.here hx rfl (hb hby at_49) k) ?_
      show oG _ _ _ _ _ _ _ (T4.setTop (mkF m 50 #[.val (.int p1), .val (.int p2), .val (.int (p1 &&& (255 : Int32))), .val (.int 0), .val (.ref (w 4)), .val (.int 0)] [(.int 1)]))
      refine oS (fun t k => XS.goto X4.here hx rfl (pc0 := 50) (pc' := 54) rfl (hb hby at_50) (by decide) (by decide) k) ?_
      exact own_ret (v := some (.int 1)) X4 (fun h => by rw [Bd.returns] at h; cases h) Bd.notSynchronized (fun fs hr => retN X4 hx (t := .boolean) Bd.returns (by simp) (hb hby at_54) hr) (by rw [e4]; exact ⟨rfl, N4⟩) (by decide) (by decide)
    · refine oS (fun t k => XS.ifNo X3.here hx rfl (hb hby at_28) rfl ((if0 _ _).trans (feq hc28).1) k) ?_
      refine oS (fun t k => oIc li_1 X3.here hx rfl (hb hby at_31) k) ?_
      show oG _ _ _ _ _ _ _ (T3.setTop (mkF m 32 #[.val (.int p1), .val (.int p2), .val (.int (p1 &&& (255 : Int32))), .val (.int 0), .val (.ref (w 4)), .unset] [(.int 1)]))
      refine oS (fun t k => XS.goto X3.here hx rfl (pc0 := 32) (pc' := 36) rfl (hb hby at_32) (by decide) (by decide) k) ?_
      refine oS (fun t k => XS.istore X3.here hx rfl (hb hby at_36) rfl (l' := #[.val (.int p1), .val (.int p2), .val (.int (p1 &&& (255 : Int32))), .val (.int 0), .val (.ref (w 4)), .val (.int 1)]) rfl k) ?_
      refine oS (fun t k => XS.aload X3.here hx rfl (hb hby at_38) rfl rfl k) ?_
      show oG _ _ _ _ _ _ _ (T3.setTop (mkF m 40 #[.val (.int p1), .val (.int p2), .val (.int (p1 &&& (255 : Int32))), .val (.int 0), .val (.ref (w 4)), .val (.int 1)] [(.ref (w 4))]))
      refine oS (fun t k => XS.iloadN X3.here hx rfl (hb hby at_40) rfl k) ?_
      obtain ⟨cq5, kq5, q5a, q5b, q5c⟩ := isOf hZ e3 ((wE4 W).ext O0.2)
      obtain ⟨_, _, ⟨T5, L5, k5, n5⟩, -, X5, ⟨Lc5, hQ5, l5, y5, z5⟩, st5⟩ := X3.virtualBack hx (y := mY4) (z := mY4) hown (mvT hZ (oW hw 11 rfl)) (mvT hZ (oW hw 12 rfl)) (notFace_of_selects (args := #[]) (mvT hZ (oW hw 14 rfl))) (mvT hZ (oW hw 14 rfl)) (mvT hZ (oW hw 13 rfl)) (by decide) (backOf (W := 0) (rm_con_ALNUM l Z a0 hw [] (p1 &&& (255 : Int32)) w h0 n0 O0 W (own_b p1).1 (own_b p1).2) hZ (oW hw 15 rfl) (oW hw 6 rfl) (by decide) (by decide)) q5a q5c (g := (mkF m 41 #[.val (.int p1), .val (.int p2), .val (.int (p1 &&& (255 : Int32))), .val (.int 0), .val (.ref (w 4)), .val (.int 1)] [(.int (p1 &&& (255 : Int32))), (.ref (w 4))])) rfl (by rw [hml]; rfl) (Steps.refl _) (argsL := [(.int (p1 &&& (255 : Int32)))]) (rest := []) (lenOf pd_3 rfl) rfl (by show 2 * 0 + _ ≤ _; exact Nat.le_of_eq rfl) (hb hby at_41) (fun _ _ => ⟨rfl, e3, (by decide : 0 + 0 ≤ _), (by decide : 0 + 0 ≤ _)⟩)
      dsimp only [Pt.U, Pt.locs, Pt.cells, Pt.slots] at X5 l5 y5 z5 st5 hQ5
      subst l5 y5 z5
      obtain ⟨rfl, Nq5, e5⟩ := hQ5
      have N5 := Fr.app N3 Nq5
      refine oS (fun t k => st5.trans k) ?_
      show oG _ _ _ _ _ _ _ (T5.setTop (mkF m 44 #[.val (.int p1), .val (.int p2), .val (.int (p1 &&& (255 : Int32))), .val (.int 0), .val (.ref (w 4)), .val (.int 1)] [(.int (own_in (0 : Int32) (p1 &&& (255 : Int32))))]))
      try clear st5 X3 e3
      refine oS (fun t k => XS.iload X5.here hx rfl (hb hby at_44) rfl k) ?_
      refine oS (fun t k => XS.icmpNo X5.here hx rfl (hb hby at_46) rfl (teq (if_neg hc28)).2 k) ?_
      refine oS (fun t k => oIc li_1 X5.here hx rfl (hb hby at_49) k) ?_
      show oG _ _ _ _ _ _ _ (T5.setTop (mkF m 50 #[.val (.int p1), .val (.int p2), .val (.int (p1 &&& (255 : Int32))), .val (.int 0), .val (.ref (w 4)), .val (.int 1)] [(.int 1)]))
      refine oS (fun t k => XS.goto X5.here hx rfl (pc0 := 50) (pc' := 54) rfl (hb hby at_50) (by decide) (by decide) k) ?_
      exact own_ret (v := some (.int 1)) X5 (fun h => by rw [Bd.returns] at h; cases h) Bd.notSynchronized (fun fs hr => retN X5 hx (t := .boolean) Bd.returns (by simp) (hb hby at_54) hr) (by rw [e5]; exact ⟨rfl, N5⟩) (by decide) (by decide)
  · rw [hs1]
    show oG _ _ _ _ _ _ _ (s₁.setTop (mkF m 15 #[.val (.int p1), .val (.int p2), .val (.int (p1 &&& (255 : Int32))), .val (.int 1), .unset, .unset] [(.int 1)]))
    obtain ⟨_, _, ⟨T6, L6, k6, n6⟩, -, X6, ⟨Lc6, hQ6, l6, y6, z6⟩, st6⟩ := Jvm.LawKit.callS X0 hx (y := mY1) hown (mvT hZ (oW hw 1 rfl)) (mvT hZ (oW hw 2 rfl)) (mvT hZ (oW hw 3 rfl)) (mvT hZ (oW hw 4 rfl)) (by decide) (backOf (W := 0) (rm_pick l Z a0 hw [] (1 : Int32) w h0 n0 O0 W ) hZ (oW hw 4 rfl) (oW hw 3 rfl) (by decide) (by decide)) (g := (mkF m 15 #[.val (.int p1), .val (.int p2), .val (.int (p1 &&& (255 : Int32))), .val (.int 1), .unset, .unset] [(.int 1)])) rfl (by rw [hml]; rfl) (argsL := [(.int 1)]) (rest := []) (lenOf pd_1 rfl) rfl (by show 2 * 0 + _ ≤ _; exact Nat.le_of_eq rfl) (hb hby at_15) (fun _ _ => ⟨rfl, e0, (by decide : 0 + 0 ≤ _), (by decide : 0 + 0 ≤ _)⟩)
    dsimp only [Pt.U, Pt.locs, Pt.cells, Pt.slots] at X6 l6 y6 z6 st6 hQ6
    subst l6 y6 z6
    obtain ⟨rfl, Nq6, e6⟩ := hQ6
    have N6 := Fr.app N0 Nq6
    refine oS (fun t k => st6 t k) ?_
    show oG _ _ _ _ _ _ _ (T6.setTop (mkF m 18 #[.val (.int p1), .val (.int p2), .val (.int (p1 &&& (255 : Int32))), .val (.int 1), .unset, .unset] [(.ref (w 1))]))
    try clear st6
    refine oS (fun t k => XS.astore X6.here hx rfl (hb hby at_18) rfl rfl (l' := #[.val (.int p1), .val (.int p2), .val (.int (p1 &&& (255 : Int32))), .val (.int 1), .val (.ref (w 1)), .unset]) rfl k) ?_
    refine oS (fun t k => XS.iloadN X6.here hx rfl (hb hby at_20) rfl k) ?_
    obtain ⟨_, _, ⟨T7, L7, k7, n7⟩, -, X7, ⟨Lc7, hQ7, l7, y7, z7⟩, st7⟩ := Jvm.LawKit.callS X6 hx (y := mY0) hown (mvT hZ (oW hw 8 rfl)) (mvT hZ (oW hw 9 rfl)) (mvT hZ (oW hw 3 rfl)) (mvT hZ (oW hw 10 rfl)) (by decide) (backOf (W := 0) (rm_members l Z a0 hw [] (p1 &&& (255 : Int32))  h0 n0 O0  (own_b p1).1 (own_b p1).2) hZ (oW hw 10 rfl) (oW hw 3 rfl) (by decide) (by decide)) (g := (mkF m 21 #[.val (.int p1), .val (.int p2), .val (.int (p1 &&& (255 : Int32))), .val (.int 1), .val (.ref (w 1)), .unset] [(.int (p1 &&& (255 : Int32)))])) rfl (by rw [hml]; rfl) (argsL := [(.int (p1 &&& (255 : Int32)))]) (rest := []) (lenOf pd_2 rfl) rfl (by show 2 * 0 + _ ≤ _; exact Nat.le_of_eq rfl) (hb hby at_21) (fun _ _ => ⟨rfl, e6, (by decide : 0 + 0 ≤ _), (by decide : 0 + 0 ≤ _)⟩)
    dsimp only [Pt.U, Pt.locs, Pt.cells, Pt.slots] at X7 l7 y7 z7 st7 hQ7
    subst l7 y7 z7
    obtain ⟨rfl, Nq7, e7⟩ := hQ7
    have N7 := Fr.app N6 Nq7
    refine oS (fun t k => st7 t k) ?_
    show oG _ _ _ _ _ _ _ (T7.setTop (mkF m 24 #[.val (.int p1), .val (.int p2), .val (.int (p1 &&& (255 : Int32))), .val (.int 1), .val (.ref (w 1)), .unset] [(.int (own_mem (p1 &&& (255 : Int32))))]))
    try clear st7 X6 e6
    refine oS (fun t k => XS.iloadN X7.here hx rfl (hb hby at_24) rfl k) ?_
    refine oS (fun t k => XS.ishr X7.here hx rfl (hb hby at_25) rfl k) ?_
    refine oS (fun t k => oIc li_1 X7.here hx rfl (hb hby at_26) k) ?_
    show oG _ _ _ _ _ _ _ (T7.setTop (mkF m 27 #[.val (.int p1), .val (.int p2), .val (.int (p1 &&& (255 : Int32))), .val (.int 1), .val (.ref (w 1)), .unset] [(.int 1), (.int ((own_mem (p1 &&& (255 : Int32))) >>> ((1 : Int32) &&& 31)))]))
    refine oS (fun t k => XS.iand X7.here hx rfl (hb hby at_27) rfl k) ?_
    by_cases hc28 : (((own_mem (p1 &&& (255 : Int32))) >>> ((1 : Int32) &&& 31)) &&& (1 : Int32)) = (0 : Int32)
    · refine oS (fun t k => XS.ifYes X7.here hx rfl (pc0 := 28) (pc' := 35) rfl (hb hby at_28) rfl ((if0 _ _).trans (teq hc28).1) (by decide) (by decide) k) ?_
      refine oS (fun t k => oIc li_0 X7.here hx rfl (hb hby at_35) k) ?_
      show oG _ _ _ _ _ _ _ (T7.setTop (mkF m 36 #[.val (.int p1), .val (.int p2), .val (.int (p1 &&& (255 : Int32))), .val (.int 1), .val (.ref (w 1)), .unset] [(.int 0)]))
      refine oS (fun t k => XS.istore X7.here hx rfl (hb hby at_36) rfl (l' := #[.val (.int p1), .val (.int p2), .val (.int (p1 &&& (255 : Int32))), .val (.int 1), .val (.ref (w 1)), .val (.int 0)]) rfl k) ?_
      refine oS (fun t k => XS.aload X7.here hx rfl (hb hby at_38) rfl rfl k) ?_
      refine oS (fun t k => XS.iloadN X7.here hx rfl (hb hby at_40) rfl k) ?_
      show oG _ _ _ _ _ _ _ (T7.setTop (mkF m 41 #[.val (.int p1), .val (.int p2), .val (.int (p1 &&& (255 : Int32))), .val (.int 1), .val (.ref (w 1)), .val (.int 0)] [(.int (p1 &&& (255 : Int32))), (.ref (w 1))]))
      obtain ⟨cq8, kq8, q8a, q8b, q8c⟩ := isOf hZ e7 ((wE1 W).ext O0.2)
      obtain ⟨_, _, ⟨T8, L8, k8, n8⟩, -, X8, ⟨Lc8, hQ8, l8, y8, z8⟩, st8⟩ := X7.virtualBack hx (y := mY4) (z := mY4) hown (mvT hZ (oW hw 11 rfl)) (mvT hZ (oW hw 12 rfl)) (notFace_of_selects (args := #[]) (mvT hZ (oW hw 14 rfl))) (mvT hZ (oW hw 14 rfl)) (mvT hZ (oW hw 13 rfl)) (by decide) (backOf (W := 0) (rm_con_ALPHA l Z a0 hw [] (p1 &&& (255 : Int32)) w h0 n0 O0 W (own_b p1).1 (own_b p1).2) hZ (oW hw 15 rfl) (oW hw 6 rfl) (by decide) (by decide)) q8a q8c (g := (mkF m 41 #[.val (.int p1), .val (.int p2), .val (.int (p1 &&& (255 : Int32))), .val (.int 1), .val (.ref (w 1)), .val (.int 0)] [(.int (p1 &&& (255 : Int32))), (.ref (w 1))])) rfl (by rw [hml]; rfl) (Steps.refl _) (argsL := [(.int (p1 &&& (255 : Int32)))]) (rest := []) (lenOf pd_3 rfl) rfl (by show 2 * 0 + _ ≤ _; exact Nat.le_of_eq rfl) (hb hby at_41) (fun _ _ => ⟨rfl, e7, (by decide : 0 + 0 ≤ _), (by decide : 0 + 0 ≤ _)⟩)
      dsimp only [Pt.U, Pt.locs, Pt.cells, Pt.slots] at X8 l8 y8 z8 st8 hQ8
      subst l8 y8 z8
      obtain ⟨rfl, Nq8, e8⟩ := hQ8
      have N8 := Fr.app N7 Nq8
      refine oS (fun t k => st8.trans k) ?_
      show oG _ _ _ _ _ _ _ (T8.setTop (mkF m 44 #[.val (.int p1), .val (.int p2), .val (.int (p1 &&& (255 : Int32))), .val (.int 1), .val (.ref (w 1)), .val (.int 0)] [(.int (own_in (1 : Int32) (p1 &&& (255 : Int32))))]))
      try clear st8 X7 e7
      refine oS (fun t k => XS.iload X8.here hx rfl (hb hby at_44) rfl k) ?_
      refine oS (fun t k => XS.icmpNo X8.here hx rfl (hb hby at_46) rfl (teq (if_pos hc28)).2 k) ?_
      refine oS (fun t k => oIc li_1 X8.here hx rfl (hb hby at_49) k) ?_
      show oG _ _ _ _ _ _ _ (T8.setTop (mkF m 50 #[.val (.int p1), .val (.int p2), .val (.int (p1 &&& (255 : Int32))), .val (.int 1), .val (.ref (w 1)), .val (.int 0)] [(.int 1)]))
      refine oS (fun t k => XS.goto X8.here hx rfl (pc0 := 50) (pc' := 54) rfl (hb hby at_50) (by decide) (by decide) k) ?_
      exact own_ret (v := some (.int 1)) X8 (fun h => by rw [Bd.returns] at h; cases h) Bd.notSynchronized (fun fs hr => retN X8 hx (t := .boolean) Bd.returns (by simp) (hb hby at_54) hr) (by rw [e8]; exact ⟨rfl, N8⟩) (by decide) (by decide)
    · refine oS (fun t k => XS.ifNo X7.here hx rfl (hb hby at_28) rfl ((if0 _ _).trans (feq hc28).1) k) ?_
      refine oS (fun t k => oIc li_1 X7.here hx rfl (hb hby at_31) k) ?_
      show oG _ _ _ _ _ _ _ (T7.setTop (mkF m 32 #[.val (.int p1), .val (.int p2), .val (.int (p1 &&& (255 : Int32))), .val (.int 1), .val (.ref (w 1)), .unset] [(.int 1)]))
      refine oS (fun t k => XS.goto X7.here hx rfl (pc0 := 32) (pc' := 36) rfl (hb hby at_32) (by decide) (by decide) k) ?_
      refine oS (fun t k => XS.istore X7.here hx rfl (hb hby at_36) rfl (l' := #[.val (.int p1), .val (.int p2), .val (.int (p1 &&& (255 : Int32))), .val (.int 1), .val (.ref (w 1)), .val (.int 1)]) rfl k) ?_
      refine oS (fun t k => XS.aload X7.here hx rfl (hb hby at_38) rfl rfl k) ?_
      show oG _ _ _ _ _ _ _ (T7.setTop (mkF m 40 #[.val (.int p1), .val (.int p2), .val (.int (p1 &&& (255 : Int32))), .val (.int 1), .val (.ref (w 1)), .val (.int 1)] [(.ref (w 1))]))
      refine oS (fun t k => XS.iloadN X7.here hx rfl (hb hby at_40) rfl k) ?_
      obtain ⟨cq9, kq9, q9a, q9b, q9c⟩ := isOf hZ e7 ((wE1 W).ext O0.2)
      obtain ⟨_, _, ⟨T9, L9, k9, n9⟩, -, X9, ⟨Lc9, hQ9, l9, y9, z9⟩, st9⟩ := X7.virtualBack hx (y := mY4) (z := mY4) hown (mvT hZ (oW hw 11 rfl)) (mvT hZ (oW hw 12 rfl)) (notFace_of_selects (args := #[]) (mvT hZ (oW hw 14 rfl))) (mvT hZ (oW hw 14 rfl)) (mvT hZ (oW hw 13 rfl)) (by decide) (backOf (W := 0) (rm_con_ALPHA l Z a0 hw [] (p1 &&& (255 : Int32)) w h0 n0 O0 W (own_b p1).1 (own_b p1).2) hZ (oW hw 15 rfl) (oW hw 6 rfl) (by decide) (by decide)) q9a q9c (g := (mkF m 41 #[.val (.int p1), .val (.int p2), .val (.int (p1 &&& (255 : Int32))), .val (.int 1), .val (.ref (w 1)), .val (.int 1)] [(.int (p1 &&& (255 : Int32))), (.ref (w 1))])) rfl (by rw [hml]; rfl) (Steps.refl _) (argsL := [(.int (p1 &&& (255 : Int32)))]) (rest := []) (lenOf pd_3 rfl) rfl (by show 2 * 0 + _ ≤ _; exact Nat.le_of_eq rfl) (hb hby at_41) (fun _ _ => ⟨rfl, e7, (by decide : 0 + 0 ≤ _), (by decide : 0 + 0 ≤ _)⟩)
      dsimp only [Pt.U, Pt.locs, Pt.cells, Pt.slots] at X9 l9 y9 z9 st9 hQ9
      subst l9 y9 z9
      obtain ⟨rfl, Nq9, e9⟩ := hQ9
      have N9 := Fr.app N7 Nq9
      refine oS (fun t k => st9.trans k) ?_
      show oG _ _ _ _ _ _ _ (T9.setTop (mkF m 44 #[.val (.int p1), .val (.int p2), .val (.int (p1 &&& (255 : Int32))), .val (.int 1), .val (.ref (w 1)), .val (.int 1)] [(.int (own_in (1 : Int32) (p1 &&& (255 : Int32))))]))
      try clear st9 X7 e7
      refine oS (fun t k => XS.iload X9.here hx rfl (hb hby at_44) rfl k) ?_
      refine oS (fun t k => XS.icmpNo X9.here hx rfl (hb hby at_46) rfl (teq (if_neg hc28)).2 k) ?_
      refine oS (fun t k => oIc li_1 X9.here hx rfl (hb hby at_49) k) ?_
      show oG _ _ _ _ _ _ _ (T9.setTop (mkF m 50 #[.val (.int p1), .val (.int p2), .val (.int (p1 &&& (255 : Int32))), .val (.int 1), .val (.ref (w 1)), .val (.int 1)] [(.int 1)]))
      refine oS (fun t k => XS.goto X9.here hx rfl (pc0 := 50) (pc' := 54) rfl (hb hby at_50) (by decide) (by decide) k) ?_
      exact own_ret (v := some (.int 1)) X9 (fun h => by rw [Bd.returns] at h; cases h) Bd.notSynchronized (fun fs hr => retN X9 hx (t := .boolean) Bd.returns (by simp) (hb hby at_54) hr) (by rw [e9]; exact ⟨rfl, N9⟩) (by decide) (by decide)
  · rw [hs1]
    show oG _ _ _ _ _ _ _ (s₁.setTop (mkF m 15 #[.val (.int p1), .val (.int p2), .val (.int (p1 &&& (255 : Int32))), .val (.int 2), .unset, .unset] [(.int 2)]))
    obtain ⟨_, _, ⟨T10, L10, k10, n10⟩, -, X10, ⟨Lc10, hQ10, l10, y10, z10⟩, st10⟩ := Jvm.LawKit.callS X0 hx (y := mY1) hown (mvT hZ (oW hw 1 rfl)) (mvT hZ (oW hw 2 rfl)) (mvT hZ (oW hw 3 rfl)) (mvT hZ (oW hw 4 rfl)) (by decide) (backOf (W := 0) (rm_pick l Z a0 hw [] (2 : Int32) w h0 n0 O0 W ) hZ (oW hw 4 rfl) (oW hw 3 rfl) (by decide) (by decide)) (g := (mkF m 15 #[.val (.int p1), .val (.int p2), .val (.int (p1 &&& (255 : Int32))), .val (.int 2), .unset, .unset] [(.int 2)])) rfl (by rw [hml]; rfl) (argsL := [(.int 2)]) (rest := []) (lenOf pd_1 rfl) rfl (by show 2 * 0 + _ ≤ _; exact Nat.le_of_eq rfl) (hb hby at_15) (fun _ _ => ⟨rfl, e0, (by decide : 0 + 0 ≤ _), (by decide : 0 + 0 ≤ _)⟩)
    dsimp only [Pt.U, Pt.locs, Pt.cells, Pt.slots] at X10 l10 y10 z10 st10 hQ10
    subst l10 y10 z10
    obtain ⟨rfl, Nq10, e10⟩ := hQ10
    have N10 := Fr.app N0 Nq10
    refine oS (fun t k => st10 t k) ?_
    show oG _ _ _ _ _ _ _ (T10.setTop (mkF m 18 #[.val (.int p1), .val (.int p2), .val (.int (p1 &&& (255 : Int32))), .val (.int 2), .unset, .unset] [(.ref (w 9))]))
    try clear st10
    refine oS (fun t k => XS.astore X10.here hx rfl (hb hby at_18) rfl rfl (l' := #[.val (.int p1), .val (.int p2), .val (.int (p1 &&& (255 : Int32))), .val (.int 2), .val (.ref (w 9)), .unset]) rfl k) ?_
    refine oS (fun t k => XS.iloadN X10.here hx rfl (hb hby at_20) rfl k) ?_
    obtain ⟨_, _, ⟨T11, L11, k11, n11⟩, -, X11, ⟨Lc11, hQ11, l11, y11, z11⟩, st11⟩ := Jvm.LawKit.callS X10 hx (y := mY0) hown (mvT hZ (oW hw 8 rfl)) (mvT hZ (oW hw 9 rfl)) (mvT hZ (oW hw 3 rfl)) (mvT hZ (oW hw 10 rfl)) (by decide) (backOf (W := 0) (rm_members l Z a0 hw [] (p1 &&& (255 : Int32))  h0 n0 O0  (own_b p1).1 (own_b p1).2) hZ (oW hw 10 rfl) (oW hw 3 rfl) (by decide) (by decide)) (g := (mkF m 21 #[.val (.int p1), .val (.int p2), .val (.int (p1 &&& (255 : Int32))), .val (.int 2), .val (.ref (w 9)), .unset] [(.int (p1 &&& (255 : Int32)))])) rfl (by rw [hml]; rfl) (argsL := [(.int (p1 &&& (255 : Int32)))]) (rest := []) (lenOf pd_2 rfl) rfl (by show 2 * 0 + _ ≤ _; exact Nat.le_of_eq rfl) (hb hby at_21) (fun _ _ => ⟨rfl, e10, (by decide : 0 + 0 ≤ _), (by decide : 0 + 0 ≤ _)⟩)
    dsimp only [Pt.U, Pt.locs, Pt.cells, Pt.slots] at X11 l11 y11 z11 st11 hQ11
    subst l11 y11 z11
    obtain ⟨rfl, Nq11, e11⟩ := hQ11
    have N11 := Fr.app N10 Nq11
    refine oS (fun t k => st11 t k) ?_
    show oG _ _ _ _ _ _ _ (T11.setTop (mkF m 24 #[.val (.int p1), .val (.int p2), .val (.int (p1 &&& (255 : Int32))), .val (.int 2), .val (.ref (w 9)), .unset] [(.int (own_mem (p1 &&& (255 : Int32))))]))
    try clear st11 X10 e10
    refine oS (fun t k => XS.iloadN X11.here hx rfl (hb hby at_24) rfl k) ?_
    refine oS (fun t k => XS.ishr X11.here hx rfl (hb hby at_25) rfl k) ?_
    refine oS (fun t k => oIc li_1 X11.here hx rfl (hb hby at_26) k) ?_
    show oG _ _ _ _ _ _ _ (T11.setTop (mkF m 27 #[.val (.int p1), .val (.int p2), .val (.int (p1 &&& (255 : Int32))), .val (.int 2), .val (.ref (w 9)), .unset] [(.int 1), (.int ((own_mem (p1 &&& (255 : Int32))) >>> ((2 : Int32) &&& 31)))]))
    refine oS (fun t k => XS.iand X11.here hx rfl (hb hby at_27) rfl k) ?_
    by_cases hc28 : (((own_mem (p1 &&& (255 : Int32))) >>> ((2 : Int32) &&& 31)) &&& (1 : Int32)) = (0 : Int32)
    · refine oS (fun t k => XS.ifYes X11.here hx rfl (pc0 := 28) (pc' := 35) rfl (hb hby at_28) rfl ((if0 _ _).trans (teq hc28).1) (by decide) (by decide) k) ?_
      refine oS (fun t k => oIc li_0 X11.here hx rfl (hb hby at_35) k) ?_
      show oG _ _ _ _ _ _ _ (T11.setTop (mkF m 36 #[.val (.int p1), .val (.int p2), .val (.int (p1 &&& (255 : Int32))), .val (.int 2), .val (.ref (w 9)), .unset] [(.int 0)]))
      refine oS (fun t k => XS.istore X11.here hx rfl (hb hby at_36) rfl (l' := #[.val (.int p1), .val (.int p2), .val (.int (p1 &&& (255 : Int32))), .val (.int 2), .val (.ref (w 9)), .val (.int 0)]) rfl k) ?_
      refine oS (fun t k => XS.aload X11.here hx rfl (hb hby at_38) rfl rfl k) ?_
      refine oS (fun t k => XS.iloadN X11.here hx rfl (hb hby at_40) rfl k) ?_
      show oG _ _ _ _ _ _ _ (T11.setTop (mkF m 41 #[.val (.int p1), .val (.int p2), .val (.int (p1 &&& (255 : Int32))), .val (.int 2), .val (.ref (w 9)), .val (.int 0)] [(.int (p1 &&& (255 : Int32))), (.ref (w 9))]))
      obtain ⟨cq12, kq12, q12a, q12b, q12c⟩ := isOf hZ e11 ((wE9 W).ext O0.2)
      obtain ⟨_, _, ⟨T12, L12, k12, n12⟩, -, X12, ⟨Lc12, hQ12, l12, y12, z12⟩, st12⟩ := X11.virtualBack hx (y := mY4) (z := mY4) hown (mvT hZ (oW hw 11 rfl)) (mvT hZ (oW hw 12 rfl)) (notFace_of_selects (args := #[]) (mvT hZ (oW hw 14 rfl))) (mvT hZ (oW hw 14 rfl)) (mvT hZ (oW hw 13 rfl)) (by decide) (backOf (W := 0) (rm_con_BLANK l Z a0 hw [] (p1 &&& (255 : Int32)) w h0 n0 O0 W (own_b p1).1 (own_b p1).2) hZ (oW hw 15 rfl) (oW hw 6 rfl) (by decide) (by decide)) q12a q12c (g := (mkF m 41 #[.val (.int p1), .val (.int p2), .val (.int (p1 &&& (255 : Int32))), .val (.int 2), .val (.ref (w 9)), .val (.int 0)] [(.int (p1 &&& (255 : Int32))), (.ref (w 9))])) rfl (by rw [hml]; rfl) (Steps.refl _) (argsL := [(.int (p1 &&& (255 : Int32)))]) (rest := []) (lenOf pd_3 rfl) rfl (by show 2 * 0 + _ ≤ _; exact Nat.le_of_eq rfl) (hb hby at_41) (fun _ _ => ⟨rfl, e11, (by decide : 0 + 0 ≤ _), (by decide : 0 + 0 ≤ _)⟩)
      dsimp only [Pt.U, Pt.locs, Pt.cells, Pt.slots] at X12 l12 y12 z12 st12 hQ12
      subst l12 y12 z12
      obtain ⟨rfl, Nq12, e12⟩ := hQ12
      have N12 := Fr.app N11 Nq12
      refine oS (fun t k => st12.trans k) ?_
      show oG _ _ _ _ _ _ _ (T12.setTop (mkF m 44 #[.val (.int p1), .val (.int p2), .val (.int (p1 &&& (255 : Int32))), .val (.int 2), .val (.ref (w 9)), .val (.int 0)] [(.int (own_in (2 : Int32) (p1 &&& (255 : Int32))))]))
      try clear st12 X11 e11
      refine oS (fun t k => XS.iload X12.here hx rfl (hb hby at_44) rfl k) ?_
      refine oS (fun t k => XS.icmpNo X12.here hx rfl (hb hby at_46) rfl (teq (if_pos hc28)).2 k) ?_
      refine oS (fun t k => oIc li_1 X12.here hx rfl (hb hby at_49) k) ?_
      show oG _ _ _ _ _ _ _ (T12.setTop (mkF m 50 #[.val (.int p1), .val (.int p2), .val (.int (p1 &&& (255 : Int32))), .val (.int 2), .val (.ref (w 9)), .val (.int 0)] [(.int 1)]))
      refine oS (fun t k => XS.goto X12.here hx rfl (pc0 := 50) (pc' := 54) rfl (hb hby at_50) (by decide) (by decide) k) ?_
      exact own_ret (v := some (.int 1)) X12 (fun h => by rw [Bd.returns] at h; cases h) Bd.notSynchronized (fun fs hr => retN X12 hx (t := .boolean) Bd.returns (by simp) (hb hby at_54) hr) (by rw [e12]; exact ⟨rfl, N12⟩) (by decide) (by decide)
    · refine oS (fun t k => XS.ifNo X11.here hx rfl (hb hby at_28) rfl ((if0 _ _).trans (feq hc28).1) k) ?_
      refine oS (fun t k => oIc li_1 X11.here hx rfl (hb hby at_31) k) ?_
      show oG _ _ _ _ _ _ _ (T11.setTop (mkF m 32 #[.val (.int p1), .val (.int p2), .val (.int (p1 &&& (255 : Int32))), .val (.int 2), .val (.ref (w 9)), .unset] [(.int 1)]))
      refine oS (fun t k => XS.goto X11.here hx rfl (pc0 := 32) (pc' := 36) rfl (hb hby at_32) (by decide) (by decide) k) ?_
      refine oS (fun t k => XS.istore X11.here hx rfl (hb hby at_36) rfl (l' := #[.val (.int p1), .val (.int p2), .val (.int (p1 &&& (255 : Int32))), .val (.int 2), .val (.ref (w 9)), .val (.int 1)]) rfl k) ?_
      refine oS (fun t k => XS.aload X11.here hx rfl (hb hby at_38) rfl rfl k) ?_
      show oG _ _ _ _ _ _ _ (T11.setTop (mkF m 40 #[.val (.int p1), .val (.int p2), .val (.int (p1 &&& (255 : Int32))), .val (.int 2), .val (.ref (w 9)), .val (.int 1)] [(.ref (w 9))]))
      refine oS (fun t k => XS.iloadN X11.here hx rfl (hb hby at_40) rfl k) ?_
      obtain ⟨cq13, kq13, q13a, q13b, q13c⟩ := isOf hZ e11 ((wE9 W).ext O0.2)
      obtain ⟨_, _, ⟨T13, L13, k13, n13⟩, -, X13, ⟨Lc13, hQ13, l13, y13, z13⟩, st13⟩ := X11.virtualBack hx (y := mY4) (z := mY4) hown (mvT hZ (oW hw 11 rfl)) (mvT hZ (oW hw 12 rfl)) (notFace_of_selects (args := #[]) (mvT hZ (oW hw 14 rfl))) (mvT hZ (oW hw 14 rfl)) (mvT hZ (oW hw 13 rfl)) (by decide) (backOf (W := 0) (rm_con_BLANK l Z a0 hw [] (p1 &&& (255 : Int32)) w h0 n0 O0 W (own_b p1).1 (own_b p1).2) hZ (oW hw 15 rfl) (oW hw 6 rfl) (by decide) (by decide)) q13a q13c (g := (mkF m 41 #[.val (.int p1), .val (.int p2), .val (.int (p1 &&& (255 : Int32))), .val (.int 2), .val (.ref (w 9)), .val (.int 1)] [(.int (p1 &&& (255 : Int32))), (.ref (w 9))])) rfl (by rw [hml]; rfl) (Steps.refl _) (argsL := [(.int (p1 &&& (255 : Int32)))]) (rest := []) (lenOf pd_3 rfl) rfl (by show 2 * 0 + _ ≤ _; exact Nat.le_of_eq rfl) (hb hby at_41) (fun _ _ => ⟨rfl, e11, (by decide : 0 + 0 ≤ _), (by decide : 0 + 0 ≤ _)⟩)
      dsimp only [Pt.U, Pt.locs, Pt.cells, Pt.slots] at X13 l13 y13 z13 st13 hQ13
      subst l13 y13 z13
      obtain ⟨rfl, Nq13, e13⟩ := hQ13
      have N13 := Fr.app N11 Nq13
      refine oS (fun t k => st13.trans k) ?_
      show oG _ _ _ _ _ _ _ (T13.setTop (mkF m 44 #[.val (.int p1), .val (.int p2), .val (.int (p1 &&& (255 : Int32))), .val (.int 2), .val (.ref (w 9)), .val (.int 1)] [(.int (own_in (2 : Int32) (p1 &&& (255 : Int32))))]))
      try clear st13 X11 e11
      refine oS (fun t k => XS.iload X13.here hx rfl (hb hby at_44) rfl k) ?_
      refine oS (fun t k => XS.icmpNo X13.here hx rfl (hb hby at_46) rfl (teq (if_neg hc28)).2 k) ?_
      refine oS (fun t k => oIc li_1 X13.here hx rfl (hb hby at_49) k) ?_
      show oG _ _ _ _ _ _ _ (T13.setTop (mkF m 50 #[.val (.int p1), .val (.int p2), .val (.int (p1 &&& (255 : Int32))), .val (.int 2), .val (.ref (w 9)), .val (.int 1)] [(.int 1)]))
      refine oS (fun t k => XS.goto X13.here hx rfl (pc0 := 50) (pc' := 54) rfl (hb hby at_50) (by decide) (by decide) k) ?_
      exact own_ret (v := some (.int 1)) X13 (fun h => by rw [Bd.returns] at h; cases h) Bd.notSynchronized (fun fs hr => retN X13 hx (t := .boolean) Bd.returns (by simp) (hb hby at_54) hr) (by rw [e13]; exact ⟨rfl, N13⟩) (by decide) (by decide)
  · rw [hs1]
    show oG _ _ _ _ _ _ _ (s₁.setTop (mkF m 15 #[.val (.int p1), .val (.int p2), .val (.int (p1 &&& (255 : Int32))), .val (.int 3), .unset, .unset] [(.int 3)]))
    obtain ⟨_, _, ⟨T14, L14, k14, n14⟩, -, X14, ⟨Lc14, hQ14, l14, y14, z14⟩, st14⟩ := Jvm.LawKit.callS X0 hx (y := mY1) hown (mvT hZ (oW hw 1 rfl)) (mvT hZ (oW hw 2 rfl)) (mvT hZ (oW hw 3 rfl)) (mvT hZ (oW hw 4 rfl)) (by decide) (backOf (W := 0) (rm_pick l Z a0 hw [] (3 : Int32) w h0 n0 O0 W ) hZ (oW hw 4 rfl) (oW hw 3 rfl) (by decide) (by decide)) (g := (mkF m 15 #[.val (.int p1), .val (.int p2), .val (.int (p1 &&& (255 : Int32))), .val (.int 3), .unset, .unset] [(.int 3)])) rfl (by rw [hml]; rfl) (argsL := [(.int 3)]) (rest := []) (lenOf pd_1 rfl) rfl (by show 2 * 0 + _ ≤ _; exact Nat.le_of_eq rfl) (hb hby at_15) (fun _ _ => ⟨rfl, e0, (by decide : 0 + 0 ≤ _), (by decide : 0 + 0 ≤ _)⟩)
    dsimp only [Pt.U, Pt.locs, Pt.cells, Pt.slots] at X14 l14 y14 z14 st14 hQ14
    subst l14 y14 z14
    obtain ⟨rfl, Nq14, e14⟩ := hQ14
    have N14 := Fr.app N0 Nq14
    refine oS (fun t k => st14 t k) ?_
    show oG _ _ _ _ _ _ _ (T14.setTop (mkF m 18 #[.val (.int p1), .val (.int p2), .val (.int (p1 &&& (255 : Int32))), .val (.int 3), .unset, .unset] [(.ref (w 0))]))
    try clear st14
    refine oS (fun t k => XS.astore X14.here hx rfl (hb hby at_18) rfl rfl (l' := #[.val (.int p1), .val (.int p2), .val (.int (p1 &&& (255 : Int32))), .val (.int 3), .val (.ref (w 0)), .unset]) rfl k) ?_
    refine oS (fun t k => XS.iloadN X14.here hx rfl (hb hby at_20) rfl k) ?_
    obtain ⟨_, _, ⟨T15, L15, k15, n15⟩, -, X15, ⟨Lc15, hQ15, l15, y15, z15⟩, st15⟩ := Jvm.LawKit.callS X14 hx (y := mY0) hown (mvT hZ (oW hw 8 rfl)) (mvT hZ (oW hw 9 rfl)) (mvT hZ (oW hw 3 rfl)) (mvT hZ (oW hw 10 rfl)) (by decide) (backOf (W := 0) (rm_members l Z a0 hw [] (p1 &&& (255 : Int32))  h0 n0 O0  (own_b p1).1 (own_b p1).2) hZ (oW hw 10 rfl) (oW hw 3 rfl) (by decide) (by decide)) (g := (mkF m 21 #[.val (.int p1), .val (.int p2), .val (.int (p1 &&& (255 : Int32))), .val (.int 3), .val (.ref (w 0)), .unset] [(.int (p1 &&& (255 : Int32)))])) rfl (by rw [hml]; rfl) (argsL := [(.int (p1 &&& (255 : Int32)))]) (rest := []) (lenOf pd_2 rfl) rfl (by show 2 * 0 + _ ≤ _; exact Nat.le_of_eq rfl) (hb hby at_21) (fun _ _ => ⟨rfl, e14, (by decide : 0 + 0 ≤ _), (by decide : 0 + 0 ≤ _)⟩)
    dsimp only [Pt.U, Pt.locs, Pt.cells, Pt.slots] at X15 l15 y15 z15 st15 hQ15
    subst l15 y15 z15
    obtain ⟨rfl, Nq15, e15⟩ := hQ15
    have N15 := Fr.app N14 Nq15
    refine oS (fun t k => st15 t k) ?_
    show oG _ _ _ _ _ _ _ (T15.setTop (mkF m 24 #[.val (.int p1), .val (.int p2), .val (.int (p1 &&& (255 : Int32))), .val (.int 3), .val (.ref (w 0)), .unset] [(.int (own_mem (p1 &&& (255 : Int32))))]))
    try clear st15 X14 e14
    refine oS (fun t k => XS.iloadN X15.here hx rfl (hb hby at_24) rfl k) ?_
    refine oS (fun t k => XS.ishr X15.here hx rfl (hb hby at_25) rfl k) ?_
    refine oS (fun t k => oIc li_1 X15.here hx rfl (hb hby at_26) k) ?_
    show oG _ _ _ _ _ _ _ (T15.setTop (mkF m 27 #[.val (.int p1), .val (.int p2), .val (.int (p1 &&& (255 : Int32))), .val (.int 3), .val (.ref (w 0)), .unset] [(.int 1), (.int ((own_mem (p1 &&& (255 : Int32))) >>> ((3 : Int32) &&& 31)))]))
    refine oS (fun t k => XS.iand X15.here hx rfl (hb hby at_27) rfl k) ?_
    by_cases hc28 : (((own_mem (p1 &&& (255 : Int32))) >>> ((3 : Int32) &&& 31)) &&& (1 : Int32)) = (0 : Int32)
    · refine oS (fun t k => XS.ifYes X15.here hx rfl (pc0 := 28) (pc' := 35) rfl (hb hby at_28) rfl ((if0 _ _).trans (teq hc28).1) (by decide) (by decide) k) ?_
      refine oS (fun t k => oIc li_0 X15.here hx rfl (hb hby at_35) k) ?_
      show oG _ _ _ _ _ _ _ (T15.setTop (mkF m 36 #[.val (.int p1), .val (.int p2), .val (.int (p1 &&& (255 : Int32))), .val (.int 3), .val (.ref (w 0)), .unset] [(.int 0)]))
      refine oS (fun t k => XS.istore X15.here hx rfl (hb hby at_36) rfl (l' := #[.val (.int p1), .val (.int p2), .val (.int (p1 &&& (255 : Int32))), .val (.int 3), .val (.ref (w 0)), .val (.int 0)]) rfl k) ?_
      refine oS (fun t k => XS.aload X15.here hx rfl (hb hby at_38) rfl rfl k) ?_
      refine oS (fun t k => XS.iloadN X15.here hx rfl (hb hby at_40) rfl k) ?_
      show oG _ _ _ _ _ _ _ (T15.setTop (mkF m 41 #[.val (.int p1), .val (.int p2), .val (.int (p1 &&& (255 : Int32))), .val (.int 3), .val (.ref (w 0)), .val (.int 0)] [(.int (p1 &&& (255 : Int32))), (.ref (w 0))]))
      obtain ⟨cq16, kq16, q16a, q16b, q16c⟩ := isOf hZ e15 ((wE0 W).ext O0.2)
      obtain ⟨_, _, ⟨T16, L16, k16, n16⟩, -, X16, ⟨Lc16, hQ16, l16, y16, z16⟩, st16⟩ := X15.virtualBack hx (y := mY4) (z := mY4) hown (mvT hZ (oW hw 11 rfl)) (mvT hZ (oW hw 12 rfl)) (notFace_of_selects (args := #[]) (mvT hZ (oW hw 14 rfl))) (mvT hZ (oW hw 14 rfl)) (mvT hZ (oW hw 13 rfl)) (by decide) (backOf (W := 0) (rm_con_CNTRL l Z a0 hw [] (p1 &&& (255 : Int32)) w h0 n0 O0 W (own_b p1).1 (own_b p1).2) hZ (oW hw 15 rfl) (oW hw 6 rfl) (by decide) (by decide)) q16a q16c (g := (mkF m 41 #[.val (.int p1), .val (.int p2), .val (.int (p1 &&& (255 : Int32))), .val (.int 3), .val (.ref (w 0)), .val (.int 0)] [(.int (p1 &&& (255 : Int32))), (.ref (w 0))])) rfl (by rw [hml]; rfl) (Steps.refl _) (argsL := [(.int (p1 &&& (255 : Int32)))]) (rest := []) (lenOf pd_3 rfl) rfl (by show 2 * 0 + _ ≤ _; exact Nat.le_of_eq rfl) (hb hby at_41) (fun _ _ => ⟨rfl, e15, (by decide : 0 + 0 ≤ _), (by decide : 0 + 0 ≤ _)⟩)
      dsimp only [Pt.U, Pt.locs, Pt.cells, Pt.slots] at X16 l16 y16 z16 st16 hQ16
      subst l16 y16 z16
      obtain ⟨rfl, Nq16, e16⟩ := hQ16
      have N16 := Fr.app N15 Nq16
      refine oS (fun t k => st16.trans k) ?_
      show oG _ _ _ _ _ _ _ (T16.setTop (mkF m 44 #[.val (.int p1), .val (.int p2), .val (.int (p1 &&& (255 : Int32))), .val (.int 3), .val (.ref (w 0)), .val (.int 0)] [(.int (own_in (3 : Int32) (p1 &&& (255 : Int32))))]))
      try clear st16 X15 e15
      refine oS (fun t k => XS.iload X16.here hx rfl (hb hby at_44) rfl k) ?_
      refine oS (fun t k => XS.icmpNo X16.here hx rfl (hb hby at_46) rfl (teq (if_pos hc28)).2 k) ?_
      refine oS (fun t k => oIc li_1 X16.here hx rfl (hb hby at_49) k) ?_
      show oG _ _ _ _ _ _ _ (T16.setTop (mkF m 50 #[.val (.int p1), .val (.int p2), .val (.int (p1 &&& (255 : Int32))), .val (.int 3), .val (.ref (w 0)), .val (.int 0)] [(.int 1)]))
      refine oS (fun t k => XS.goto X16.here hx rfl (pc0 := 50) (pc' := 54) rfl (hb hby at_50) (by decide) (by decide) k) ?_
      exact own_ret (v := some (.int 1)) X16 (fun h => by rw [Bd.returns] at h; cases h) Bd.notSynchronized (fun fs hr => retN X16 hx (t := .boolean) Bd.returns (by simp) (hb hby at_54) hr) (by rw [e16]; exact ⟨rfl, N16⟩) (by decide) (by decide)
    · refine oS (fun t k => XS.ifNo X15.here hx rfl (hb hby at_28) rfl ((if0 _ _).trans (feq hc28).1) k) ?_
      refine oS (fun t k => oIc li_1 X15.here hx rfl (hb hby at_31) k) ?_
      show oG _ _ _ _ _ _ _ (T15.setTop (mkF m 32 #[.val (.int p1), .val (.int p2), .val (.int (p1 &&& (255 : Int32))), .val (.int 3), .val (.ref (w 0)), .unset] [(.int 1)]))
      refine oS (fun t k => XS.goto X15.here hx rfl (pc0 := 32) (pc' := 36) rfl (hb hby at_32) (by decide) (by decide) k) ?_
      refine oS (fun t k => XS.istore X15.here hx rfl (hb hby at_36) rfl (l' := #[.val (.int p1), .val (.int p2), .val (.int (p1 &&& (255 : Int32))), .val (.int 3), .val (.ref (w 0)), .val (.int 1)]) rfl k) ?_
      refine oS (fun t k => XS.aload X15.here hx rfl (hb hby at_38) rfl rfl k) ?_
      show oG _ _ _ _ _ _ _ (T15.setTop (mkF m 40 #[.val (.int p1), .val (.int p2), .val (.int (p1 &&& (255 : Int32))), .val (.int 3), .val (.ref (w 0)), .val (.int 1)] [(.ref (w 0))]))
      refine oS (fun t k => XS.iloadN X15.here hx rfl (hb hby at_40) rfl k) ?_
      obtain ⟨cq17, kq17, q17a, q17b, q17c⟩ := isOf hZ e15 ((wE0 W).ext O0.2)
      obtain ⟨_, _, ⟨T17, L17, k17, n17⟩, -, X17, ⟨Lc17, hQ17, l17, y17, z17⟩, st17⟩ := X15.virtualBack hx (y := mY4) (z := mY4) hown (mvT hZ (oW hw 11 rfl)) (mvT hZ (oW hw 12 rfl)) (notFace_of_selects (args := #[]) (mvT hZ (oW hw 14 rfl))) (mvT hZ (oW hw 14 rfl)) (mvT hZ (oW hw 13 rfl)) (by decide) (backOf (W := 0) (rm_con_CNTRL l Z a0 hw [] (p1 &&& (255 : Int32)) w h0 n0 O0 W (own_b p1).1 (own_b p1).2) hZ (oW hw 15 rfl) (oW hw 6 rfl) (by decide) (by decide)) q17a q17c (g := (mkF m 41 #[.val (.int p1), .val (.int p2), .val (.int (p1 &&& (255 : Int32))), .val (.int 3), .val (.ref (w 0)), .val (.int 1)] [(.int (p1 &&& (255 : Int32))), (.ref (w 0))])) rfl (by rw [hml]; rfl) (Steps.refl _) (argsL := [(.int (p1 &&& (255 : Int32)))]) (rest := []) (lenOf pd_3 rfl) rfl (by show 2 * 0 + _ ≤ _; exact Nat.le_of_eq rfl) (hb hby at_41) (fun _ _ => ⟨rfl, e15, (by decide : 0 + 0 ≤ _), (by decide : 0 + 0 ≤ _)⟩)
      dsimp only [Pt.U, Pt.locs, Pt.cells, Pt.slots] at X17 l17 y17 z17 st17 hQ17
      subst l17 y17 z17
      obtain ⟨rfl, Nq17, e17⟩ := hQ17
      have N17 := Fr.app N15 Nq17
      refine oS (fun t k => st17.trans k) ?_
      show oG _ _ _ _ _ _ _ (T17.setTop (mkF m 44 #[.val (.int p1), .val (.int p2), .val (.int (p1 &&& (255 : Int32))), .val (.int 3), .val (.ref (w 0)), .val (.int 1)] [(.int (own_in (3 : Int32) (p1 &&& (255 : Int32))))]))
      try clear st17 X15 e15
      refine oS (fun t k => XS.iload X17.here hx rfl (hb hby at_44) rfl k) ?_
      refine oS (fun t k => XS.icmpNo X17.here hx rfl (hb hby at_46) rfl (teq (if_neg hc28)).2 k) ?_
      refine oS (fun t k => oIc li_1 X17.here hx rfl (hb hby at_49) k) ?_
      show oG _ _ _ _ _ _ _ (T17.setTop (mkF m 50 #[.val (.int p1), .val (.int p2), .val (.int (p1 &&& (255 : Int32))), .val (.int 3), .val (.ref (w 0)), .val (.int 1)] [(.int 1)]))
      refine oS (fun t k => XS.goto X17.here hx rfl (pc0 := 50) (pc' := 54) rfl (hb hby at_50) (by decide) (by decide) k) ?_
      exact own_ret (v := some (.int 1)) X17 (fun h => by rw [Bd.returns] at h; cases h) Bd.notSynchronized (fun fs hr => retN X17 hx (t := .boolean) Bd.returns (by simp) (hb hby at_54) hr) (by rw [e17]; exact ⟨rfl, N17⟩) (by decide) (by decide)
  · rw [hs1]
    show oG _ _ _ _ _ _ _ (s₁.setTop (mkF m 15 #[.val (.int p1), .val (.int p2), .val (.int (p1 &&& (255 : Int32))), .val (.int 4), .unset, .unset] [(.int 4)]))
    obtain ⟨_, _, ⟨T18, L18, k18, n18⟩, -, X18, ⟨Lc18, hQ18, l18, y18, z18⟩, st18⟩ := Jvm.LawKit.callS X0 hx (y := mY1) hown (mvT hZ (oW hw 1 rfl)) (mvT hZ (oW hw 2 rfl)) (mvT hZ (oW hw 3 rfl)) (mvT hZ (oW hw 4 rfl)) (by decide) (backOf (W := 0) (rm_pick l Z a0 hw [] (4 : Int32) w h0 n0 O0 W ) hZ (oW hw 4 rfl) (oW hw 3 rfl) (by decide) (by decide)) (g := (mkF m 15 #[.val (.int p1), .val (.int p2), .val (.int (p1 &&& (255 : Int32))), .val (.int 4), .unset, .unset] [(.int 4)])) rfl (by rw [hml]; rfl) (argsL := [(.int 4)]) (rest := []) (lenOf pd_1 rfl) rfl (by show 2 * 0 + _ ≤ _; exact Nat.le_of_eq rfl) (hb hby at_15) (fun _ _ => ⟨rfl, e0, (by decide : 0 + 0 ≤ _), (by decide : 0 + 0 ≤ _)⟩)
    dsimp only [Pt.U, Pt.locs, Pt.cells, Pt.slots] at X18 l18 y18 z18 st18 hQ18
    subst l18 y18 z18
    obtain ⟨rfl, Nq18, e18⟩ := hQ18
    have N18 := Fr.app N0 Nq18
    refine oS (fun t k => st18 t k) ?_
    show oG _ _ _ _ _ _ _ (T18.setTop (mkF m 18 #[.val (.int p1), .val (.int p2), .val (.int (p1 &&& (255 : Int32))), .val (.int 4), .unset, .unset] [(.ref (w 5))]))
    try clear st18
    refine oS (fun t k => XS.astore X18.here hx rfl (hb hby at_18) rfl rfl (l' := #[.val (.int p1), .val (.int p2), .val (.int (p1 &&& (255 : Int32))), .val (.int 4), .val (.ref (w 5)), .unset]) rfl k) ?_
    refine oS (fun t k => XS.iloadN X18.here hx rfl (hb hby at_20) rfl k) ?_
    obtain ⟨_, _, ⟨T19, L19, k19, n19⟩, -, X19, ⟨Lc19, hQ19, l19, y19, z19⟩, st19⟩ := Jvm.LawKit.callS X18 hx (y := mY0) hown (mvT hZ (oW hw 8 rfl)) (mvT hZ (oW hw 9 rfl)) (mvT hZ (oW hw 3 rfl)) (mvT hZ (oW hw 10 rfl)) (by decide) (backOf (W := 0) (rm_members l Z a0 hw [] (p1 &&& (255 : Int32))  h0 n0 O0  (own_b p1).1 (own_b p1).2) hZ (oW hw 10 rfl) (oW hw 3 rfl) (by decide) (by decide)) (g := (mkF m 21 #[.val (.int p1), .val (.int p2), .val (.int (p1 &&& (255 : Int32))), .val (.int 4), .val (.ref (w 5)), .unset] [(.int (p1 &&& (255 : Int32)))])) rfl (by rw [hml]; rfl) (argsL := [(.int (p1 &&& (255 : Int32)))]) (rest := []) (lenOf pd_2 rfl) rfl (by show 2 * 0 + _ ≤ _; exact Nat.le_of_eq rfl) (hb hby at_21) (fun _ _ => ⟨rfl, e18, (by decide : 0 + 0 ≤ _), (by decide : 0 + 0 ≤ _)⟩)
    dsimp only [Pt.U, Pt.locs, Pt.cells, Pt.slots] at X19 l19 y19 z19 st19 hQ19
    subst l19 y19 z19
    obtain ⟨rfl, Nq19, e19⟩ := hQ19
    have N19 := Fr.app N18 Nq19
    refine oS (fun t k => st19 t k) ?_
    show oG _ _ _ _ _ _ _ (T19.setTop (mkF m 24 #[.val (.int p1), .val (.int p2), .val (.int (p1 &&& (255 : Int32))), .val (.int 4), .val (.ref (w 5)), .unset] [(.int (own_mem (p1 &&& (255 : Int32))))]))
    try clear st19 X18 e18
    refine oS (fun t k => XS.iloadN X19.here hx rfl (hb hby at_24) rfl k) ?_
    refine oS (fun t k => XS.ishr X19.here hx rfl (hb hby at_25) rfl k) ?_
    refine oS (fun t k => oIc li_1 X19.here hx rfl (hb hby at_26) k) ?_
    show oG _ _ _ _ _ _ _ (T19.setTop (mkF m 27 #[.val (.int p1), .val (.int p2), .val (.int (p1 &&& (255 : Int32))), .val (.int 4), .val (.ref (w 5)), .unset] [(.int 1), (.int ((own_mem (p1 &&& (255 : Int32))) >>> ((4 : Int32) &&& 31)))]))
    refine oS (fun t k => XS.iand X19.here hx rfl (hb hby at_27) rfl k) ?_
    by_cases hc28 : (((own_mem (p1 &&& (255 : Int32))) >>> ((4 : Int32) &&& 31)) &&& (1 : Int32)) = (0 : Int32)
    · refine oS (fun t k => XS.ifYes X19.here hx rfl (pc0 := 28) (pc' := 35) rfl (hb hby at_28) rfl ((if0 _ _).trans (teq hc28).1) (by decide) (by decide) k) ?_
      refine oS (fun t k => oIc li_0 X19.here hx rfl (hb hby at_35) k) ?_
      show oG _ _ _ _ _ _ _ (T19.setTop (mkF m 36 #[.val (.int p1), .val (.int p2), .val (.int (p1 &&& (255 : Int32))), .val (.int 4), .val (.ref (w 5)), .unset] [(.int 0)]))
      refine oS (fun t k => XS.istore X19.here hx rfl (hb hby at_36) rfl (l' := #[.val (.int p1), .val (.int p2), .val (.int (p1 &&& (255 : Int32))), .val (.int 4), .val (.ref (w 5)), .val (.int 0)]) rfl k) ?_
      refine oS (fun t k => XS.aload X19.here hx rfl (hb hby at_38) rfl rfl k) ?_
      refine oS (fun t k => XS.iloadN X19.here hx rfl (hb hby at_40) rfl k) ?_
      show oG _ _ _ _ _ _ _ (T19.setTop (mkF m 41 #[.val (.int p1), .val (.int p2), .val (.int (p1 &&& (255 : Int32))), .val (.int 4), .val (.ref (w 5)), .val (.int 0)] [(.int (p1 &&& (255 : Int32))), (.ref (w 5))]))
      obtain ⟨cq20, kq20, q20a, q20b, q20c⟩ := isOf hZ e19 ((wE5 W).ext O0.2)
      obtain ⟨_, _, ⟨T20, L20, k20, n20⟩, -, X20, ⟨Lc20, hQ20, l20, y20, z20⟩, st20⟩ := X19.virtualBack hx (y := mY4) (z := mY4) hown (mvT hZ (oW hw 11 rfl)) (mvT hZ (oW hw 12 rfl)) (notFace_of_selects (args := #[]) (mvT hZ (oW hw 14 rfl))) (mvT hZ (oW hw 14 rfl)) (mvT hZ (oW hw 13 rfl)) (by decide) (backOf (W := 0) (rm_con_DIGIT l Z a0 hw [] (p1 &&& (255 : Int32)) w h0 n0 O0 W (own_b p1).1 (own_b p1).2) hZ (oW hw 15 rfl) (oW hw 6 rfl) (by decide) (by decide)) q20a q20c (g := (mkF m 41 #[.val (.int p1), .val (.int p2), .val (.int (p1 &&& (255 : Int32))), .val (.int 4), .val (.ref (w 5)), .val (.int 0)] [(.int (p1 &&& (255 : Int32))), (.ref (w 5))])) rfl (by rw [hml]; rfl) (Steps.refl _) (argsL := [(.int (p1 &&& (255 : Int32)))]) (rest := []) (lenOf pd_3 rfl) rfl (by show 2 * 0 + _ ≤ _; exact Nat.le_of_eq rfl) (hb hby at_41) (fun _ _ => ⟨rfl, e19, (by decide : 0 + 0 ≤ _), (by decide : 0 + 0 ≤ _)⟩)
      dsimp only [Pt.U, Pt.locs, Pt.cells, Pt.slots] at X20 l20 y20 z20 st20 hQ20
      subst l20 y20 z20
      obtain ⟨rfl, Nq20, e20⟩ := hQ20
      have N20 := Fr.app N19 Nq20
      refine oS (fun t k => st20.trans k) ?_
      show oG _ _ _ _ _ _ _ (T20.setTop (mkF m 44 #[.val (.int p1), .val (.int p2), .val (.int (p1 &&& (255 : Int32))), .val (.int 4), .val (.ref (w 5)), .val (.int 0)] [(.int (own_in (4 : Int32) (p1 &&& (255 : Int32))))]))
      try clear st20 X19 e19
      refine oS (fun t k => XS.iload X20.here hx rfl (hb hby at_44) rfl k) ?_
      refine oS (fun t k => XS.icmpNo X20.here hx rfl (hb hby at_46) rfl (teq (if_pos hc28)).2 k) ?_
      refine oS (fun t k => oIc li_1 X20.here hx rfl (hb hby at_49) k) ?_
      show oG _ _ _ _ _ _ _ (T20.setTop (mkF m 50 #[.val (.int p1), .val (.int p2), .val (.int (p1 &&& (255 : Int32))), .val (.int 4), .val (.ref (w 5)), .val (.int 0)] [(.int 1)]))
      refine oS (fun t k => XS.goto X20.here hx rfl (pc0 := 50) (pc' := 54) rfl (hb hby at_50) (by decide) (by decide) k) ?_
      exact own_ret (v := some (.int 1)) X20 (fun h => by rw [Bd.returns] at h; cases h) Bd.notSynchronized (fun fs hr => retN X20 hx (t := .boolean) Bd.returns (by simp) (hb hby at_54) hr) (by rw [e20]; exact ⟨rfl, N20⟩) (by decide) (by decide)
    · refine oS (fun t k => XS.ifNo X19.here hx rfl (hb hby at_28) rfl ((if0 _ _).trans (feq hc28).1) k) ?_
      refine oS (fun t k => oIc li_1 X19.here hx rfl (hb hby at_31) k) ?_
      show oG _ _ _ _ _ _ _ (T19.setTop (mkF m 32 #[.val (.int p1), .val (.int p2), .val (.int (p1 &&& (255 : Int32))), .val (.int 4), .val (.ref (w 5)), .unset] [(.int 1)]))
      refine oS (fun t k => XS.goto X19.here hx rfl (pc0 := 32) (pc' := 36) rfl (hb hby at_32) (by decide) (by decide) k) ?_
      refine oS (fun t k => XS.istore X19.here hx rfl (hb hby at_36) rfl (l' := #[.val (.int p1), .val (.int p2), .val (.int (p1 &&& (255 : Int32))), .val (.int 4), .val (.ref (w 5)), .val (.int 1)]) rfl k) ?_
      refine oS (fun t k => XS.aload X19.here hx rfl (hb hby at_38) rfl rfl k) ?_
      show oG _ _ _ _ _ _ _ (T19.setTop (mkF m 40 #[.val (.int p1), .val (.int p2), .val (.int (p1 &&& (255 : Int32))), .val (.int 4), .val (.ref (w 5)), .val (.int 1)] [(.ref (w 5))]))
      refine oS (fun t k => XS.iloadN X19.here hx rfl (hb hby at_40) rfl k) ?_
      obtain ⟨cq21, kq21, q21a, q21b, q21c⟩ := isOf hZ e19 ((wE5 W).ext O0.2)
      obtain ⟨_, _, ⟨T21, L21, k21, n21⟩, -, X21, ⟨Lc21, hQ21, l21, y21, z21⟩, st21⟩ := X19.virtualBack hx (y := mY4) (z := mY4) hown (mvT hZ (oW hw 11 rfl)) (mvT hZ (oW hw 12 rfl)) (notFace_of_selects (args := #[]) (mvT hZ (oW hw 14 rfl))) (mvT hZ (oW hw 14 rfl)) (mvT hZ (oW hw 13 rfl)) (by decide) (backOf (W := 0) (rm_con_DIGIT l Z a0 hw [] (p1 &&& (255 : Int32)) w h0 n0 O0 W (own_b p1).1 (own_b p1).2) hZ (oW hw 15 rfl) (oW hw 6 rfl) (by decide) (by decide)) q21a q21c (g := (mkF m 41 #[.val (.int p1), .val (.int p2), .val (.int (p1 &&& (255 : Int32))), .val (.int 4), .val (.ref (w 5)), .val (.int 1)] [(.int (p1 &&& (255 : Int32))), (.ref (w 5))])) rfl (by rw [hml]; rfl) (Steps.refl _) (argsL := [(.int (p1 &&& (255 : Int32)))]) (rest := []) (lenOf pd_3 rfl) rfl (by show 2 * 0 + _ ≤ _; exact Nat.le_of_eq rfl) (hb hby at_41) (fun _ _ => ⟨rfl, e19, (by decide : 0 + 0 ≤ _), (by decide : 0 + 0 ≤ _)⟩)
      dsimp only [Pt.U, Pt.locs, Pt.cells, Pt.slots] at X21 l21 y21 z21 st21 hQ21
      subst l21 y21 z21
      obtain ⟨rfl, Nq21, e21⟩ := hQ21
      have N21 := Fr.app N19 Nq21
      refine oS (fun t k => st21.trans k) ?_
      show oG _ _ _ _ _ _ _ (T21.setTop (mkF m 44 #[.val (.int p1), .val (.int p2), .val (.int (p1 &&& (255 : Int32))), .val (.int 4), .val (.ref (w 5)), .val (.int 1)] [(.int (own_in (4 : Int32) (p1 &&& (255 : Int32))))]))
      try clear st21 X19 e19
      refine oS (fun t k => XS.iload X21.here hx rfl (hb hby at_44) rfl k) ?_
      refine oS (fun t k => XS.icmpNo X21.here hx rfl (hb hby at_46) rfl (teq (if_neg hc28)).2 k) ?_
      refine oS (fun t k => oIc li_1 X21.here hx rfl (hb hby at_49) k) ?_
      show oG _ _ _ _ _ _ _ (T21.setTop (mkF m 50 #[.val (.int p1), .val (.int p2), .val (.int (p1 &&& (255 : Int32))), .val (.int 4), .val (.ref (w 5)), .val (.int 1)] [(.int 1)]))
      refine oS (fun t k => XS.goto X21.here hx rfl (pc0 := 50) (pc' := 54) rfl (hb hby at_50) (by decide) (by decide) k) ?_
      exact own_ret (v := some (.int 1)) X21 (fun h => by rw [Bd.returns] at h; cases h) Bd.notSynchronized (fun fs hr => retN X21 hx (t := .boolean) Bd.returns (by simp) (hb hby at_54) hr) (by rw [e21]; exact ⟨rfl, N21⟩) (by decide) (by decide)
  · rw [hs1]
    show oG _ _ _ _ _ _ _ (s₁.setTop (mkF m 15 #[.val (.int p1), .val (.int p2), .val (.int (p1 &&& (255 : Int32))), .val (.int 5), .unset, .unset] [(.int 5)]))
    obtain ⟨_, _, ⟨T22, L22, k22, n22⟩, -, X22, ⟨Lc22, hQ22, l22, y22, z22⟩, st22⟩ := Jvm.LawKit.callS X0 hx (y := mY1) hown (mvT hZ (oW hw 1 rfl)) (mvT hZ (oW hw 2 rfl)) (mvT hZ (oW hw 3 rfl)) (mvT hZ (oW hw 4 rfl)) (by decide) (backOf (W := 0) (rm_pick l Z a0 hw [] (5 : Int32) w h0 n0 O0 W ) hZ (oW hw 4 rfl) (oW hw 3 rfl) (by decide) (by decide)) (g := (mkF m 15 #[.val (.int p1), .val (.int p2), .val (.int (p1 &&& (255 : Int32))), .val (.int 5), .unset, .unset] [(.int 5)])) rfl (by rw [hml]; rfl) (argsL := [(.int 5)]) (rest := []) (lenOf pd_1 rfl) rfl (by show 2 * 0 + _ ≤ _; exact Nat.le_of_eq rfl) (hb hby at_15) (fun _ _ => ⟨rfl, e0, (by decide : 0 + 0 ≤ _), (by decide : 0 + 0 ≤ _)⟩)
    dsimp only [Pt.U, Pt.locs, Pt.cells, Pt.slots] at X22 l22 y22 z22 st22 hQ22
    subst l22 y22 z22
    obtain ⟨rfl, Nq22, e22⟩ := hQ22
    have N22 := Fr.app N0 Nq22
    refine oS (fun t k => st22 t k) ?_
    show oG _ _ _ _ _ _ _ (T22.setTop (mkF m 18 #[.val (.int p1), .val (.int p2), .val (.int (p1 &&& (255 : Int32))), .val (.int 5), .unset, .unset] [(.ref (w 7))]))
    try clear st22
    refine oS (fun t k => XS.astore X22.here hx rfl (hb hby at_18) rfl rfl (l' := #[.val (.int p1), .val (.int p2), .val (.int (p1 &&& (255 : Int32))), .val (.int 5), .val (.ref (w 7)), .unset]) rfl k) ?_
    refine oS (fun t k => XS.iloadN X22.here hx rfl (hb hby at_20) rfl k) ?_
    obtain ⟨_, _, ⟨T23, L23, k23, n23⟩, -, X23, ⟨Lc23, hQ23, l23, y23, z23⟩, st23⟩ := Jvm.LawKit.callS X22 hx (y := mY0) hown (mvT hZ (oW hw 8 rfl)) (mvT hZ (oW hw 9 rfl)) (mvT hZ (oW hw 3 rfl)) (mvT hZ (oW hw 10 rfl)) (by decide) (backOf (W := 0) (rm_members l Z a0 hw [] (p1 &&& (255 : Int32))  h0 n0 O0  (own_b p1).1 (own_b p1).2) hZ (oW hw 10 rfl) (oW hw 3 rfl) (by decide) (by decide)) (g := (mkF m 21 #[.val (.int p1), .val (.int p2), .val (.int (p1 &&& (255 : Int32))), .val (.int 5), .val (.ref (w 7)), .unset] [(.int (p1 &&& (255 : Int32)))])) rfl (by rw [hml]; rfl) (argsL := [(.int (p1 &&& (255 : Int32)))]) (rest := []) (lenOf pd_2 rfl) rfl (by show 2 * 0 + _ ≤ _; exact Nat.le_of_eq rfl) (hb hby at_21) (fun _ _ => ⟨rfl, e22, (by decide : 0 + 0 ≤ _), (by decide : 0 + 0 ≤ _)⟩)
    dsimp only [Pt.U, Pt.locs, Pt.cells, Pt.slots] at X23 l23 y23 z23 st23 hQ23
    subst l23 y23 z23
    obtain ⟨rfl, Nq23, e23⟩ := hQ23
    have N23 := Fr.app N22 Nq23
    refine oS (fun t k => st23 t k) ?_
    show oG _ _ _ _ _ _ _ (T23.setTop (mkF m 24 #[.val (.int p1), .val (.int p2), .val (.int (p1 &&& (255 : Int32))), .val (.int 5), .val (.ref (w 7)), .unset] [(.int (own_mem (p1 &&& (255 : Int32))))]))
    try clear st23 X22 e22
    refine oS (fun t k => XS.iloadN X23.here hx rfl (hb hby at_24) rfl k) ?_
    refine oS (fun t k => XS.ishr X23.here hx rfl (hb hby at_25) rfl k) ?_
    refine oS (fun t k => oIc li_1 X23.here hx rfl (hb hby at_26) k) ?_
    show oG _ _ _ _ _ _ _ (T23.setTop (mkF m 27 #[.val (.int p1), .val (.int p2), .val (.int (p1 &&& (255 : Int32))), .val (.int 5), .val (.ref (w 7)), .unset] [(.int 1), (.int ((own_mem (p1 &&& (255 : Int32))) >>> ((5 : Int32) &&& 31)))]))
    refine oS (fun t k => XS.iand X23.here hx rfl (hb hby at_27) rfl k) ?_
    by_cases hc28 : (((own_mem (p1 &&& (255 : Int32))) >>> ((5 : Int32) &&& 31)) &&& (1 : Int32)) = (0 : Int32)
    · refine oS (fun t k => XS.ifYes X23.here hx rfl (pc0 := 28) (pc' := 35) rfl (hb hby at_28) rfl ((if0 _ _).trans (teq hc28).1) (by decide) (by decide) k) ?_
      refine oS (fun t k => oIc li_0 X23.here hx rfl (hb hby at_35) k) ?_
      show oG _ _ _ _ _ _ _ (T23.setTop (mkF m 36 #[.val (.int p1), .val (.int p2), .val (.int (p1 &&& (255 : Int32))), .val (.int 5), .val (.ref (w 7)), .unset] [(.int 0)]))
      refine oS (fun t k => XS.istore X23.here hx rfl (hb hby at_36) rfl (l' := #[.val (.int p1), .val (.int p2), .val (.int (p1 &&& (255 : Int32))), .val (.int 5), .val (.ref (w 7)), .val (.int 0)]) rfl k) ?_
      refine oS (fun t k => XS.aload X23.here hx rfl (hb hby at_38) rfl rfl k) ?_
      refine oS (fun t k => XS.iloadN X23.here hx rfl (hb hby at_40) rfl k) ?_
      show oG _ _ _ _ _ _ _ (T23.setTop (mkF m 41 #[.val (.int p1), .val (.int p2), .val (.int (p1 &&& (255 : Int32))), .val (.int 5), .val (.ref (w 7)), .val (.int 0)] [(.int (p1 &&& (255 : Int32))), (.ref (w 7))]))
      obtain ⟨cq24, kq24, q24a, q24b, q24c⟩ := isOf hZ e23 ((wE7 W).ext O0.2)
      obtain ⟨_, _, ⟨T24, L24, k24, n24⟩, -, X24, ⟨Lc24, hQ24, l24, y24, z24⟩, st24⟩ := X23.virtualBack hx (y := mY4) (z := mY4) hown (mvT hZ (oW hw 11 rfl)) (mvT hZ (oW hw 12 rfl)) (notFace_of_selects (args := #[]) (mvT hZ (oW hw 14 rfl))) (mvT hZ (oW hw 14 rfl)) (mvT hZ (oW hw 13 rfl)) (by decide) (backOf (W := 0) (rm_con_GRAPH l Z a0 hw [] (p1 &&& (255 : Int32)) w h0 n0 O0 W (own_b p1).1 (own_b p1).2) hZ (oW hw 15 rfl) (oW hw 6 rfl) (by decide) (by decide)) q24a q24c (g := (mkF m 41 #[.val (.int p1), .val (.int p2), .val (.int (p1 &&& (255 : Int32))), .val (.int 5), .val (.ref (w 7)), .val (.int 0)] [(.int (p1 &&& (255 : Int32))), (.ref (w 7))])) rfl (by rw [hml]; rfl) (Steps.refl _) (argsL := [(.int (p1 &&& (255 : Int32)))]) (rest := []) (lenOf pd_3 rfl) rfl (by show 2 * 0 + _ ≤ _; exact Nat.le_of_eq rfl) (hb hby at_41) (fun _ _ => ⟨rfl, e23, (by decide : 0 + 0 ≤ _), (by decide : 0 + 0 ≤ _)⟩)
      dsimp only [Pt.U, Pt.locs, Pt.cells, Pt.slots] at X24 l24 y24 z24 st24 hQ24
      subst l24 y24 z24
      obtain ⟨rfl, Nq24, e24⟩ := hQ24
      have N24 := Fr.app N23 Nq24
      refine oS (fun t k => st24.trans k) ?_
      show oG _ _ _ _ _ _ _ (T24.setTop (mkF m 44 #[.val (.int p1), .val (.int p2), .val (.int (p1 &&& (255 : Int32))), .val (.int 5), .val (.ref (w 7)), .val (.int 0)] [(.int (own_in (5 : Int32) (p1 &&& (255 : Int32))))]))
      try clear st24 X23 e23
      refine oS (fun t k => XS.iload X24.here hx rfl (hb hby at_44) rfl k) ?_
      refine oS (fun t k => XS.icmpNo X24.here hx rfl (hb hby at_46) rfl (teq (if_pos hc28)).2 k) ?_
      refine oS (fun t k => oIc li_1 X24.here hx rfl (hb hby at_49) k) ?_
      show oG _ _ _ _ _ _ _ (T24.setTop (mkF m 50 #[.val (.int p1), .val (.int p2), .val (.int (p1 &&& (255 : Int32))), .val (.int 5), .val (.ref (w 7)), .val (.int 0)] [(.int 1)]))
      refine oS (fun t k => XS.goto X24.here hx rfl (pc0 := 50) (pc' := 54) rfl (hb hby at_50) (by decide) (by decide) k) ?_
      exact own_ret (v := some (.int 1)) X24 (fun h => by rw [Bd.returns] at h; cases h) Bd.notSynchronized (fun fs hr => retN X24 hx (t := .boolean) Bd.returns (by simp) (hb hby at_54) hr) (by rw [e24]; exact ⟨rfl, N24⟩) (by decide) (by decide)
    · refine oS (fun t k => XS.ifNo X23.here hx rfl (hb hby at_28) rfl ((if0 _ _).trans (feq hc28).1) k) ?_
      refine oS (fun t k => oIc li_1 X23.here hx rfl (hb hby at_31) k) ?_
      show oG _ _ _ _ _ _ _ (T23.setTop (mkF m 32 #[.val (.int p1), .val (.int p2), .val (.int (p1 &&& (255 : Int32))), .val (.int 5), .val (.ref (w 7)), .unset] [(.int 1)]))
      refine oS (fun t k => XS.goto X23.here hx rfl (pc0 := 32) (pc' := 36) rfl (hb hby at_32) (by decide) (by decide) k) ?_
      refine oS (fun t k => XS.istore X23.here hx rfl (hb hby at_36) rfl (l' := #[.val (.int p1), .val (.int p2), .val (.int (p1 &&& (255 : Int32))), .val (.int 5), .val (.ref (w 7)), .val (.int 1)]) rfl k) ?_
      refine oS (fun t k => XS.aload X23.here hx rfl (hb hby at_38) rfl rfl k) ?_
      show oG _ _ _ _ _ _ _ (T23.setTop (mkF m 40 #[.val (.int p1), .val (.int p2), .val (.int (p1 &&& (255 : Int32))), .val (.int 5), .val (.ref (w 7)), .val (.int 1)] [(.ref (w 7))]))
      refine oS (fun t k => XS.iloadN X23.here hx rfl (hb hby at_40) rfl k) ?_
      obtain ⟨cq25, kq25, q25a, q25b, q25c⟩ := isOf hZ e23 ((wE7 W).ext O0.2)
      obtain ⟨_, _, ⟨T25, L25, k25, n25⟩, -, X25, ⟨Lc25, hQ25, l25, y25, z25⟩, st25⟩ := X23.virtualBack hx (y := mY4) (z := mY4) hown (mvT hZ (oW hw 11 rfl)) (mvT hZ (oW hw 12 rfl)) (notFace_of_selects (args := #[]) (mvT hZ (oW hw 14 rfl))) (mvT hZ (oW hw 14 rfl)) (mvT hZ (oW hw 13 rfl)) (by decide) (backOf (W := 0) (rm_con_GRAPH l Z a0 hw [] (p1 &&& (255 : Int32)) w h0 n0 O0 W (own_b p1).1 (own_b p1).2) hZ (oW hw 15 rfl) (oW hw 6 rfl) (by decide) (by decide)) q25a q25c (g := (mkF m 41 #[.val (.int p1), .val (.int p2), .val (.int (p1 &&& (255 : Int32))), .val (.int 5), .val (.ref (w 7)), .val (.int 1)] [(.int (p1 &&& (255 : Int32))), (.ref (w 7))])) rfl (by rw [hml]; rfl) (Steps.refl _) (argsL := [(.int (p1 &&& (255 : Int32)))]) (rest := []) (lenOf pd_3 rfl) rfl (by show 2 * 0 + _ ≤ _; exact Nat.le_of_eq rfl) (hb hby at_41) (fun _ _ => ⟨rfl, e23, (by decide : 0 + 0 ≤ _), (by decide : 0 + 0 ≤ _)⟩)
      dsimp only [Pt.U, Pt.locs, Pt.cells, Pt.slots] at X25 l25 y25 z25 st25 hQ25
      subst l25 y25 z25
      obtain ⟨rfl, Nq25, e25⟩ := hQ25
      have N25 := Fr.app N23 Nq25
      refine oS (fun t k => st25.trans k) ?_
      show oG _ _ _ _ _ _ _ (T25.setTop (mkF m 44 #[.val (.int p1), .val (.int p2), .val (.int (p1 &&& (255 : Int32))), .val (.int 5), .val (.ref (w 7)), .val (.int 1)] [(.int (own_in (5 : Int32) (p1 &&& (255 : Int32))))]))
      try clear st25 X23 e23
      refine oS (fun t k => XS.iload X25.here hx rfl (hb hby at_44) rfl k) ?_
      refine oS (fun t k => XS.icmpNo X25.here hx rfl (hb hby at_46) rfl (teq (if_neg hc28)).2 k) ?_
      refine oS (fun t k => oIc li_1 X25.here hx rfl (hb hby at_49) k) ?_
      show oG _ _ _ _ _ _ _ (T25.setTop (mkF m 50 #[.val (.int p1), .val (.int p2), .val (.int (p1 &&& (255 : Int32))), .val (.int 5), .val (.ref (w 7)), .val (.int 1)] [(.int 1)]))
      refine oS (fun t k => XS.goto X25.here hx rfl (pc0 := 50) (pc' := 54) rfl (hb hby at_50) (by decide) (by decide) k) ?_
      exact own_ret (v := some (.int 1)) X25 (fun h => by rw [Bd.returns] at h; cases h) Bd.notSynchronized (fun fs hr => retN X25 hx (t := .boolean) Bd.returns (by simp) (hb hby at_54) hr) (by rw [e25]; exact ⟨rfl, N25⟩) (by decide) (by decide)
  · rw [hs1]
    show oG _ _ _ _ _ _ _ (s₁.setTop (mkF m 15 #[.val (.int p1), .val (.int p2), .val (.int (p1 &&& (255 : Int32))), .val (.int 6), .unset, .unset] [(.int 6)]))
    obtain ⟨_, _, ⟨T26, L26, k26, n26⟩, -, X26, ⟨Lc26, hQ26, l26, y26, z26⟩, st26⟩ := Jvm.LawKit.callS X0 hx (y := mY1) hown (mvT hZ (oW hw 1 rfl)) (mvT hZ (oW hw 2 rfl)) (mvT hZ (oW hw 3 rfl)) (mvT hZ (oW hw 4 rfl)) (by decide) (backOf (W := 0) (rm_pick l Z a0 hw [] (6 : Int32) w h0 n0 O0 W ) hZ (oW hw 4 rfl) (oW hw 3 rfl) (by decide) (by decide)) (g := (mkF m 15 #[.val (.int p1), .val (.int p2), .val (.int (p1 &&& (255 : Int32))), .val (.int 6), .unset, .unset] [(.int 6)])) rfl (by rw [hml]; rfl) (argsL := [(.int 6)]) (rest := []) (lenOf pd_1 rfl) rfl (by show 2 * 0 + _ ≤ _; exact Nat.le_of_eq rfl) (hb hby at_15) (fun _ _ => ⟨rfl, e0, (by decide : 0 + 0 ≤ _), (by decide : 0 + 0 ≤ _)⟩)
    dsimp only [Pt.U, Pt.locs, Pt.cells, Pt.slots] at X26 l26 y26 z26 st26 hQ26
    subst l26 y26 z26
    obtain ⟨rfl, Nq26, e26⟩ := hQ26
    have N26 := Fr.app N0 Nq26
    refine oS (fun t k => st26 t k) ?_
    show oG _ _ _ _ _ _ _ (T26.setTop (mkF m 18 #[.val (.int p1), .val (.int p2), .val (.int (p1 &&& (255 : Int32))), .val (.int 6), .unset, .unset] [(.ref (w 10))]))
    try clear st26
    refine oS (fun t k => XS.astore X26.here hx rfl (hb hby at_18) rfl rfl (l' := #[.val (.int p1), .val (.int p2), .val (.int (p1 &&& (255 : Int32))), .val (.int 6), .val (.ref (w 10)), .unset]) rfl k) ?_
    refine oS (fun t k => XS.iloadN X26.here hx rfl (hb hby at_20) rfl k) ?_
    obtain ⟨_, _, ⟨T27, L27, k27, n27⟩, -, X27, ⟨Lc27, hQ27, l27, y27, z27⟩, st27⟩ := Jvm.LawKit.callS X26 hx (y := mY0) hown (mvT hZ (oW hw 8 rfl)) (mvT hZ (oW hw 9 rfl)) (mvT hZ (oW hw 3 rfl)) (mvT hZ (oW hw 10 rfl)) (by decide) (backOf (W := 0) (rm_members l Z a0 hw [] (p1 &&& (255 : Int32))  h0 n0 O0  (own_b p1).1 (own_b p1).2) hZ (oW hw 10 rfl) (oW hw 3 rfl) (by decide) (by decide)) (g := (mkF m 21 #[.val (.int p1), .val (.int p2), .val (.int (p1 &&& (255 : Int32))), .val (.int 6), .val (.ref (w 10)), .unset] [(.int (p1 &&& (255 : Int32)))])) rfl (by rw [hml]; rfl) (argsL := [(.int (p1 &&& (255 : Int32)))]) (rest := []) (lenOf pd_2 rfl) rfl (by show 2 * 0 + _ ≤ _; exact Nat.le_of_eq rfl) (hb hby at_21) (fun _ _ => ⟨rfl, e26, (by decide : 0 + 0 ≤ _), (by decide : 0 + 0 ≤ _)⟩)
    dsimp only [Pt.U, Pt.locs, Pt.cells, Pt.slots] at X27 l27 y27 z27 st27 hQ27
    subst l27 y27 z27
    obtain ⟨rfl, Nq27, e27⟩ := hQ27
    have N27 := Fr.app N26 Nq27
    refine oS (fun t k => st27 t k) ?_
    show oG _ _ _ _ _ _ _ (T27.setTop (mkF m 24 #[.val (.int p1), .val (.int p2), .val (.int (p1 &&& (255 : Int32))), .val (.int 6), .val (.ref (w 10)), .unset] [(.int (own_mem (p1 &&& (255 : Int32))))]))
    try clear st27 X26 e26
    refine oS (fun t k => XS.iloadN X27.here hx rfl (hb hby at_24) rfl k) ?_
    refine oS (fun t k => XS.ishr X27.here hx rfl (hb hby at_25) rfl k) ?_
    refine oS (fun t k => oIc li_1 X27.here hx rfl (hb hby at_26) k) ?_
    show oG _ _ _ _ _ _ _ (T27.setTop (mkF m 27 #[.val (.int p1), .val (.int p2), .val (.int (p1 &&& (255 : Int32))), .val (.int 6), .val (.ref (w 10)), .unset] [(.int 1), (.int ((own_mem (p1 &&& (255 : Int32))) >>> ((6 : Int32) &&& 31)))]))
    refine oS (fun t k => XS.iand X27.here hx rfl (hb hby at_27) rfl k) ?_
    by_cases hc28 : (((own_mem (p1 &&& (255 : Int32))) >>> ((6 : Int32) &&& 31)) &&& (1 : Int32)) = (0 : Int32)
    · refine oS (fun t k => XS.ifYes X27.here hx rfl (pc0 := 28) (pc' := 35) rfl (hb hby at_28) rfl ((if0 _ _).trans (teq hc28).1) (by decide) (by decide) k) ?_
      refine oS (fun t k => oIc li_0 X27.here hx rfl (hb hby at_35) k) ?_
      show oG _ _ _ _ _ _ _ (T27.setTop (mkF m 36 #[.val (.int p1), .val (.int p2), .val (.int (p1 &&& (255 : Int32))), .val (.int 6), .val (.ref (w 10)), .unset] [(.int 0)]))
      refine oS (fun t k => XS.istore X27.here hx rfl (hb hby at_36) rfl (l' := #[.val (.int p1), .val (.int p2), .val (.int (p1 &&& (255 : Int32))), .val (.int 6), .val (.ref (w 10)), .val (.int 0)]) rfl k) ?_
      refine oS (fun t k => XS.aload X27.here hx rfl (hb hby at_38) rfl rfl k) ?_
      refine oS (fun t k => XS.iloadN X27.here hx rfl (hb hby at_40) rfl k) ?_
      show oG _ _ _ _ _ _ _ (T27.setTop (mkF m 41 #[.val (.int p1), .val (.int p2), .val (.int (p1 &&& (255 : Int32))), .val (.int 6), .val (.ref (w 10)), .val (.int 0)] [(.int (p1 &&& (255 : Int32))), (.ref (w 10))]))
      obtain ⟨cq28, kq28, q28a, q28b, q28c⟩ := isOf hZ e27 ((wE10 W).ext O0.2)
      obtain ⟨_, _, ⟨T28, L28, k28, n28⟩, -, X28, ⟨Lc28, hQ28, l28, y28, z28⟩, st28⟩ := X27.virtualBack hx (y := mY4) (z := mY4) hown (mvT hZ (oW hw 11 rfl)) (mvT hZ (oW hw 12 rfl)) (notFace_of_selects (args := #[]) (mvT hZ (oW hw 14 rfl))) (mvT hZ (oW hw 14 rfl)) (mvT hZ (oW hw 13 rfl)) (by decide) (backOf (W := 0) (rm_con_LOWER l Z a0 hw [] (p1 &&& (255 : Int32)) w h0 n0 O0 W (own_b p1).1 (own_b p1).2) hZ (oW hw 15 rfl) (oW hw 6 rfl) (by decide) (by decide)) q28a q28c (g := (mkF m 41 #[.val (.int p1), .val (.int p2), .val (.int (p1 &&& (255 : Int32))), .val (.int 6), .val (.ref (w 10)), .val (.int 0)] [(.int (p1 &&& (255 : Int32))), (.ref (w 10))])) rfl (by rw [hml]; rfl) (Steps.refl _) (argsL := [(.int (p1 &&& (255 : Int32)))]) (rest := []) (lenOf pd_3 rfl) rfl (by show 2 * 0 + _ ≤ _; exact Nat.le_of_eq rfl) (hb hby at_41) (fun _ _ => ⟨rfl, e27, (by decide : 0 + 0 ≤ _), (by decide : 0 + 0 ≤ _)⟩)
      dsimp only [Pt.U, Pt.locs, Pt.cells, Pt.slots] at X28 l28 y28 z28 st28 hQ28
      subst l28 y28 z28
      obtain ⟨rfl, Nq28, e28⟩ := hQ28
      have N28 := Fr.app N27 Nq28
      refine oS (fun t k => st28.trans k) ?_
      show oG _ _ _ _ _ _ _ (T28.setTop (mkF m 44 #[.val (.int p1), .val (.int p2), .val (.int (p1 &&& (255 : Int32))), .val (.int 6), .val (.ref (w 10)), .val (.int 0)] [(.int (own_in (6 : Int32) (p1 &&& (255 : Int32))))]))
      try clear st28 X27 e27
      refine oS (fun t k => XS.iload X28.here hx rfl (hb hby at_44) rfl k) ?_
      refine oS (fun t k => XS.icmpNo X28.here hx rfl (hb hby at_46) rfl (teq (if_pos hc28)).2 k) ?_
      refine oS (fun t k => oIc li_1 X28.here hx rfl (hb hby at_49) k) ?_
      show oG _ _ _ _ _ _ _ (T28.setTop (mkF m 50 #[.val (.int p1), .val (.int p2), .val (.int (p1 &&& (255 : Int32))), .val (.int 6), .val (.ref (w 10)), .val (.int 0)] [(.int 1)]))
      refine oS (fun t k => XS.goto X28.here hx rfl (pc0 := 50) (pc' := 54) rfl (hb hby at_50) (by decide) (by decide) k) ?_
      exact own_ret (v := some (.int 1)) X28 (fun h => by rw [Bd.returns] at h; cases h) Bd.notSynchronized (fun fs hr => retN X28 hx (t := .boolean) Bd.returns (by simp) (hb hby at_54) hr) (by rw [e28]; exact ⟨rfl, N28⟩) (by decide) (by decide)
    · refine oS (fun t k => XS.ifNo X27.here hx rfl (hb hby at_28) rfl ((if0 _ _).trans (feq hc28).1) k) ?_
      refine oS (fun t k => oIc li_1 X27.here hx rfl (hb hby at_31) k) ?_
      show oG _ _ _ _ _ _ _ (T27.setTop (mkF m 32 #[.val (.int p1), .val (.int p2), .val (.int (p1 &&& (255 : Int32))), .val (.int 6), .val (.ref (w 10)), .unset] [(.int 1)]))
      refine oS (fun t k => XS.goto X27.here hx rfl (pc0 := 32) (pc' := 36) rfl (hb hby at_32) (by decide) (by decide) k) ?_
      refine oS (fun t k => XS.istore X27.here hx rfl (hb hby at_36) rfl (l' := #[.val (.int p1), .val (.int p2), .val (.int (p1 &&& (255 : Int32))), .val (.int 6), .val (.ref (w 10)), .val (.int 1)]) rfl k) ?_
      refine oS (fun t k => XS.aload X27.here hx rfl (hb hby at_38) rfl rfl k) ?_
      show oG _ _ _ _ _ _ _ (T27.setTop (mkF m 40 #[.val (.int p1), .val (.int p2), .val (.int (p1 &&& (255 : Int32))), .val (.int 6), .val (.ref (w 10)), .val (.int 1)] [(.ref (w 10))]))
      refine oS (fun t k => XS.iloadN X27.here hx rfl (hb hby at_40) rfl k) ?_
      obtain ⟨cq29, kq29, q29a, q29b, q29c⟩ := isOf hZ e27 ((wE10 W).ext O0.2)
      obtain ⟨_, _, ⟨T29, L29, k29, n29⟩, -, X29, ⟨Lc29, hQ29, l29, y29, z29⟩, st29⟩ := X27.virtualBack hx (y := mY4) (z := mY4) hown (mvT hZ (oW hw 11 rfl)) (mvT hZ (oW hw 12 rfl)) (notFace_of_selects (args := #[]) (mvT hZ (oW hw 14 rfl))) (mvT hZ (oW hw 14 rfl)) (mvT hZ (oW hw 13 rfl)) (by decide) (backOf (W := 0) (rm_con_LOWER l Z a0 hw [] (p1 &&& (255 : Int32)) w h0 n0 O0 W (own_b p1).1 (own_b p1).2) hZ (oW hw 15 rfl) (oW hw 6 rfl) (by decide) (by decide)) q29a q29c (g := (mkF m 41 #[.val (.int p1), .val (.int p2), .val (.int (p1 &&& (255 : Int32))), .val (.int 6), .val (.ref (w 10)), .val (.int 1)] [(.int (p1 &&& (255 : Int32))), (.ref (w 10))])) rfl (by rw [hml]; rfl) (Steps.refl _) (argsL := [(.int (p1 &&& (255 : Int32)))]) (rest := []) (lenOf pd_3 rfl) rfl (by show 2 * 0 + _ ≤ _; exact Nat.le_of_eq rfl) (hb hby at_41) (fun _ _ => ⟨rfl, e27, (by decide : 0 + 0 ≤ _), (by decide : 0 + 0 ≤ _)⟩)
      dsimp only [Pt.U, Pt.locs, Pt.cells, Pt.slots] at X29 l29 y29 z29 st29 hQ29
      subst l29 y29 z29
      obtain ⟨rfl, Nq29, e29⟩ := hQ29
      have N29 := Fr.app N27 Nq29
      refine oS (fun t k => st29.trans k) ?_
      show oG _ _ _ _ _ _ _ (T29.setTop (mkF m 44 #[.val (.int p1), .val (.int p2), .val (.int (p1 &&& (255 : Int32))), .val (.int 6), .val (.ref (w 10)), .val (.int 1)] [(.int (own_in (6 : Int32) (p1 &&& (255 : Int32))))]))
      try clear st29 X27 e27
      refine oS (fun t k => XS.iload X29.here hx rfl (hb hby at_44) rfl k) ?_
      refine oS (fun t k => XS.icmpNo X29.here hx rfl (hb hby at_46) rfl (teq (if_neg hc28)).2 k) ?_
      refine oS (fun t k => oIc li_1 X29.here hx rfl (hb hby at_49) k) ?_
      show oG _ _ _ _ _ _ _ (T29.setTop (mkF m 50 #[.val (.int p1), .val (.int p2), .val (.int (p1 &&& (255 : Int32))), .val (.int 6), .val (.ref (w 10)), .val (.int 1)] [(.int 1)]))
      refine oS (fun t k => XS.goto X29.here hx rfl (pc0 := 50) (pc' := 54) rfl (hb hby at_50) (by decide) (by decide) k) ?_
      exact own_ret (v := some (.int 1)) X29 (fun h => by rw [Bd.returns] at h; cases h) Bd.notSynchronized (fun fs hr => retN X29 hx (t := .boolean) Bd.returns (by simp) (hb hby at_54) hr) (by rw [e29]; exact ⟨rfl, N29⟩) (by decide) (by decide)
  · rw [hs1]
    show oG _ _ _ _ _ _ _ (s₁.setTop (mkF m 15 #[.val (.int p1), .val (.int p2), .val (.int (p1 &&& (255 : Int32))), .val (.int 7), .unset, .unset] [(.int 7)]))
    obtain ⟨_, _, ⟨T30, L30, k30, n30⟩, -, X30, ⟨Lc30, hQ30, l30, y30, z30⟩, st30⟩ := Jvm.LawKit.callS X0 hx (y := mY1) hown (mvT hZ (oW hw 1 rfl)) (mvT hZ (oW hw 2 rfl)) (mvT hZ (oW hw 3 rfl)) (mvT hZ (oW hw 4 rfl)) (by decide) (backOf (W := 0) (rm_pick l Z a0 hw [] (7 : Int32) w h0 n0 O0 W ) hZ (oW hw 4 rfl) (oW hw 3 rfl) (by decide) (by decide)) (g := (mkF m 15 #[.val (.int p1), .val (.int p2), .val (.int (p1 &&& (255 : Int32))), .val (.int 7), .unset, .unset] [(.int 7)])) rfl (by rw [hml]; rfl) (argsL := [(.int 7)]) (rest := []) (lenOf pd_1 rfl) rfl (by show 2 * 0 + _ ≤ _; exact Nat.le_of_eq rfl) (hb hby at_15) (fun _ _ => ⟨rfl, e0, (by decide : 0 + 0 ≤ _), (by decide : 0 + 0 ≤ _)⟩)
    dsimp only [Pt.U, Pt.locs, Pt.cells, Pt.slots] at X30 l30 y30 z30 st30 hQ30
    subst l30 y30 z30
    obtain ⟨rfl, Nq30, e30⟩ := hQ30
    have N30 := Fr.app N0 Nq30
    refine oS (fun t k => st30 t k) ?_
    show oG _ _ _ _ _ _ _ (T30.setTop (mkF m 18 #[.val (.int p1), .val (.int p2), .val (.int (p1 &&& (255 : Int32))), .val (.int 7), .unset, .unset] [(.ref (w 6))]))
    try clear st30
    refine oS (fun t k => XS.astore X30.here hx rfl (hb hby at_18) rfl rfl (l' := #[.val (.int p1), .val (.int p2), .val (.int (p1 &&& (255 : Int32))), .val (.int 7), .val (.ref (w 6)), .unset]) rfl k) ?_
    refine oS (fun t k => XS.iloadN X30.here hx rfl (hb hby at_20) rfl k) ?_
    obtain ⟨_, _, ⟨T31, L31, k31, n31⟩, -, X31, ⟨Lc31, hQ31, l31, y31, z31⟩, st31⟩ := Jvm.LawKit.callS X30 hx (y := mY0) hown (mvT hZ (oW hw 8 rfl)) (mvT hZ (oW hw 9 rfl)) (mvT hZ (oW hw 3 rfl)) (mvT hZ (oW hw 10 rfl)) (by decide) (backOf (W := 0) (rm_members l Z a0 hw [] (p1 &&& (255 : Int32))  h0 n0 O0  (own_b p1).1 (own_b p1).2) hZ (oW hw 10 rfl) (oW hw 3 rfl) (by decide) (by decide)) (g := (mkF m 21 #[.val (.int p1), .val (.int p2), .val (.int (p1 &&& (255 : Int32))), .val (.int 7), .val (.ref (w 6)), .unset] [(.int (p1 &&& (255 : Int32)))])) rfl (by rw [hml]; rfl) (argsL := [(.int (p1 &&& (255 : Int32)))]) (rest := []) (lenOf pd_2 rfl) rfl (by show 2 * 0 + _ ≤ _; exact Nat.le_of_eq rfl) (hb hby at_21) (fun _ _ => ⟨rfl, e30, (by decide : 0 + 0 ≤ _), (by decide : 0 + 0 ≤ _)⟩)
    dsimp only [Pt.U, Pt.locs, Pt.cells, Pt.slots] at X31 l31 y31 z31 st31 hQ31
    subst l31 y31 z31
    obtain ⟨rfl, Nq31, e31⟩ := hQ31
    have N31 := Fr.app N30 Nq31
    refine oS (fun t k => st31 t k) ?_
    show oG _ _ _ _ _ _ _ (T31.setTop (mkF m 24 #[.val (.int p1), .val (.int p2), .val (.int (p1 &&& (255 : Int32))), .val (.int 7), .val (.ref (w 6)), .unset] [(.int (own_mem (p1 &&& (255 : Int32))))]))
    try clear st31 X30 e30
    refine oS (fun t k => XS.iloadN X31.here hx rfl (hb hby at_24) rfl k) ?_
    refine oS (fun t k => XS.ishr X31.here hx rfl (hb hby at_25) rfl k) ?_
    refine oS (fun t k => oIc li_1 X31.here hx rfl (hb hby at_26) k) ?_
    show oG _ _ _ _ _ _ _ (T31.setTop (mkF m 27 #[.val (.int p1), .val (.int p2), .val (.int (p1 &&& (255 : Int32))), .val (.int 7), .val (.ref (w 6)), .unset] [(.int 1), (.int ((own_mem (p1 &&& (255 : Int32))) >>> ((7 : Int32) &&& 31)))]))
    refine oS (fun t k => XS.iand X31.here hx rfl (hb hby at_27) rfl k) ?_
    by_cases hc28 : (((own_mem (p1 &&& (255 : Int32))) >>> ((7 : Int32) &&& 31)) &&& (1 : Int32)) = (0 : Int32)
    · refine oS (fun t k => XS.ifYes X31.here hx rfl (pc0 := 28) (pc' := 35) rfl (hb hby at_28) rfl ((if0 _ _).trans (teq hc28).1) (by decide) (by decide) k) ?_
      refine oS (fun t k => oIc li_0 X31.here hx rfl (hb hby at_35) k) ?_
      show oG _ _ _ _ _ _ _ (T31.setTop (mkF m 36 #[.val (.int p1), .val (.int p2), .val (.int (p1 &&& (255 : Int32))), .val (.int 7), .val (.ref (w 6)), .unset] [(.int 0)]))
      refine oS (fun t k => XS.istore X31.here hx rfl (hb hby at_36) rfl (l' := #[.val (.int p1), .val (.int p2), .val (.int (p1 &&& (255 : Int32))), .val (.int 7), .val (.ref (w 6)), .val (.int 0)]) rfl k) ?_
      refine oS (fun t k => XS.aload X31.here hx rfl (hb hby at_38) rfl rfl k) ?_
      refine oS (fun t k => XS.iloadN X31.here hx rfl (hb hby at_40) rfl k) ?_
      show oG _ _ _ _ _ _ _ (T31.setTop (mkF m 41 #[.val (.int p1), .val (.int p2), .val (.int (p1 &&& (255 : Int32))), .val (.int 7), .val (.ref (w 6)), .val (.int 0)] [(.int (p1 &&& (255 : Int32))), (.ref (w 6))]))
      obtain ⟨cq32, kq32, q32a, q32b, q32c⟩ := isOf hZ e31 ((wE6 W).ext O0.2)
      obtain ⟨_, _, ⟨T32, L32, k32, n32⟩, -, X32, ⟨Lc32, hQ32, l32, y32, z32⟩, st32⟩ := X31.virtualBack hx (y := mY4) (z := mY4) hown (mvT hZ (oW hw 11 rfl)) (mvT hZ (oW hw 12 rfl)) (notFace_of_selects (args := #[]) (mvT hZ (oW hw 14 rfl))) (mvT hZ (oW hw 14 rfl)) (mvT hZ (oW hw 13 rfl)) (by decide) (backOf (W := 0) (rm_con_PRINT l Z a0 hw [] (p1 &&& (255 : Int32)) w h0 n0 O0 W (own_b p1).1 (own_b p1).2) hZ (oW hw 15 rfl) (oW hw 6 rfl) (by decide) (by decide)) q32a q32c (g := (mkF m 41 #[.val (.int p1), .val (.int p2), .val (.int (p1 &&& (255 : Int32))), .val (.int 7), .val (.ref (w 6)), .val (.int 0)] [(.int (p1 &&& (255 : Int32))), (.ref (w 6))])) rfl (by rw [hml]; rfl) (Steps.refl _) (argsL := [(.int (p1 &&& (255 : Int32)))]) (rest := []) (lenOf pd_3 rfl) rfl (by show 2 * 0 + _ ≤ _; exact Nat.le_of_eq rfl) (hb hby at_41) (fun _ _ => ⟨rfl, e31, (by decide : 0 + 0 ≤ _), (by decide : 0 + 0 ≤ _)⟩)
      dsimp only [Pt.U, Pt.locs, Pt.cells, Pt.slots] at X32 l32 y32 z32 st32 hQ32
      subst l32 y32 z32
      obtain ⟨rfl, Nq32, e32⟩ := hQ32
      have N32 := Fr.app N31 Nq32
      refine oS (fun t k => st32.trans k) ?_
      show oG _ _ _ _ _ _ _ (T32.setTop (mkF m 44 #[.val (.int p1), .val (.int p2), .val (.int (p1 &&& (255 : Int32))), .val (.int 7), .val (.ref (w 6)), .val (.int 0)] [(.int (own_in (7 : Int32) (p1 &&& (255 : Int32))))]))
      try clear st32 X31 e31
      refine oS (fun t k => XS.iload X32.here hx rfl (hb hby at_44) rfl k) ?_
      refine oS (fun t k => XS.icmpNo X32.here hx rfl (hb hby at_46) rfl (teq (if_pos hc28)).2 k) ?_
      refine oS (fun t k => oIc li_1 X32.here hx rfl (hb hby at_49) k) ?_
      show oG _ _ _ _ _ _ _ (T32.setTop (mkF m 50 #[.val (.int p1), .val (.int p2), .val (.int (p1 &&& (255 : Int32))), .val (.int 7), .val (.ref (w 6)), .val (.int 0)] [(.int 1)]))
      refine oS (fun t k => XS.goto X32.here hx rfl (pc0 := 50) (pc' := 54) rfl (hb hby at_50) (by decide) (by decide) k) ?_
      exact own_ret (v := some (.int 1)) X32 (fun h => by rw [Bd.returns] at h; cases h) Bd.notSynchronized (fun fs hr => retN X32 hx (t := .boolean) Bd.returns (by simp) (hb hby at_54) hr) (by rw [e32]; exact ⟨rfl, N32⟩) (by decide) (by decide)
    · refine oS (fun t k => XS.ifNo X31.here hx rfl (hb hby at_28) rfl ((if0 _ _).trans (feq hc28).1) k) ?_
      refine oS (fun t k => oIc li_1 X31.here hx rfl (hb hby at_31) k) ?_
      show oG _ _ _ _ _ _ _ (T31.setTop (mkF m 32 #[.val (.int p1), .val (.int p2), .val (.int (p1 &&& (255 : Int32))), .val (.int 7), .val (.ref (w 6)), .unset] [(.int 1)]))
      refine oS (fun t k => XS.goto X31.here hx rfl (pc0 := 32) (pc' := 36) rfl (hb hby at_32) (by decide) (by decide) k) ?_
      refine oS (fun t k => XS.istore X31.here hx rfl (hb hby at_36) rfl (l' := #[.val (.int p1), .val (.int p2), .val (.int (p1 &&& (255 : Int32))), .val (.int 7), .val (.ref (w 6)), .val (.int 1)]) rfl k) ?_
      refine oS (fun t k => XS.aload X31.here hx rfl (hb hby at_38) rfl rfl k) ?_
      show oG _ _ _ _ _ _ _ (T31.setTop (mkF m 40 #[.val (.int p1), .val (.int p2), .val (.int (p1 &&& (255 : Int32))), .val (.int 7), .val (.ref (w 6)), .val (.int 1)] [(.ref (w 6))]))
      refine oS (fun t k => XS.iloadN X31.here hx rfl (hb hby at_40) rfl k) ?_
      obtain ⟨cq33, kq33, q33a, q33b, q33c⟩ := isOf hZ e31 ((wE6 W).ext O0.2)
      obtain ⟨_, _, ⟨T33, L33, k33, n33⟩, -, X33, ⟨Lc33, hQ33, l33, y33, z33⟩, st33⟩ := X31.virtualBack hx (y := mY4) (z := mY4) hown (mvT hZ (oW hw 11 rfl)) (mvT hZ (oW hw 12 rfl)) (notFace_of_selects (args := #[]) (mvT hZ (oW hw 14 rfl))) (mvT hZ (oW hw 14 rfl)) (mvT hZ (oW hw 13 rfl)) (by decide) (backOf (W := 0) (rm_con_PRINT l Z a0 hw [] (p1 &&& (255 : Int32)) w h0 n0 O0 W (own_b p1).1 (own_b p1).2) hZ (oW hw 15 rfl) (oW hw 6 rfl) (by decide) (by decide)) q33a q33c (g := (mkF m 41 #[.val (.int p1), .val (.int p2), .val (.int (p1 &&& (255 : Int32))), .val (.int 7), .val (.ref (w 6)), .val (.int 1)] [(.int (p1 &&& (255 : Int32))), (.ref (w 6))])) rfl (by rw [hml]; rfl) (Steps.refl _) (argsL := [(.int (p1 &&& (255 : Int32)))]) (rest := []) (lenOf pd_3 rfl) rfl (by show 2 * 0 + _ ≤ _; exact Nat.le_of_eq rfl) (hb hby at_41) (fun _ _ => ⟨rfl, e31, (by decide : 0 + 0 ≤ _), (by decide : 0 + 0 ≤ _)⟩)
      dsimp only [Pt.U, Pt.locs, Pt.cells, Pt.slots] at X33 l33 y33 z33 st33 hQ33
      subst l33 y33 z33
      obtain ⟨rfl, Nq33, e33⟩ := hQ33
      have N33 := Fr.app N31 Nq33
      refine oS (fun t k => st33.trans k) ?_
      show oG _ _ _ _ _ _ _ (T33.setTop (mkF m 44 #[.val (.int p1), .val (.int p2), .val (.int (p1 &&& (255 : Int32))), .val (.int 7), .val (.ref (w 6)), .val (.int 1)] [(.int (own_in (7 : Int32) (p1 &&& (255 : Int32))))]))
      try clear st33 X31 e31
      refine oS (fun t k => XS.iload X33.here hx rfl (hb hby at_44) rfl k) ?_
      refine oS (fun t k => XS.icmpNo X33.here hx rfl (hb hby at_46) rfl (teq (if_neg hc28)).2 k) ?_
      refine oS (fun t k => oIc li_1 X33.here hx rfl (hb hby at_49) k) ?_
      show oG _ _ _ _ _ _ _ (T33.setTop (mkF m 50 #[.val (.int p1), .val (.int p2), .val (.int (p1 &&& (255 : Int32))), .val (.int 7), .val (.ref (w 6)), .val (.int 1)] [(.int 1)]))
      refine oS (fun t k => XS.goto X33.here hx rfl (pc0 := 50) (pc' := 54) rfl (hb hby at_50) (by decide) (by decide) k) ?_
      exact own_ret (v := some (.int 1)) X33 (fun h => by rw [Bd.returns] at h; cases h) Bd.notSynchronized (fun fs hr => retN X33 hx (t := .boolean) Bd.returns (by simp) (hb hby at_54) hr) (by rw [e33]; exact ⟨rfl, N33⟩) (by decide) (by decide)
  · rw [hs1]
    show oG _ _ _ _ _ _ _ (s₁.setTop (mkF m 15 #[.val (.int p1), .val (.int p2), .val (.int (p1 &&& (255 : Int32))), .val (.int 8), .unset, .unset] [(.int 8)]))
    obtain ⟨_, _, ⟨T34, L34, k34, n34⟩, -, X34, ⟨Lc34, hQ34, l34, y34, z34⟩, st34⟩ := Jvm.LawKit.callS X0 hx (y := mY1) hown (mvT hZ (oW hw 1 rfl)) (mvT hZ (oW hw 2 rfl)) (mvT hZ (oW hw 3 rfl)) (mvT hZ (oW hw 4 rfl)) (by decide) (backOf (W := 0) (rm_pick l Z a0 hw [] (8 : Int32) w h0 n0 O0 W ) hZ (oW hw 4 rfl) (oW hw 3 rfl) (by decide) (by decide)) (g := (mkF m 15 #[.val (.int p1), .val (.int p2), .val (.int (p1 &&& (255 : Int32))), .val (.int 8), .unset, .unset] [(.int 8)])) rfl (by rw [hml]; rfl) (argsL := [(.int 8)]) (rest := []) (lenOf pd_1 rfl) rfl (by show 2 * 0 + _ ≤ _; exact Nat.le_of_eq rfl) (hb hby at_15) (fun _ _ => ⟨rfl, e0, (by decide : 0 + 0 ≤ _), (by decide : 0 + 0 ≤ _)⟩)
    dsimp only [Pt.U, Pt.locs, Pt.cells, Pt.slots] at X34 l34 y34 z34 st34 hQ34
    subst l34 y34 z34
    obtain ⟨rfl, Nq34, e34⟩ := hQ34
    have N34 := Fr.app N0 Nq34
    refine oS (fun t k => st34 t k) ?_
    show oG _ _ _ _ _ _ _ (T34.setTop (mkF m 18 #[.val (.int p1), .val (.int p2), .val (.int (p1 &&& (255 : Int32))), .val (.int 8), .unset, .unset] [(.ref (w 3))]))
    try clear st34
    refine oS (fun t k => XS.astore X34.here hx rfl (hb hby at_18) rfl rfl (l' := #[.val (.int p1), .val (.int p2), .val (.int (p1 &&& (255 : Int32))), .val (.int 8), .val (.ref (w 3)), .unset]) rfl k) ?_
    refine oS (fun t k => XS.iloadN X34.here hx rfl (hb hby at_20) rfl k) ?_
    obtain ⟨_, _, ⟨T35, L35, k35, n35⟩, -, X35, ⟨Lc35, hQ35, l35, y35, z35⟩, st35⟩ := Jvm.LawKit.callS X34 hx (y := mY0) hown (mvT hZ (oW hw 8 rfl)) (mvT hZ (oW hw 9 rfl)) (mvT hZ (oW hw 3 rfl)) (mvT hZ (oW hw 10 rfl)) (by decide) (backOf (W := 0) (rm_members l Z a0 hw [] (p1 &&& (255 : Int32))  h0 n0 O0  (own_b p1).1 (own_b p1).2) hZ (oW hw 10 rfl) (oW hw 3 rfl) (by decide) (by decide)) (g := (mkF m 21 #[.val (.int p1), .val (.int p2), .val (.int (p1 &&& (255 : Int32))), .val (.int 8), .val (.ref (w 3)), .unset] [(.int (p1 &&& (255 : Int32)))])) rfl (by rw [hml]; rfl) (argsL := [(.int (p1 &&& (255 : Int32)))]) (rest := []) (lenOf pd_2 rfl) rfl (by show 2 * 0 + _ ≤ _; exact Nat.le_of_eq rfl) (hb hby at_21) (fun _ _ => ⟨rfl, e34, (by decide : 0 + 0 ≤ _), (by decide : 0 + 0 ≤ _)⟩)
    dsimp only [Pt.U, Pt.locs, Pt.cells, Pt.slots] at X35 l35 y35 z35 st35 hQ35
    subst l35 y35 z35
    obtain ⟨rfl, Nq35, e35⟩ := hQ35
    have N35 := Fr.app N34 Nq35
    refine oS (fun t k => st35 t k) ?_
    show oG _ _ _ _ _ _ _ (T35.setTop (mkF m 24 #[.val (.int p1), .val (.int p2), .val (.int (p1 &&& (255 : Int32))), .val (.int 8), .val (.ref (w 3)), .unset] [(.int (own_mem (p1 &&& (255 : Int32))))]))
    try clear st35 X34 e34
    refine oS (fun t k => XS.iloadN X35.here hx rfl (hb hby at_24) rfl k) ?_
    refine oS (fun t k => XS.ishr X35.here hx rfl (hb hby at_25) rfl k) ?_
    refine oS (fun t k => oIc li_1 X35.here hx rfl (hb hby at_26) k) ?_
    show oG _ _ _ _ _ _ _ (T35.setTop (mkF m 27 #[.val (.int p1), .val (.int p2), .val (.int (p1 &&& (255 : Int32))), .val (.int 8), .val (.ref (w 3)), .unset] [(.int 1), (.int ((own_mem (p1 &&& (255 : Int32))) >>> ((8 : Int32) &&& 31)))]))
    refine oS (fun t k => XS.iand X35.here hx rfl (hb hby at_27) rfl k) ?_
    by_cases hc28 : (((own_mem (p1 &&& (255 : Int32))) >>> ((8 : Int32) &&& 31)) &&& (1 : Int32)) = (0 : Int32)
    · refine oS (fun t k => XS.ifYes X35.here hx rfl (pc0 := 28) (pc' := 35) rfl (hb hby at_28) rfl ((if0 _ _).trans (teq hc28).1) (by decide) (by decide) k) ?_
      refine oS (fun t k => oIc li_0 X35.here hx rfl (hb hby at_35) k) ?_
      show oG _ _ _ _ _ _ _ (T35.setTop (mkF m 36 #[.val (.int p1), .val (.int p2), .val (.int (p1 &&& (255 : Int32))), .val (.int 8), .val (.ref (w 3)), .unset] [(.int 0)]))
      refine oS (fun t k => XS.istore X35.here hx rfl (hb hby at_36) rfl (l' := #[.val (.int p1), .val (.int p2), .val (.int (p1 &&& (255 : Int32))), .val (.int 8), .val (.ref (w 3)), .val (.int 0)]) rfl k) ?_
      refine oS (fun t k => XS.aload X35.here hx rfl (hb hby at_38) rfl rfl k) ?_
      refine oS (fun t k => XS.iloadN X35.here hx rfl (hb hby at_40) rfl k) ?_
      show oG _ _ _ _ _ _ _ (T35.setTop (mkF m 41 #[.val (.int p1), .val (.int p2), .val (.int (p1 &&& (255 : Int32))), .val (.int 8), .val (.ref (w 3)), .val (.int 0)] [(.int (p1 &&& (255 : Int32))), (.ref (w 3))]))
      obtain ⟨cq36, kq36, q36a, q36b, q36c⟩ := isOf hZ e35 ((wE3 W).ext O0.2)
      obtain ⟨_, _, ⟨T36, L36, k36, n36⟩, -, X36, ⟨Lc36, hQ36, l36, y36, z36⟩, st36⟩ := X35.virtualBack hx (y := mY4) (z := mY4) hown (mvT hZ (oW hw 11 rfl)) (mvT hZ (oW hw 12 rfl)) (notFace_of_selects (args := #[]) (mvT hZ (oW hw 14 rfl))) (mvT hZ (oW hw 14 rfl)) (mvT hZ (oW hw 13 rfl)) (by decide) (backOf (W := 0) (rm_con_PUNCT l Z a0 hw [] (p1 &&& (255 : Int32)) w h0 n0 O0 W (own_b p1).1 (own_b p1).2) hZ (oW hw 15 rfl) (oW hw 6 rfl) (by decide) (by decide)) q36a q36c (g := (mkF m 41 #[.val (.int p1), .val (.int p2), .val (.int (p1 &&& (255 : Int32))), .val (.int 8), .val (.ref (w 3)), .val (.int 0)] [(.int (p1 &&& (255 : Int32))), (.ref (w 3))])) rfl (by rw [hml]; rfl) (Steps.refl _) (argsL := [(.int (p1 &&& (255 : Int32)))]) (rest := []) (lenOf pd_3 rfl) rfl (by show 2 * 0 + _ ≤ _; exact Nat.le_of_eq rfl) (hb hby at_41) (fun _ _ => ⟨rfl, e35, (by decide : 0 + 0 ≤ _), (by decide : 0 + 0 ≤ _)⟩)
      dsimp only [Pt.U, Pt.locs, Pt.cells, Pt.slots] at X36 l36 y36 z36 st36 hQ36
      subst l36 y36 z36
      obtain ⟨rfl, Nq36, e36⟩ := hQ36
      have N36 := Fr.app N35 Nq36
      refine oS (fun t k => st36.trans k) ?_
      show oG _ _ _ _ _ _ _ (T36.setTop (mkF m 44 #[.val (.int p1), .val (.int p2), .val (.int (p1 &&& (255 : Int32))), .val (.int 8), .val (.ref (w 3)), .val (.int 0)] [(.int (own_in (8 : Int32) (p1 &&& (255 : Int32))))]))
      try clear st36 X35 e35
      refine oS (fun t k => XS.iload X36.here hx rfl (hb hby at_44) rfl k) ?_
      refine oS (fun t k => XS.icmpNo X36.here hx rfl (hb hby at_46) rfl (teq (if_pos hc28)).2 k) ?_
      refine oS (fun t k => oIc li_1 X36.here hx rfl (hb hby at_49) k) ?_
      show oG _ _ _ _ _ _ _ (T36.setTop (mkF m 50 #[.val (.int p1), .val (.int p2), .val (.int (p1 &&& (255 : Int32))), .val (.int 8), .val (.ref (w 3)), .val (.int 0)] [(.int 1)]))
      refine oS (fun t k => XS.goto X36.here hx rfl (pc0 := 50) (pc' := 54) rfl (hb hby at_50) (by decide) (by decide) k) ?_
      exact own_ret (v := some (.int 1)) X36 (fun h => by rw [Bd.returns] at h; cases h) Bd.notSynchronized (fun fs hr => retN X36 hx (t := .boolean) Bd.returns (by simp) (hb hby at_54) hr) (by rw [e36]; exact ⟨rfl, N36⟩) (by decide) (by decide)
    · refine oS (fun t k => XS.ifNo X35.here hx rfl (hb hby at_28) rfl ((if0 _ _).trans (feq hc28).1) k) ?_
      refine oS (fun t k => oIc li_1 X35.here hx rfl (hb hby at_31) k) ?_
      show oG _ _ _ _ _ _ _ (T35.setTop (mkF m 32 #[.val (.int p1), .val (.int p2), .val (.int (p1 &&& (255 : Int32))), .val (.int 8), .val (.ref (w 3)), .unset] [(.int 1)]))
      refine oS (fun t k => XS.goto X35.here hx rfl (pc0 := 32) (pc' := 36) rfl (hb hby at_32) (by decide) (by decide) k) ?_
      refine oS (fun t k => XS.istore X35.here hx rfl (hb hby at_36) rfl (l' := #[.val (.int p1), .val (.int p2), .val (.int (p1 &&& (255 : Int32))), .val (.int 8), .val (.ref (w 3)), .val (.int 1)]) rfl k) ?_
      refine oS (fun t k => XS.aload X35.here hx rfl (hb hby at_38) rfl rfl k) ?_
      show oG _ _ _ _ _ _ _ (T35.setTop (mkF m 40 #[.val (.int p1), .val (.int p2), .val (.int (p1 &&& (255 : Int32))), .val (.int 8), .val (.ref (w 3)), .val (.int 1)] [(.ref (w 3))]))
      refine oS (fun t k => XS.iloadN X35.here hx rfl (hb hby at_40) rfl k) ?_
      obtain ⟨cq37, kq37, q37a, q37b, q37c⟩ := isOf hZ e35 ((wE3 W).ext O0.2)
      obtain ⟨_, _, ⟨T37, L37, k37, n37⟩, -, X37, ⟨Lc37, hQ37, l37, y37, z37⟩, st37⟩ := X35.virtualBack hx (y := mY4) (z := mY4) hown (mvT hZ (oW hw 11 rfl)) (mvT hZ (oW hw 12 rfl)) (notFace_of_selects (args := #[]) (mvT hZ (oW hw 14 rfl))) (mvT hZ (oW hw 14 rfl)) (mvT hZ (oW hw 13 rfl)) (by decide) (backOf (W := 0) (rm_con_PUNCT l Z a0 hw [] (p1 &&& (255 : Int32)) w h0 n0 O0 W (own_b p1).1 (own_b p1).2) hZ (oW hw 15 rfl) (oW hw 6 rfl) (by decide) (by decide)) q37a q37c (g := (mkF m 41 #[.val (.int p1), .val (.int p2), .val (.int (p1 &&& (255 : Int32))), .val (.int 8), .val (.ref (w 3)), .val (.int 1)] [(.int (p1 &&& (255 : Int32))), (.ref (w 3))])) rfl (by rw [hml]; rfl) (Steps.refl _) (argsL := [(.int (p1 &&& (255 : Int32)))]) (rest := []) (lenOf pd_3 rfl) rfl (by show 2 * 0 + _ ≤ _; exact Nat.le_of_eq rfl) (hb hby at_41) (fun _ _ => ⟨rfl, e35, (by decide : 0 + 0 ≤ _), (by decide : 0 + 0 ≤ _)⟩)
      dsimp only [Pt.U, Pt.locs, Pt.cells, Pt.slots] at X37 l37 y37 z37 st37 hQ37
      subst l37 y37 z37
      obtain ⟨rfl, Nq37, e37⟩ := hQ37
      have N37 := Fr.app N35 Nq37
      refine oS (fun t k => st37.trans k) ?_
      show oG _ _ _ _ _ _ _ (T37.setTop (mkF m 44 #[.val (.int p1), .val (.int p2), .val (.int (p1 &&& (255 : Int32))), .val (.int 8), .val (.ref (w 3)), .val (.int 1)] [(.int (own_in (8 : Int32) (p1 &&& (255 : Int32))))]))
      try clear st37 X35 e35
      refine oS (fun t k => XS.iload X37.here hx rfl (hb hby at_44) rfl k) ?_
      refine oS (fun t k => XS.icmpNo X37.here hx rfl (hb hby at_46) rfl (teq (if_neg hc28)).2 k) ?_
      refine oS (fun t k => oIc li_1 X37.here hx rfl (hb hby at_49) k) ?_
      show oG _ _ _ _ _ _ _ (T37.setTop (mkF m 50 #[.val (.int p1), .val (.int p2), .val (.int (p1 &&& (255 : Int32))), .val (.int 8), .val (.ref (w 3)), .val (.int 1)] [(.int 1)]))
      refine oS (fun t k => XS.goto X37.here hx rfl (pc0 := 50) (pc' := 54) rfl (hb hby at_50) (by decide) (by decide) k) ?_
      exact own_ret (v := some (.int 1)) X37 (fun h => by rw [Bd.returns] at h; cases h) Bd.notSynchronized (fun fs hr => retN X37 hx (t := .boolean) Bd.returns (by simp) (hb hby at_54) hr) (by rw [e37]; exact ⟨rfl, N37⟩) (by decide) (by decide)
  · rw [hs1]
    show oG _ _ _ _ _ _ _ (s₁.setTop (mkF m 15 #[.val (.int p1), .val (.int p2), .val (.int (p1 &&& (255 : Int32))), .val (.int 9), .unset, .unset] [(.int 9)]))
    obtain ⟨_, _, ⟨T38, L38, k38, n38⟩, -, X38, ⟨Lc38, hQ38, l38, y38, z38⟩, st38⟩ := Jvm.LawKit.callS X0 hx (y := mY1) hown (mvT hZ (oW hw 1 rfl)) (mvT hZ (oW hw 2 rfl)) (mvT hZ (oW hw 3 rfl)) (mvT hZ (oW hw 4 rfl)) (by decide) (backOf (W := 0) (rm_pick l Z a0 hw [] (9 : Int32) w h0 n0 O0 W ) hZ (oW hw 4 rfl) (oW hw 3 rfl) (by decide) (by decide)) (g := (mkF m 15 #[.val (.int p1), .val (.int p2), .val (.int (p1 &&& (255 : Int32))), .val (.int 9), .unset, .unset] [(.int 9)])) rfl (by rw [hml]; rfl) (argsL := [(.int 9)]) (rest := []) (lenOf pd_1 rfl) rfl (by show 2 * 0 + _ ≤ _; exact Nat.le_of_eq rfl) (hb hby at_15) (fun _ _ => ⟨rfl, e0, (by decide : 0 + 0 ≤ _), (by decide : 0 + 0 ≤ _)⟩)
    dsimp only [Pt.U, Pt.locs, Pt.cells, Pt.slots] at X38 l38 y38 z38 st38 hQ38
    subst l38 y38 z38
    obtain ⟨rfl, Nq38, e38⟩ := hQ38
    have N38 := Fr.app N0 Nq38
    refine oS (fun t k => st38 t k) ?_
    show oG _ _ _ _ _ _ _ (T38.setTop (mkF m 18 #[.val (.int p1), .val (.int p2), .val (.int (p1 &&& (255 : Int32))), .val (.int 9), .unset, .unset] [(.ref (w 11))]))
    try clear st38
    refine oS (fun t k => XS.astore X38.here hx rfl (hb hby at_18) rfl rfl (l' := #[.val (.int p1), .val (.int p2), .val (.int (p1 &&& (255 : Int32))), .val (.int 9), .val (.ref (w 11)), .unset]) rfl k) ?_
    refine oS (fun t k => XS.iloadN X38.here hx rfl (hb hby at_20) rfl k) ?_
    obtain ⟨_, _, ⟨T39, L39, k39, n39⟩, -, X39, ⟨Lc39, hQ39, l39, y39, z39⟩, st39⟩ := Jvm.LawKit.callS X38 hx (y := mY0) hown (mvT hZ (oW hw 8 rfl)) (mvT hZ (oW hw 9 rfl)) (mvT hZ (oW hw 3 rfl)) (mvT hZ (oW hw 10 rfl)) (by decide) (backOf (W := 0) (rm_members l Z a0 hw [] (p1 &&& (255 : Int32))  h0 n0 O0  (own_b p1).1 (own_b p1).2) hZ (oW hw 10 rfl) (oW hw 3 rfl) (by decide) (by decide)) (g := (mkF m 21 #[.val (.int p1), .val (.int p2), .val (.int (p1 &&& (255 : Int32))), .val (.int 9), .val (.ref (w 11)), .unset] [(.int (p1 &&& (255 : Int32)))])) rfl (by rw [hml]; rfl) (argsL := [(.int (p1 &&& (255 : Int32)))]) (rest := []) (lenOf pd_2 rfl) rfl (by show 2 * 0 + _ ≤ _; exact Nat.le_of_eq rfl) (hb hby at_21) (fun _ _ => ⟨rfl, e38, (by decide : 0 + 0 ≤ _), (by decide : 0 + 0 ≤ _)⟩)
    dsimp only [Pt.U, Pt.locs, Pt.cells, Pt.slots] at X39 l39 y39 z39 st39 hQ39
    subst l39 y39 z39
    obtain ⟨rfl, Nq39, e39⟩ := hQ39
    have N39 := Fr.app N38 Nq39
    refine oS (fun t k => st39 t k) ?_
    show oG _ _ _ _ _ _ _ (T39.setTop (mkF m 24 #[.val (.int p1), .val (.int p2), .val (.int (p1 &&& (255 : Int32))), .val (.int 9), .val (.ref (w 11)), .unset] [(.int (own_mem (p1 &&& (255 : Int32))))]))
    try clear st39 X38 e38
    refine oS (fun t k => XS.iloadN X39.here hx rfl (hb hby at_24) rfl k) ?_
    refine oS (fun t k => XS.ishr X39.here hx rfl (hb hby at_25) rfl k) ?_
    refine oS (fun t k => oIc li_1 X39.here hx rfl (hb hby at_26) k) ?_
    show oG _ _ _ _ _ _ _ (T39.setTop (mkF m 27 #[.val (.int p1), .val (.int p2), .val (.int (p1 &&& (255 : Int32))), .val (.int 9), .val (.ref (w 11)), .unset] [(.int 1), (.int ((own_mem (p1 &&& (255 : Int32))) >>> ((9 : Int32) &&& 31)))]))
    refine oS (fun t k => XS.iand X39.here hx rfl (hb hby at_27) rfl k) ?_
    by_cases hc28 : (((own_mem (p1 &&& (255 : Int32))) >>> ((9 : Int32) &&& 31)) &&& (1 : Int32)) = (0 : Int32)
    · refine oS (fun t k => XS.ifYes X39.here hx rfl (pc0 := 28) (pc' := 35) rfl (hb hby at_28) rfl ((if0 _ _).trans (teq hc28).1) (by decide) (by decide) k) ?_
      refine oS (fun t k => oIc li_0 X39.here hx rfl (hb hby at_35) k) ?_
      show oG _ _ _ _ _ _ _ (T39.setTop (mkF m 36 #[.val (.int p1), .val (.int p2), .val (.int (p1 &&& (255 : Int32))), .val (.int 9), .val (.ref (w 11)), .unset] [(.int 0)]))
      refine oS (fun t k => XS.istore X39.here hx rfl (hb hby at_36) rfl (l' := #[.val (.int p1), .val (.int p2), .val (.int (p1 &&& (255 : Int32))), .val (.int 9), .val (.ref (w 11)), .val (.int 0)]) rfl k) ?_
      refine oS (fun t k => XS.aload X39.here hx rfl (hb hby at_38) rfl rfl k) ?_
      refine oS (fun t k => XS.iloadN X39.here hx rfl (hb hby at_40) rfl k) ?_
      show oG _ _ _ _ _ _ _ (T39.setTop (mkF m 41 #[.val (.int p1), .val (.int p2), .val (.int (p1 &&& (255 : Int32))), .val (.int 9), .val (.ref (w 11)), .val (.int 0)] [(.int (p1 &&& (255 : Int32))), (.ref (w 11))]))
      obtain ⟨cq40, kq40, q40a, q40b, q40c⟩ := isOf hZ e39 ((wE11 W).ext O0.2)
      obtain ⟨_, _, ⟨T40, L40, k40, n40⟩, -, X40, ⟨Lc40, hQ40, l40, y40, z40⟩, st40⟩ := X39.virtualBack hx (y := mY4) (z := mY4) hown (mvT hZ (oW hw 11 rfl)) (mvT hZ (oW hw 12 rfl)) (notFace_of_selects (args := #[]) (mvT hZ (oW hw 14 rfl))) (mvT hZ (oW hw 14 rfl)) (mvT hZ (oW hw 13 rfl)) (by decide) (backOf (W := 0) (rm_con_SPACE l Z a0 hw [] (p1 &&& (255 : Int32)) w h0 n0 O0 W (own_b p1).1 (own_b p1).2) hZ (oW hw 15 rfl) (oW hw 6 rfl) (by decide) (by decide)) q40a q40c (g := (mkF m 41 #[.val (.int p1), .val (.int p2), .val (.int (p1 &&& (255 : Int32))), .val (.int 9), .val (.ref (w 11)), .val (.int 0)] [(.int (p1 &&& (255 : Int32))), (.ref (w 11))])) rfl (by rw [hml]; rfl) (Steps.refl _) (argsL := [(.int (p1 &&& (255 : Int32)))]) (rest := []) (lenOf pd_3 rfl) rfl (by show 2 * 0 + _ ≤ _; exact Nat.le_of_eq rfl) (hb hby at_41) (fun _ _ => ⟨rfl, e39, (by decide : 0 + 0 ≤ _), (by decide : 0 + 0 ≤ _)⟩)
      dsimp only [Pt.U, Pt.locs, Pt.cells, Pt.slots] at X40 l40 y40 z40 st40 hQ40
      subst l40 y40 z40
      obtain ⟨rfl, Nq40, e40⟩ := hQ40
      have N40 := Fr.app N39 Nq40
      refine oS (fun t k => st40.trans k) ?_
      show oG _ _ _ _ _ _ _ (T40.setTop (mkF m 44 #[.val (.int p1), .val (.int p2), .val (.int (p1 &&& (255 : Int32))), .val (.int 9), .val (.ref (w 11)), .val (.int 0)] [(.int (own_in (9 : Int32) (p1 &&& (255 : Int32))))]))
      try clear st40 X39 e39
      refine oS (fun t k => XS.iload X40.here hx rfl (hb hby at_44) rfl k) ?_
      refine oS (fun t k => XS.icmpNo X40.here hx rfl (hb hby at_46) rfl (teq (if_pos hc28)).2 k) ?_
      refine oS (fun t k => oIc li_1 X40.here hx rfl (hb hby at_49) k) ?_
      show oG _ _ _ _ _ _ _ (T40.setTop (mkF m 50 #[.val (.int p1), .val (.int p2), .val (.int (p1 &&& (255 : Int32))), .val (.int 9), .val (.ref (w 11)), .val (.int 0)] [(.int 1)]))
      refine oS (fun t k => XS.goto X40.here hx rfl (pc0 := 50) (pc' := 54) rfl (hb hby at_50) (by decide) (by decide) k) ?_
      exact own_ret (v := some (.int 1)) X40 (fun h => by rw [Bd.returns] at h; cases h) Bd.notSynchronized (fun fs hr => retN X40 hx (t := .boolean) Bd.returns (by simp) (hb hby at_54) hr) (by rw [e40]; exact ⟨rfl, N40⟩) (by decide) (by decide)
    · refine oS (fun t k => XS.ifNo X39.here hx rfl (hb hby at_28) rfl ((if0 _ _).trans (feq hc28).1) k) ?_
      refine oS (fun t k => oIc li_1 X39.here hx rfl (hb hby at_31) k) ?_
      show oG _ _ _ _ _ _ _ (T39.setTop (mkF m 32 #[.val (.int p1), .val (.int p2), .val (.int (p1 &&& (255 : Int32))), .val (.int 9), .val (.ref (w 11)), .unset] [(.int 1)]))
      refine oS (fun t k => XS.goto X39.here hx rfl (pc0 := 32) (pc' := 36) rfl (hb hby at_32) (by decide) (by decide) k) ?_
      refine oS (fun t k => XS.istore X39.here hx rfl (hb hby at_36) rfl (l' := #[.val (.int p1), .val (.int p2), .val (.int (p1 &&& (255 : Int32))), .val (.int 9), .val (.ref (w 11)), .val (.int 1)]) rfl k) ?_
      refine oS (fun t k => XS.aload X39.here hx rfl (hb hby at_38) rfl rfl k) ?_
      show oG _ _ _ _ _ _ _ (T39.setTop (mkF m 40 #[.val (.int p1), .val (.int p2), .val (.int (p1 &&& (255 : Int32))), .val (.int 9), .val (.ref (w 11)), .val (.int 1)] [(.ref (w 11))]))
      refine oS (fun t k => XS.iloadN X39.here hx rfl (hb hby at_40) rfl k) ?_
      obtain ⟨cq41, kq41, q41a, q41b, q41c⟩ := isOf hZ e39 ((wE11 W).ext O0.2)
      obtain ⟨_, _, ⟨T41, L41, k41, n41⟩, -, X41, ⟨Lc41, hQ41, l41, y41, z41⟩, st41⟩ := X39.virtualBack hx (y := mY4) (z := mY4) hown (mvT hZ (oW hw 11 rfl)) (mvT hZ (oW hw 12 rfl)) (notFace_of_selects (args := #[]) (mvT hZ (oW hw 14 rfl))) (mvT hZ (oW hw 14 rfl)) (mvT hZ (oW hw 13 rfl)) (by decide) (backOf (W := 0) (rm_con_SPACE l Z a0 hw [] (p1 &&& (255 : Int32)) w h0 n0 O0 W (own_b p1).1 (own_b p1).2) hZ (oW hw 15 rfl) (oW hw 6 rfl) (by decide) (by decide)) q41a q41c (g := (mkF m 41 #[.val (.int p1), .val (.int p2), .val (.int (p1 &&& (255 : Int32))), .val (.int 9), .val (.ref (w 11)), .val (.int 1)] [(.int (p1 &&& (255 : Int32))), (.ref (w 11))])) rfl (by rw [hml]; rfl) (Steps.refl _) (argsL := [(.int (p1 &&& (255 : Int32)))]) (rest := []) (lenOf pd_3 rfl) rfl (by show 2 * 0 + _ ≤ _; exact Nat.le_of_eq rfl) (hb hby at_41) (fun _ _ => ⟨rfl, e39, (by decide : 0 + 0 ≤ _), (by decide : 0 + 0 ≤ _)⟩)
      dsimp only [Pt.U, Pt.locs, Pt.cells, Pt.slots] at X41 l41 y41 z41 st41 hQ41
      subst l41 y41 z41
      obtain ⟨rfl, Nq41, e41⟩ := hQ41
      have N41 := Fr.app N39 Nq41
      refine oS (fun t k => st41.trans k) ?_
      show oG _ _ _ _ _ _ _ (T41.setTop (mkF m 44 #[.val (.int p1), .val (.int p2), .val (.int (p1 &&& (255 : Int32))), .val (.int 9), .val (.ref (w 11)), .val (.int 1)] [(.int (own_in (9 : Int32) (p1 &&& (255 : Int32))))]))
      try clear st41 X39 e39
      refine oS (fun t k => XS.iload X41.here hx rfl (hb hby at_44) rfl k) ?_
      refine oS (fun t k => XS.icmpNo X41.here hx rfl (hb hby at_46) rfl (teq (if_neg hc28)).2 k) ?_
      refine oS (fun t k => oIc li_1 X41.here hx rfl (hb hby at_49) k) ?_
      show oG _ _ _ _ _ _ _ (T41.setTop (mkF m 50 #[.val (.int p1), .val (.int p2), .val (.int (p1 &&& (255 : Int32))), .val (.int 9), .val (.ref (w 11)), .val (.int 1)] [(.int 1)]))
      refine oS (fun t k => XS.goto X41.here hx rfl (pc0 := 50) (pc' := 54) rfl (hb hby at_50) (by decide) (by decide) k) ?_
      exact own_ret (v := some (.int 1)) X41 (fun h => by rw [Bd.returns] at h; cases h) Bd.notSynchronized (fun fs hr => retN X41 hx (t := .boolean) Bd.returns (by simp) (hb hby at_54) hr) (by rw [e41]; exact ⟨rfl, N41⟩) (by decide) (by decide)
  · rw [hs1]
    show oG _ _ _ _ _ _ _ (s₁.setTop (mkF m 15 #[.val (.int p1), .val (.int p2), .val (.int (p1 &&& (255 : Int32))), .val (.int 10), .unset, .unset] [(.int 10)]))
    obtain ⟨_, _, ⟨T42, L42, k42, n42⟩, -, X42, ⟨Lc42, hQ42, l42, y42, z42⟩, st42⟩ := Jvm.LawKit.callS X0 hx (y := mY1) hown (mvT hZ (oW hw 1 rfl)) (mvT hZ (oW hw 2 rfl)) (mvT hZ (oW hw 3 rfl)) (mvT hZ (oW hw 4 rfl)) (by decide) (backOf (W := 0) (rm_pick l Z a0 hw [] (10 : Int32) w h0 n0 O0 W ) hZ (oW hw 4 rfl) (oW hw 3 rfl) (by decide) (by decide)) (g := (mkF m 15 #[.val (.int p1), .val (.int p2), .val (.int (p1 &&& (255 : Int32))), .val (.int 10), .unset, .unset] [(.int 10)])) rfl (by rw [hml]; rfl) (argsL := [(.int 10)]) (rest := []) (lenOf pd_1 rfl) rfl (by show 2 * 0 + _ ≤ _; exact Nat.le_of_eq rfl) (hb hby at_15) (fun _ _ => ⟨rfl, e0, (by decide : 0 + 0 ≤ _), (by decide : 0 + 0 ≤ _)⟩)
    dsimp only [Pt.U, Pt.locs, Pt.cells, Pt.slots] at X42 l42 y42 z42 st42 hQ42
    subst l42 y42 z42
    obtain ⟨rfl, Nq42, e42⟩ := hQ42
    have N42 := Fr.app N0 Nq42
    refine oS (fun t k => st42 t k) ?_
    show oG _ _ _ _ _ _ _ (T42.setTop (mkF m 18 #[.val (.int p1), .val (.int p2), .val (.int (p1 &&& (255 : Int32))), .val (.int 10), .unset, .unset] [(.ref (w 8))]))
    try clear st42
    refine oS (fun t k => XS.astore X42.here hx rfl (hb hby at_18) rfl rfl (l' := #[.val (.int p1), .val (.int p2), .val (.int (p1 &&& (255 : Int32))), .val (.int 10), .val (.ref (w 8)), .unset]) rfl k) ?_
    refine oS (fun t k => XS.iloadN X42.here hx rfl (hb hby at_20) rfl k) ?_
    obtain ⟨_, _, ⟨T43, L43, k43, n43⟩, -, X43, ⟨Lc43, hQ43, l43, y43, z43⟩, st43⟩ := Jvm.LawKit.callS X42 hx (y := mY0) hown (mvT hZ (oW hw 8 rfl)) (mvT hZ (oW hw 9 rfl)) (mvT hZ (oW hw 3 rfl)) (mvT hZ (oW hw 10 rfl)) (by decide) (backOf (W := 0) (rm_members l Z a0 hw [] (p1 &&& (255 : Int32))  h0 n0 O0  (own_b p1).1 (own_b p1).2) hZ (oW hw 10 rfl) (oW hw 3 rfl) (by decide) (by decide)) (g := (mkF m 21 #[.val (.int p1), .val (.int p2), .val (.int (p1 &&& (255 : Int32))), .val (.int 10), .val (.ref (w 8)), .unset] [(.int (p1 &&& (255 : Int32)))])) rfl (by rw [hml]; rfl) (argsL := [(.int (p1 &&& (255 : Int32)))]) (rest := []) (lenOf pd_2 rfl) rfl (by show 2 * 0 + _ ≤ _; exact Nat.le_of_eq rfl) (hb hby at_21) (fun _ _ => ⟨rfl, e42, (by decide : 0 + 0 ≤ _), (by decide : 0 + 0 ≤ _)⟩)
    dsimp only [Pt.U, Pt.locs, Pt.cells, Pt.slots] at X43 l43 y43 z43 st43 hQ43
    subst l43 y43 z43
    obtain ⟨rfl, Nq43, e43⟩ := hQ43
    have N43 := Fr.app N42 Nq43
    refine oS (fun t k => st43 t k) ?_
    show oG _ _ _ _ _ _ _ (T43.setTop (mkF m 24 #[.val (.int p1), .val (.int p2), .val (.int (p1 &&& (255 : Int32))), .val (.int 10), .val (.ref (w 8)), .unset] [(.int (own_mem (p1 &&& (255 : Int32))))]))
    try clear st43 X42 e42
    refine oS (fun t k => XS.iloadN X43.here hx rfl (hb hby at_24) rfl k) ?_
    refine oS (fun t k => XS.ishr X43.here hx rfl (hb hby at_25) rfl k) ?_
    refine oS (fun t k => oIc li_1 X43.here hx rfl (hb hby at_26) k) ?_
    show oG _ _ _ _ _ _ _ (T43.setTop (mkF m 27 #[.val (.int p1), .val (.int p2), .val (.int (p1 &&& (255 : Int32))), .val (.int 10), .val (.ref (w 8)), .unset] [(.int 1), (.int ((own_mem (p1 &&& (255 : Int32))) >>> ((10 : Int32) &&& 31)))]))
    refine oS (fun t k => XS.iand X43.here hx rfl (hb hby at_27) rfl k) ?_
    by_cases hc28 : (((own_mem (p1 &&& (255 : Int32))) >>> ((10 : Int32) &&& 31)) &&& (1 : Int32)) = (0 : Int32)
    · refine oS (fun t k => XS.ifYes X43.here hx rfl (pc0 := 28) (pc' := 35) rfl (hb hby at_28) rfl ((if0 _ _).trans (teq hc28).1) (by decide) (by decide) k) ?_
      refine oS (fun t k => oIc li_0 X43.here hx rfl (hb hby at_35) k) ?_
      show oG _ _ _ _ _ _ _ (T43.setTop (mkF m 36 #[.val (.int p1), .val (.int p2), .val (.int (p1 &&& (255 : Int32))), .val (.int 10), .val (.ref (w 8)), .unset] [(.int 0)]))
      refine oS (fun t k => XS.istore X43.here hx rfl (hb hby at_36) rfl (l' := #[.val (.int p1), .val (.int p2), .val (.int (p1 &&& (255 : Int32))), .val (.int 10), .val (.ref (w 8)), .val (.int 0)]) rfl k) ?_
      refine oS (fun t k => XS.aload X43.here hx rfl (hb hby at_38) rfl rfl k) ?_
      refine oS (fun t k => XS.iloadN X43.here hx rfl (hb hby at_40) rfl k) ?_
      show oG _ _ _ _ _ _ _ (T43.setTop (mkF m 41 #[.val (.int p1), .val (.int p2), .val (.int (p1 &&& (255 : Int32))), .val (.int 10), .val (.ref (w 8)), .val (.int 0)] [(.int (p1 &&& (255 : Int32))), (.ref (w 8))]))
      obtain ⟨cq44, kq44, q44a, q44b, q44c⟩ := isOf hZ e43 ((wE8 W).ext O0.2)
      obtain ⟨_, _, ⟨T44, L44, k44, n44⟩, -, X44, ⟨Lc44, hQ44, l44, y44, z44⟩, st44⟩ := X43.virtualBack hx (y := mY4) (z := mY4) hown (mvT hZ (oW hw 11 rfl)) (mvT hZ (oW hw 12 rfl)) (notFace_of_selects (args := #[]) (mvT hZ (oW hw 14 rfl))) (mvT hZ (oW hw 14 rfl)) (mvT hZ (oW hw 13 rfl)) (by decide) (backOf (W := 0) (rm_con_UPPER l Z a0 hw [] (p1 &&& (255 : Int32)) w h0 n0 O0 W (own_b p1).1 (own_b p1).2) hZ (oW hw 15 rfl) (oW hw 6 rfl) (by decide) (by decide)) q44a q44c (g := (mkF m 41 #[.val (.int p1), .val (.int p2), .val (.int (p1 &&& (255 : Int32))), .val (.int 10), .val (.ref (w 8)), .val (.int 0)] [(.int (p1 &&& (255 : Int32))), (.ref (w 8))])) rfl (by rw [hml]; rfl) (Steps.refl _) (argsL := [(.int (p1 &&& (255 : Int32)))]) (rest := []) (lenOf pd_3 rfl) rfl (by show 2 * 0 + _ ≤ _; exact Nat.le_of_eq rfl) (hb hby at_41) (fun _ _ => ⟨rfl, e43, (by decide : 0 + 0 ≤ _), (by decide : 0 + 0 ≤ _)⟩)
      dsimp only [Pt.U, Pt.locs, Pt.cells, Pt.slots] at X44 l44 y44 z44 st44 hQ44
      subst l44 y44 z44
      obtain ⟨rfl, Nq44, e44⟩ := hQ44
      have N44 := Fr.app N43 Nq44
      refine oS (fun t k => st44.trans k) ?_
      show oG _ _ _ _ _ _ _ (T44.setTop (mkF m 44 #[.val (.int p1), .val (.int p2), .val (.int (p1 &&& (255 : Int32))), .val (.int 10), .val (.ref (w 8)), .val (.int 0)] [(.int (own_in (10 : Int32) (p1 &&& (255 : Int32))))]))
      try clear st44 X43 e43
      refine oS (fun t k => XS.iload X44.here hx rfl (hb hby at_44) rfl k) ?_
      refine oS (fun t k => XS.icmpNo X44.here hx rfl (hb hby at_46) rfl (teq (if_pos hc28)).2 k) ?_
      refine oS (fun t k => oIc li_1 X44.here hx rfl (hb hby at_49) k) ?_
      show oG _ _ _ _ _ _ _ (T44.setTop (mkF m 50 #[.val (.int p1), .val (.int p2), .val (.int (p1 &&& (255 : Int32))), .val (.int 10), .val (.ref (w 8)), .val (.int 0)] [(.int 1)]))
      refine oS (fun t k => XS.goto X44.here hx rfl (pc0 := 50) (pc' := 54) rfl (hb hby at_50) (by decide) (by decide) k) ?_
      exact own_ret (v := some (.int 1)) X44 (fun h => by rw [Bd.returns] at h; cases h) Bd.notSynchronized (fun fs hr => retN X44 hx (t := .boolean) Bd.returns (by simp) (hb hby at_54) hr) (by rw [e44]; exact ⟨rfl, N44⟩) (by decide) (by decide)
    · refine oS (fun t k => XS.ifNo X43.here hx rfl (hb hby at_28) rfl ((if0 _ _).trans (feq hc28).1) k) ?_
      refine oS (fun t k => oIc li_1 X43.here hx rfl (hb hby at_31) k) ?_
      show oG _ _ _ _ _ _ _ (T43.setTop (mkF m 32 #[.val (.int p1), .val (.int p2), .val (.int (p1 &&& (255 : Int32))), .val (.int 10), .val (.ref (w 8)), .unset] [(.int 1)]))
      refine oS (fun t k => XS.goto X43.here hx rfl (pc0 := 32) (pc' := 36) rfl (hb hby at_32) (by decide) (by decide) k) ?_
      refine oS (fun t k => XS.istore X43.here hx rfl (hb hby at_36) rfl (l' := #[.val (.int p1), .val (.int p2), .val (.int (p1 &&& (255 : Int32))), .val (.int 10), .val (.ref (w 8)), .val (.int 1)]) rfl k) ?_
      refine oS (fun t k => XS.aload X43.here hx rfl (hb hby at_38) rfl rfl k) ?_
      show oG _ _ _ _ _ _ _ (T43.setTop (mkF m 40 #[.val (.int p1), .val (.int p2), .val (.int (p1 &&& (255 : Int32))), .val (.int 10), .val (.ref (w 8)), .val (.int 1)] [(.ref (w 8))]))
      refine oS (fun t k => XS.iloadN X43.here hx rfl (hb hby at_40) rfl k) ?_
      obtain ⟨cq45, kq45, q45a, q45b, q45c⟩ := isOf hZ e43 ((wE8 W).ext O0.2)
      obtain ⟨_, _, ⟨T45, L45, k45, n45⟩, -, X45, ⟨Lc45, hQ45, l45, y45, z45⟩, st45⟩ := X43.virtualBack hx (y := mY4) (z := mY4) hown (mvT hZ (oW hw 11 rfl)) (mvT hZ (oW hw 12 rfl)) (notFace_of_selects (args := #[]) (mvT hZ (oW hw 14 rfl))) (mvT hZ (oW hw 14 rfl)) (mvT hZ (oW hw 13 rfl)) (by decide) (backOf (W := 0) (rm_con_UPPER l Z a0 hw [] (p1 &&& (255 : Int32)) w h0 n0 O0 W (own_b p1).1 (own_b p1).2) hZ (oW hw 15 rfl) (oW hw 6 rfl) (by decide) (by decide)) q45a q45c (g := (mkF m 41 #[.val (.int p1), .val (.int p2), .val (.int (p1 &&& (255 : Int32))), .val (.int 10), .val (.ref (w 8)), .val (.int 1)] [(.int (p1 &&& (255 : Int32))), (.ref (w 8))])) rfl (by rw [hml]; rfl) (Steps.refl _) (argsL := [(.int (p1 &&& (255 : Int32)))]) (rest := []) (lenOf pd_3 rfl) rfl (by show 2 * 0 + _ ≤ _; exact Nat.le_of_eq rfl) (hb hby at_41) (fun _ _ => ⟨rfl, e43, (by decide : 0 + 0 ≤ _), (by decide : 0 + 0 ≤ _)⟩)
      dsimp only [Pt.U, Pt.locs, Pt.cells, Pt.slots] at X45 l45 y45 z45 st45 hQ45
      subst l45 y45 z45
      obtain ⟨rfl, Nq45, e45⟩ := hQ45
      have N45 := Fr.app N43 Nq45
      refine oS (fun t k => st45.trans k) ?_
      show oG _ _ _ _ _ _ _ (T45.setTop (mkF m 44 #[.val (.int p1), .val (.int p2), .val (.int (p1 &&& (255 : Int32))), .val (.int 10), .val (.ref (w 8)), .val (.int 1)] [(.int (own_in (10 : Int32) (p1 &&& (255 : Int32))))]))
      try clear st45 X43 e43
      refine oS (fun t k => XS.iload X45.here hx rfl (hb hby at_44) rfl k) ?_
      refine oS (fun t k => XS.icmpNo X45.here hx rfl (hb hby at_46) rfl (teq (if_neg hc28)).2 k) ?_
      refine oS (fun t k => oIc li_1 X45.here hx rfl (hb hby at_49) k) ?_
      show oG _ _ _ _ _ _ _ (T45.setTop (mkF m 50 #[.val (.int p1), .val (.int p2), .val (.int (p1 &&& (255 : Int32))), .val (.int 10), .val (.ref (w 8)), .val (.int 1)] [(.int 1)]))
      refine oS (fun t k => XS.goto X45.here hx rfl (pc0 := 50) (pc' := 54) rfl (hb hby at_50) (by decide) (by decide) k) ?_
      exact own_ret (v := some (.int 1)) X45 (fun h => by rw [Bd.returns] at h; cases h) Bd.notSynchronized (fun fs hr => retN X45 hx (t := .boolean) Bd.returns (by simp) (hb hby at_54) hr) (by rw [e45]; exact ⟨rfl, N45⟩) (by decide) (by decide)
  · rw [hs1]
    show oG _ _ _ _ _ _ _ (s₁.setTop (mkF m 15 #[.val (.int p1), .val (.int p2), .val (.int (p1 &&& (255 : Int32))), .val (.int 11), .unset, .unset] [(.int 11)]))
    obtain ⟨_, _, ⟨T46, L46, k46, n46⟩, -, X46, ⟨Lc46, hQ46, l46, y46, z46⟩, st46⟩ := Jvm.LawKit.callS X0 hx (y := mY1) hown (mvT hZ (oW hw 1 rfl)) (mvT hZ (oW hw 2 rfl)) (mvT hZ (oW hw 3 rfl)) (mvT hZ (oW hw 4 rfl)) (by decide) (backOf (W := 0) (rm_pick l Z a0 hw [] (11 : Int32) w h0 n0 O0 W ) hZ (oW hw 4 rfl) (oW hw 3 rfl) (by decide) (by decide)) (g := (mkF m 15 #[.val (.int p1), .val (.int p2), .val (.int (p1 &&& (255 : Int32))), .val (.int 11), .unset, .unset] [(.int 11)])) rfl (by rw [hml]; rfl) (argsL := [(.int 11)]) (rest := []) (lenOf pd_1 rfl) rfl (by show 2 * 0 + _ ≤ _; exact Nat.le_of_eq rfl) (hb hby at_15) (fun _ _ => ⟨rfl, e0, (by decide : 0 + 0 ≤ _), (by decide : 0 + 0 ≤ _)⟩)
    dsimp only [Pt.U, Pt.locs, Pt.cells, Pt.slots] at X46 l46 y46 z46 st46 hQ46
    subst l46 y46 z46
    obtain ⟨rfl, Nq46, e46⟩ := hQ46
    have N46 := Fr.app N0 Nq46
    refine oS (fun t k => st46 t k) ?_
    show oG _ _ _ _ _ _ _ (T46.setTop (mkF m 18 #[.val (.int p1), .val (.int p2), .val (.int (p1 &&& (255 : Int32))), .val (.int 11), .unset, .unset] [(.ref (w 2))]))
    try clear st46
    refine oS (fun t k => XS.astore X46.here hx rfl (hb hby at_18) rfl rfl (l' := #[.val (.int p1), .val (.int p2), .val (.int (p1 &&& (255 : Int32))), .val (.int 11), .val (.ref (w 2)), .unset]) rfl k) ?_
    refine oS (fun t k => XS.iloadN X46.here hx rfl (hb hby at_20) rfl k) ?_
    obtain ⟨_, _, ⟨T47, L47, k47, n47⟩, -, X47, ⟨Lc47, hQ47, l47, y47, z47⟩, st47⟩ := Jvm.LawKit.callS X46 hx (y := mY0) hown (mvT hZ (oW hw 8 rfl)) (mvT hZ (oW hw 9 rfl)) (mvT hZ (oW hw 3 rfl)) (mvT hZ (oW hw 10 rfl)) (by decide) (backOf (W := 0) (rm_members l Z a0 hw [] (p1 &&& (255 : Int32))  h0 n0 O0  (own_b p1).1 (own_b p1).2) hZ (oW hw 10 rfl) (oW hw 3 rfl) (by decide) (by decide)) (g := (mkF m 21 #[.val (.int p1), .val (.int p2), .val (.int (p1 &&& (255 : Int32))), .val (.int 11), .val (.ref (w 2)), .unset] [(.int (p1 &&& (255 : Int32)))])) rfl (by rw [hml]; rfl) (argsL := [(.int (p1 &&& (255 : Int32)))]) (rest := []) (lenOf pd_2 rfl) rfl (by show 2 * 0 + _ ≤ _; exact Nat.le_of_eq rfl) (hb hby at_21) (fun _ _ => ⟨rfl, e46, (by decide : 0 + 0 ≤ _), (by decide : 0 + 0 ≤ _)⟩)
    dsimp only [Pt.U, Pt.locs, Pt.cells, Pt.slots] at X47 l47 y47 z47 st47 hQ47
    subst l47 y47 z47
    obtain ⟨rfl, Nq47, e47⟩ := hQ47
    have N47 := Fr.app N46 Nq47
    refine oS (fun t k => st47 t k) ?_
    show oG _ _ _ _ _ _ _ (T47.setTop (mkF m 24 #[.val (.int p1), .val (.int p2), .val (.int (p1 &&& (255 : Int32))), .val (.int 11), .val (.ref (w 2)), .unset] [(.int (own_mem (p1 &&& (255 : Int32))))]))
    try clear st47 X46 e46
    refine oS (fun t k => XS.iloadN X47.here hx rfl (hb hby at_24) rfl k) ?_
    refine oS (fun t k => XS.ishr X47.here hx rfl (hb hby at_25) rfl k) ?_
    refine oS (fun t k => oIc li_1 X47.here hx rfl (hb hby at_26) k) ?_
    show oG _ _ _ _ _ _ _ (T47.setTop (mkF m 27 #[.val (.int p1), .val (.int p2), .val (.int (p1 &&& (255 : Int32))), .val (.int 11), .val (.ref (w 2)), .unset] [(.int 1), (.int ((own_mem (p1 &&& (255 : Int32))) >>> ((11 : Int32) &&& 31)))]))
    refine oS (fun t k => XS.iand X47.here hx rfl (hb hby at_27) rfl k) ?_
    by_cases hc28 : (((own_mem (p1 &&& (255 : Int32))) >>> ((11 : Int32) &&& 31)) &&& (1 : Int32)) = (0 : Int32)
    · refine oS (fun t k => XS.ifYes X47.here hx rfl (pc0 := 28) (pc' := 35) rfl (hb hby at_28) rfl ((if0 _ _).trans (teq hc28).1) (by decide) (by decide) k) ?_
      refine oS (fun t k => oIc li_0 X47.here hx rfl (hb hby at_35) k) ?_
      show oG _ _ _ _ _ _ _ (T47.setTop (mkF m 36 #[.val (.int p1), .val (.int p2), .val (.int (p1 &&& (255 : Int32))), .val (.int 11), .val (.ref (w 2)), .unset] [(.int 0)]))
      refine oS (fun t k => XS.istore X47.here hx rfl (hb hby at_36) rfl (l' := #[.val (.int p1), .val (.int p2), .val (.int (p1 &&& (255 : Int32))), .val (.int 11), .val (.ref (w 2)), .val (.int 0)]) rfl k) ?_
      refine oS (fun t k => XS.aload X47.here hx rfl (hb hby at_38) rfl rfl k) ?_
      refine oS (fun t k => XS.iloadN X47.here hx rfl (hb hby at_40) rfl k) ?_
      show oG _ _ _ _ _ _ _ (T47.setTop (mkF m 41 #[.val (.int p1), .val (.int p2), .val (.int (p1 &&& (255 : Int32))), .val (.int 11), .val (.ref (w 2)), .val (.int 0)] [(.int (p1 &&& (255 : Int32))), (.ref (w 2))]))
      obtain ⟨cq48, kq48, q48a, q48b, q48c⟩ := isOf hZ e47 ((wE2 W).ext O0.2)
      obtain ⟨_, _, ⟨T48, L48, k48, n48⟩, -, X48, ⟨Lc48, hQ48, l48, y48, z48⟩, st48⟩ := X47.virtualBack hx (y := mY4) (z := mY4) hown (mvT hZ (oW hw 11 rfl)) (mvT hZ (oW hw 12 rfl)) (notFace_of_selects (args := #[]) (mvT hZ (oW hw 14 rfl))) (mvT hZ (oW hw 14 rfl)) (mvT hZ (oW hw 13 rfl)) (by decide) (backOf (W := 0) (rm_con_XDIGIT l Z a0 hw [] (p1 &&& (255 : Int32)) w h0 n0 O0 W (own_b p1).1 (own_b p1).2) hZ (oW hw 15 rfl) (oW hw 6 rfl) (by decide) (by decide)) q48a q48c (g := (mkF m 41 #[.val (.int p1), .val (.int p2), .val (.int (p1 &&& (255 : Int32))), .val (.int 11), .val (.ref (w 2)), .val (.int 0)] [(.int (p1 &&& (255 : Int32))), (.ref (w 2))])) rfl (by rw [hml]; rfl) (Steps.refl _) (argsL := [(.int (p1 &&& (255 : Int32)))]) (rest := []) (lenOf pd_3 rfl) rfl (by show 2 * 0 + _ ≤ _; exact Nat.le_of_eq rfl) (hb hby at_41) (fun _ _ => ⟨rfl, e47, (by decide : 0 + 0 ≤ _), (by decide : 0 + 0 ≤ _)⟩)
      dsimp only [Pt.U, Pt.locs, Pt.cells, Pt.slots] at X48 l48 y48 z48 st48 hQ48
      subst l48 y48 z48
      obtain ⟨rfl, Nq48, e48⟩ := hQ48
      have N48 := Fr.app N47 Nq48
      refine oS (fun t k => st48.trans k) ?_
      show oG _ _ _ _ _ _ _ (T48.setTop (mkF m 44 #[.val (.int p1), .val (.int p2), .val (.int (p1 &&& (255 : Int32))), .val (.int 11), .val (.ref (w 2)), .val (.int 0)] [(.int (own_in (11 : Int32) (p1 &&& (255 : Int32))))]))
      try clear st48 X47 e47
      refine oS (fun t k => XS.iload X48.here hx rfl (hb hby at_44) rfl k) ?_
      refine oS (fun t k => XS.icmpNo X48.here hx rfl (hb hby at_46) rfl (teq (if_pos hc28)).2 k) ?_
      refine oS (fun t k => oIc li_1 X48.here hx rfl (hb hby at_49) k) ?_
      show oG _ _ _ _ _ _ _ (T48.setTop (mkF m 50 #[.val (.int p1), .val (.int p2), .val (.int (p1 &&& (255 : Int32))), .val (.int 11), .val (.ref (w 2)), .val (.int 0)] [(.int 1)]))
      refine oS (fun t k => XS.goto X48.here hx rfl (pc0 := 50) (pc' := 54) rfl (hb hby at_50) (by decide) (by decide) k) ?_
      exact own_ret (v := some (.int 1)) X48 (fun h => by rw [Bd.returns] at h; cases h) Bd.notSynchronized (fun fs hr => retN X48 hx (t := .boolean) Bd.returns (by simp) (hb hby at_54) hr) (by rw [e48]; exact ⟨rfl, N48⟩) (by decide) (by decide)
    · refine oS (fun t k => XS.ifNo X47.here hx rfl (hb hby at_28) rfl ((if0 _ _).trans (feq hc28).1) k) ?_
      refine oS (fun t k => oIc li_1 X47.here hx rfl (hb hby at_31) k) ?_
      show oG _ _ _ _ _ _ _ (T47.setTop (mkF m 32 #[.val (.int p1), .val (.int p2), .val (.int (p1 &&& (255 : Int32))), .val (.int 11), .val (.ref (w 2)), .unset] [(.int 1)]))
      refine oS (fun t k => XS.goto X47.here hx rfl (pc0 := 32) (pc' := 36) rfl (hb hby at_32) (by decide) (by decide) k) ?_
      refine oS (fun t k => XS.istore X47.here hx rfl (hb hby at_36) rfl (l' := #[.val (.int p1), .val (.int p2), .val (.int (p1 &&& (255 : Int32))), .val (.int 11), .val (.ref (w 2)), .val (.int 1)]) rfl k) ?_
      refine oS (fun t k => XS.aload X47.here hx rfl (hb hby at_38) rfl rfl k) ?_
      show oG _ _ _ _ _ _ _ (T47.setTop (mkF m 40 #[.val (.int p1), .val (.int p2), .val (.int (p1 &&& (255 : Int32))), .val (.int 11), .val (.ref (w 2)), .val (.int 1)] [(.ref (w 2))]))
      refine oS (fun t k => XS.iloadN X47.here hx rfl (hb hby at_40) rfl k) ?_
      obtain ⟨cq49, kq49, q49a, q49b, q49c⟩ := isOf hZ e47 ((wE2 W).ext O0.2)
      obtain ⟨_, _, ⟨T49, L49, k49, n49⟩, -, X49, ⟨Lc49, hQ49, l49, y49, z49⟩, st49⟩ := X47.virtualBack hx (y := mY4) (z := mY4) hown (mvT hZ (oW hw 11 rfl)) (mvT hZ (oW hw 12 rfl)) (notFace_of_selects (args := #[]) (mvT hZ (oW hw 14 rfl))) (mvT hZ (oW hw 14 rfl)) (mvT hZ (oW hw 13 rfl)) (by decide) (backOf (W := 0) (rm_con_XDIGIT l Z a0 hw [] (p1 &&& (255 : Int32)) w h0 n0 O0 W (own_b p1).1 (own_b p1).2) hZ (oW hw 15 rfl) (oW hw 6 rfl) (by decide) (by decide)) q49a q49c (g := (mkF m 41 #[.val (.int p1), .val (.int p2), .val (.int (p1 &&& (255 : Int32))), .val (.int 11), .val (.ref (w 2)), .val (.int 1)] [(.int (p1 &&& (255 : Int32))), (.ref (w 2))])) rfl (by rw [hml]; rfl) (Steps.refl _) (argsL := [(.int (p1 &&& (255 : Int32)))]) (rest := []) (lenOf pd_3 rfl) rfl (by show 2 * 0 + _ ≤ _; exact Nat.le_of_eq rfl) (hb hby at_41) (fun _ _ => ⟨rfl, e47, (by decide : 0 + 0 ≤ _), (by decide : 0 + 0 ≤ _)⟩)
      dsimp only [Pt.U, Pt.locs, Pt.cells, Pt.slots] at X49 l49 y49 z49 st49 hQ49
      subst l49 y49 z49
      obtain ⟨rfl, Nq49, e49⟩ := hQ49
      have N49 := Fr.app N47 Nq49
      refine oS (fun t k => st49.trans k) ?_
      show oG _ _ _ _ _ _ _ (T49.setTop (mkF m 44 #[.val (.int p1), .val (.int p2), .val (.int (p1 &&& (255 : Int32))), .val (.int 11), .val (.ref (w 2)), .val (.int 1)] [(.int (own_in (11 : Int32) (p1 &&& (255 : Int32))))]))
      try clear st49 X47 e47
      refine oS (fun t k => XS.iload X49.here hx rfl (hb hby at_44) rfl k) ?_
      refine oS (fun t k => XS.icmpNo X49.here hx rfl (hb hby at_46) rfl (teq (if_neg hc28)).2 k) ?_
      refine oS (fun t k => oIc li_1 X49.here hx rfl (hb hby at_49) k) ?_
      show oG _ _ _ _ _ _ _ (T49.setTop (mkF m 50 #[.val (.int p1), .val (.int p2), .val (.int (p1 &&& (255 : Int32))), .val (.int 11), .val (.ref (w 2)), .val (.int 1)] [(.int 1)]))
      refine oS (fun t k => XS.goto X49.here hx rfl (pc0 := 50) (pc' := 54) rfl (hb hby at_50) (by decide) (by decide) k) ?_
      exact own_ret (v := some (.int 1)) X49 (fun h => by rw [Bd.returns] at h; cases h) Bd.notSynchronized (fun fs hr => retN X49 hx (t := .boolean) Bd.returns (by simp) (hb hby at_54) hr) (by rw [e49]; exact ⟨rfl, N49⟩) (by decide) (by decide)
set_option maxRecDepth 65536 in
set_option maxHeartbeats 40000000 in
theorem comes_1 {Post : Tables → Env → Array Value → State → Outcome → State → Prop} (hpost : ∀ tb e args s v u, (limb_1_1.after args s (.returned v) u = true ∧ limb_1_2.after args s (.returned v) u = true ∧ True) → FrameEnd s (.returned v) u (Jvm.fieldLocs frame_1_writes args s ++ Jvm.arrayLocs frame_1_arrays args s ++ Jvm.staticLocs frame_1_statics s) 0 0 → Post tb e args s (.returned v) u) :
    ArmFor flags0 classFile x code maxLocals ret World_1 tables_1 room_1 Calls_1 rest_1 Pre_1 Post := by
  intro l hfl _ _ p e ha hc hk s m args below hf hA hF happ hP
  obtain ⟨hcalls, hrest, hpre⟩ := hP
  obtain ⟨-, -, -, hnamed, -, -, -, hat⟩ := (Spec.applies_iff hf).mp happ
  obtain ⟨hg, hn⟩ := and_e (Cond.before_iff.mp (show (Jvm.Cond.and given_1 narrow_1).before args s = true from hpre))
  obtain ⟨g0, g1⟩ := and_e hg
  obtain ⟨g2, g3⟩ := and_e g1
  obtain ⟨w0, w1, rfl⟩ : ∃ w0 w1 : Value, args = #[w0, w1] := by
    have hs : args.size = 2 := by simpa [Cond.value, given_1] using g0
    obtain ⟨L⟩ := args
    match L, hs with
    | [w0, w1], _ => exact ⟨w0, w1, rfl⟩
  have hw := fun d (hd : d ∈ tables_1) => atoms_spec (ws := Jvm.Cond.code x code maxLocals ret :: tables_1) hat d (List.mem_cons_of_mem _ hd)
  have hfit : Fit s := fun {y c} hc i hi => by
    obtain ⟨ha, rfl⟩ := Array.getElem?_eq_some_iff.mp hc
    have q := List.all_eq_true.mp ((Array.all_eq_true_iff_forall_mem.mp hF) _ (Array.getElem_mem ha)) i (List.mem_range.mpr hi)
    simpa [Array.getElem?_eq_getElem hi] using q
  obtain ⟨i0, ei0⟩ := is_v g2
  obtain rfl : w0 = (.int i0) := Option.some.inj ei0
  obtain ⟨i1, ei1⟩ := is_v g3
  obtain rfl : w1 = (.int i1) := Option.some.inj ei1
  obtain ⟨w, W⟩ := own_world hw hfit hn
  obtain ⟨n, o, h1, h2, h3, _, L, rfl, ⟨rfl, N⟩, hq⟩ := rm_law l s _ hw tables_1 i0 i1 w s.heap s.heap.size (Old.start s) W  p e ha hc hk s m _ below hf ((Spec.applies_iff_loose hf).mp happ).1 ⟨rfl, State.Warmed39.refl s, rfl⟩ trivial
  refine ⟨n, _, h1, h2, h3, hpost _ _ _ _ _ _ ⟨Cond.after_iff.mpr rfl, Cond.after_iff.mpr (eq_i res_at (Term.int_eval (1)) rfl), trivial⟩ ⟨hq.1, hq.2.1, (hq.2.2.sift fun y hy => Or.inr (N y hy)).mono (by decide) (by decide)⟩⟩
theorem main_1_1 : Claimed_1_1 := comes_1 fun _ _ _ _ _ _ h hF => ⟨h.1, hF⟩
theorem main_1_2 : Claimed_1_2 := comes_1 fun _ _ _ _ _ _ h hF => ⟨h.2.1, hF⟩
end Jvm.Pilot.@@N@@
namespace Jvm.Pilot.@@N@@
open Jvm Jvm.ClassFile Sem Op Lib Jvm.Free Jvm.Stand Jvm.Pilot.@@N@@.Jvm.D
/-! MADE BY PROGRAM (witnessworld.py) out of the Statement's table words and the real class files: 12 classes; the members and pool entries that the words name. The judged class is class 1, her method 3. -/
namespace start1
open Jvm.ClassFile
def u (s : String) : CpInfo := .utf8 (stringToUtf16 s)
/-- a pool by its gaps: so many unusable entries, then the entry; so many at the end -/
def gap : Nat → List CpInfo → List CpInfo
  | 0, r => r
  | n + 1, r => .unusable :: gap n r
def poolList (es : List (Nat × CpInfo)) (last : Nat) : List CpInfo := es.foldr (fun e r => gap e.1 (e.2 :: r)) (gap last [])
def pool (es : List (Nat × CpInfo)) (last : Nat) : Array CpInfo := ⟨poolList es last⟩
def fileOf (pool : Array CpInfo) (this : Nat) (attrs : Array Attribute := #[]) (ms : Array MethodInfo := #[]) (fl : Nat := 33) (sup : Nat := 0) (ifs : Array Nat := #[]) (fds : Array FieldInfo := #[]) : ClassFile where
  minorVersion := 0
  majorVersion := 65
  constantPool := pool
  accessFlags := fl
  thisClass := this
  superClass := sup
  interfaces := ifs
  fields := fds
  methods := ms
  attributes := attrs
def plain (name : String) (sup : Option ClassId) : Class where
  name := name
  kind := .ordinary
  loader := none
  accessFlags := 33
  super := sup
  interfaces := #[]
  cf := none
  fields := #[]
  methods := #[]
  instanceTypes := #[]
  staticTypes := #[]
  resolved := #[]
  callSites := []
  init := .initialized
  statics := none
  mirror := none

def pool0 : Array CpInfo := pool [(5, u "<init>"), (0, u "()V"), (1, .class_ 10), (1, u "java/lang/Object")] 113

def k0m0 : Method := { name := "<init>", desc := "()V", sig := { parameters := [], returnType := none }, accessFlags := 1, code := none }
/-- java/lang/Object -/
def k0 : Class := { plain "java/lang/Object" none with
  accessFlags := 33
  interfaces := #[]
  cf := some (fileOf pool0 8 #[] #[{ accessFlags := 1, nameIndex := 5, descriptorIndex := 6, attributes := #[] }] 33 0 #[] #[])
  fields := #[]
  methods := #[k0m0]
  instanceTypes := #[]
  staticTypes := #[]
  resolved := Array.replicate 124 none
  statics := none }

def pool1 : Array CpInfo := pool [(2, .class_ 4), (1, u "java/lang/Object"), (0, u "<init>"), (0, u "()V"), (0, .fieldref 8 9), (0, .class_ 10), (0, .nameAndType 11 12), (0, u "com/example/lamassu/lamassu/builtin/CharClass"), (0, u "ALNUM"), (0, u "Lcom/example/lamassu/lamassu/builtin/CharClass;"), (0, .fieldref 8 14), (0, .nameAndType 15 12), (0, u "ALPHA"), (0, .fieldref 8 17), (0, .nameAndType 18 12), (0, u "BLANK"), (0, .fieldref 8 20), (0, .nameAndType 21 12), (0, u "CNTRL"), (0, .fieldref 8 23), (0, .nameAndType 24 12), (0, u "DIGIT"), (0, .fieldref 8 26), (0, .nameAndType 27 12), (0, u "GRAPH"), (0, .fieldref 8 29), (0, .nameAndType 30 12), (0, u "LOWER"), (0, .fieldref 8 32), (0, .nameAndType 33 12), (0, u "PRINT"), (0, .fieldref 8 35), (0, .nameAndType 36 12), (0, u "PUNCT"), (0, .fieldref 8 38), (0, .nameAndType 39 12), (0, u "SPACE"), (0, .fieldref 8 41), (0, .nameAndType 42 12), (0, u "UPPER"), (0, .fieldref 8 44), (0, .nameAndType 45 12), (0, u "XDIGIT"), (0, .integer 2147483647), (0, .methodref 48 49), (0, .class_ 50), (0, .nameAndType 51 52), (0, u "com/example/lamassu/lamassu/builtin/CharClassContainsPinLaw"), (0, u "pick"), (0, u "(I)Lcom/example/lamassu/lamassu/builtin/CharClass;"), (0, .methodref 48 54), (0, .nameAndType 55 56), (0, u "members"), (0, u "(I)I"), (0, .methodref 8 58), (0, .nameAndType 59 60), (0, u "contains"), (0, u "(I)Z"), (3, u "law"), (0, u "(II)Z")] 2

def k1m0 : Method := { name := "<init>", desc := "()V", sig := { parameters := [], returnType := none }, accessFlags := 2, code := none }
def k1c1 : Code := { maxStack := 2, maxLocals := 1, code := method_2_code, exceptionTable := #[], attributes := #[] }
def k1m1 : Method := { name := "members", desc := "(I)I", sig := { parameters := [.int], returnType := some .int }, accessFlags := 10, code := some k1c1 }
def k1c2 : Code := { maxStack := 2, maxLocals := 1, code := method_3_code, exceptionTable := #[], attributes := #[] }
def k1m2 : Method := { name := "pick", desc := "(I)Lcom/example/lamassu/lamassu/builtin/CharClass;", sig := { parameters := [.int], returnType := some (.object "com/example/lamassu/lamassu/builtin/CharClass") }, accessFlags := 10, code := some k1c2 }
def k1c3 : Code := { maxStack := 2, maxLocals := 6, code := code, exceptionTable := #[], attributes := #[] }
def k1m3 : Method := { name := "law", desc := "(II)Z", sig := { parameters := [.int, .int], returnType := some .boolean }, accessFlags := 9, code := some k1c3 }
/-- com/example/lamassu/lamassu/builtin/CharClassContainsPinLaw -/
def k1 : Class := { plain "com/example/lamassu/lamassu/builtin/CharClassContainsPinLaw" (some 0) with
  accessFlags := 49
  interfaces := #[]
  cf := some (fileOf pool1 48 #[] #[{ accessFlags := 2, nameIndex := 5, descriptorIndex := 6, attributes := #[] }, { accessFlags := 10, nameIndex := 55, descriptorIndex := 56, attributes := #[] }, { accessFlags := 10, nameIndex := 51, descriptorIndex := 52, attributes := #[] }, { accessFlags := 9, nameIndex := 64, descriptorIndex := 65, attributes := #[] }] 49 2 #[] #[])
  fields := #[]
  methods := #[k1m0, k1m1, k1m2, k1m3]
  instanceTypes := #[]
  staticTypes := #[]
  resolved := Array.replicate 68 none
  statics := none }

def pool2 : Array CpInfo := pool [(1, .class_ 2), (0, u "java/lang/constant/Constable"), (0, .class_ 4), (0, u "java/lang/Object")] 6

/-- java/lang/constant/Constable -/
def k2 : Class := { plain "java/lang/constant/Constable" (some 0) with
  accessFlags := 1537
  interfaces := #[]
  cf := some (fileOf pool2 1 #[] #[] 1537 3 #[] #[])
  fields := #[]
  methods := #[]
  instanceTypes := #[]
  staticTypes := #[]
  resolved := Array.replicate 11 none
  statics := none }

def pool3 : Array CpInfo := pool [(1, .class_ 2), (0, u "java/lang/Comparable"), (0, .class_ 4), (0, u "java/lang/Object")] 7

/-- java/lang/Comparable -/
def k3 : Class := { plain "java/lang/Comparable" (some 0) with
  accessFlags := 1537
  interfaces := #[]
  cf := some (fileOf pool3 1 #[] #[] 1537 3 #[] #[])
  fields := #[]
  methods := #[]
  instanceTypes := #[]
  staticTypes := #[]
  resolved := Array.replicate 12 none
  statics := none }

def pool4 : Array CpInfo := pool [(1, .class_ 2), (0, u "java/io/Serializable"), (0, .class_ 4), (0, u "java/lang/Object")] 2

/-- java/io/Serializable -/
def k4 : Class := { plain "java/io/Serializable" (some 0) with
  accessFlags := 1537
  interfaces := #[]
  cf := some (fileOf pool4 1 #[] #[] 1537 3 #[] #[])
  fields := #[]
  methods := #[]
  instanceTypes := #[]
  staticTypes := #[]
  resolved := Array.replicate 7 none
  statics := none }

def pool5 : Array CpInfo := pool [(2, .class_ 4), (1, u "java/lang/Enum"), (0, u "name"), (0, u "Ljava/lang/String;"), (0, .fieldref 2 8), (0, .nameAndType 9 10), (0, u "ordinal"), (0, u "I"), (1, .class_ 14), (1, u "java/lang/Object"), (4, u "hash"), (86, .class_ 108), (1, u "java/lang/Enum$EnumDesc"), (2, .class_ 112), (0, u "java/lang/constant/Constable"), (0, .class_ 114), (0, u "java/lang/Comparable"), (0, .class_ 116), (0, u "java/io/Serializable"), (9, u "()I")] 77

def k5c0 : Code := { maxStack := 1, maxLocals := 1, code := jdk_37_method_2_code, exceptionTable := #[], attributes := #[] }
def k5m0 : Method := { name := "ordinal", desc := "()I", sig := { parameters := [], returnType := some .int }, accessFlags := 17, code := some k5c0 }
/-- java/lang/Enum -/
def k5 : Class := { plain "java/lang/Enum" (some 0) with
  accessFlags := 1057
  interfaces := #[2, 3, 4]
  cf := some (fileOf pool5 2 #[.nestMembers #[106]] #[{ accessFlags := 17, nameIndex := 9, descriptorIndex := 126, attributes := #[] }] 1057 12 #[111, 113, 115] #[{ accessFlags := 18, nameIndex := 5, descriptorIndex := 6, attributes := #[] }, { accessFlags := 18, nameIndex := 9, descriptorIndex := 10, attributes := #[] }, { accessFlags := 2, nameIndex := 19, descriptorIndex := 10, attributes := #[] }])
  fields := #[{ name := "name", type := (.object "java/lang/String"), accessFlags := 18, slot := 0, constantValue := 0 }, { name := "ordinal", type := .int, accessFlags := 18, slot := 1, constantValue := 0 }, { name := "hash", type := .int, accessFlags := 2, slot := 2, constantValue := 0 }]
  methods := #[k5m0]
  instanceTypes := #[(.object "java/lang/String"), .int, .int]
  staticTypes := #[]
  resolved := Array.replicate 204 none
  statics := none }

def pool6 : Array CpInfo := pool [(1, .class_ 2), (0, u "com/example/lamassu/lamassu/builtin/CharClass"), (2, u "ALNUM"), (0, u "Lcom/example/lamassu/lamassu/builtin/CharClass;"), (2, u "ALPHA"), (2, u "BLANK"), (2, u "CNTRL"), (2, u "DIGIT"), (2, u "GRAPH"), (2, u "LOWER"), (2, u "PRINT"), (2, u "PUNCT"), (2, u "SPACE"), (2, u "UPPER"), (2, u "XDIGIT"), (2, u "$VALUES"), (0, u "[Lcom/example/lamassu/lamassu/builtin/CharClass;"), (6, .class_ 52), (1, u "java/lang/Enum"), (30, .methodref 1 84), (0, .nameAndType 85 86), (0, u "ordinal"), (0, u "()I"), (29, u "contains"), (0, u "(I)Z")] 4

def k6c0 : Code := { maxStack := 4, maxLocals := 6, code := prog_6_method_5_code, exceptionTable := #[], attributes := #[] }
def k6m0 : Method := { name := "contains", desc := "(I)Z", sig := { parameters := [.int], returnType := some .boolean }, accessFlags := 0, code := some k6c0 }
/-- com/example/lamassu/lamassu/builtin/CharClass -/
def k6 : Class := { plain "com/example/lamassu/lamassu/builtin/CharClass" (some 5) with
  accessFlags := 16432
  interfaces := #[]
  cf := some (fileOf pool6 1 #[] #[{ accessFlags := 0, nameIndex := 116, descriptorIndex := 117, attributes := #[] }] 16432 50 #[] #[{ accessFlags := 16409, nameIndex := 5, descriptorIndex := 6, attributes := #[] }, { accessFlags := 16409, nameIndex := 9, descriptorIndex := 6, attributes := #[] }, { accessFlags := 16409, nameIndex := 12, descriptorIndex := 6, attributes := #[] }, { accessFlags := 16409, nameIndex := 15, descriptorIndex := 6, attributes := #[] }, { accessFlags := 16409, nameIndex := 18, descriptorIndex := 6, attributes := #[] }, { accessFlags := 16409, nameIndex := 21, descriptorIndex := 6, attributes := #[] }, { accessFlags := 16409, nameIndex := 24, descriptorIndex := 6, attributes := #[] }, { accessFlags := 16409, nameIndex := 27, descriptorIndex := 6, attributes := #[] }, { accessFlags := 16409, nameIndex := 30, descriptorIndex := 6, attributes := #[] }, { accessFlags := 16409, nameIndex := 33, descriptorIndex := 6, attributes := #[] }, { accessFlags := 16409, nameIndex := 36, descriptorIndex := 6, attributes := #[] }, { accessFlags := 16409, nameIndex := 39, descriptorIndex := 6, attributes := #[] }, { accessFlags := 4122, nameIndex := 42, descriptorIndex := 43, attributes := #[] }])
  fields := #[{ name := "ALNUM", type := (.object "com/example/lamassu/lamassu/builtin/CharClass"), accessFlags := 16409, slot := 0, constantValue := 0 }, { name := "ALPHA", type := (.object "com/example/lamassu/lamassu/builtin/CharClass"), accessFlags := 16409, slot := 1, constantValue := 0 }, { name := "BLANK", type := (.object "com/example/lamassu/lamassu/builtin/CharClass"), accessFlags := 16409, slot := 2, constantValue := 0 }, { name := "CNTRL", type := (.object "com/example/lamassu/lamassu/builtin/CharClass"), accessFlags := 16409, slot := 3, constantValue := 0 }, { name := "DIGIT", type := (.object "com/example/lamassu/lamassu/builtin/CharClass"), accessFlags := 16409, slot := 4, constantValue := 0 }, { name := "GRAPH", type := (.object "com/example/lamassu/lamassu/builtin/CharClass"), accessFlags := 16409, slot := 5, constantValue := 0 }, { name := "LOWER", type := (.object "com/example/lamassu/lamassu/builtin/CharClass"), accessFlags := 16409, slot := 6, constantValue := 0 }, { name := "PRINT", type := (.object "com/example/lamassu/lamassu/builtin/CharClass"), accessFlags := 16409, slot := 7, constantValue := 0 }, { name := "PUNCT", type := (.object "com/example/lamassu/lamassu/builtin/CharClass"), accessFlags := 16409, slot := 8, constantValue := 0 }, { name := "SPACE", type := (.object "com/example/lamassu/lamassu/builtin/CharClass"), accessFlags := 16409, slot := 9, constantValue := 0 }, { name := "UPPER", type := (.object "com/example/lamassu/lamassu/builtin/CharClass"), accessFlags := 16409, slot := 10, constantValue := 0 }, { name := "XDIGIT", type := (.object "com/example/lamassu/lamassu/builtin/CharClass"), accessFlags := 16409, slot := 11, constantValue := 0 }, { name := "$VALUES", type := (.array (.object "com/example/lamassu/lamassu/builtin/CharClass")), accessFlags := 4122, slot := 12, constantValue := 0 }]
  methods := #[k6m0]
  instanceTypes := #[(.object "java/lang/String"), .int, .int]
  staticTypes := #[(.object "com/example/lamassu/lamassu/builtin/CharClass"), (.object "com/example/lamassu/lamassu/builtin/CharClass"), (.object "com/example/lamassu/lamassu/builtin/CharClass"), (.object "com/example/lamassu/lamassu/builtin/CharClass"), (.object "com/example/lamassu/lamassu/builtin/CharClass"), (.object "com/example/lamassu/lamassu/builtin/CharClass"), (.object "com/example/lamassu/lamassu/builtin/CharClass"), (.object "com/example/lamassu/lamassu/builtin/CharClass"), (.object "com/example/lamassu/lamassu/builtin/CharClass"), (.object "com/example/lamassu/lamassu/builtin/CharClass"), (.object "com/example/lamassu/lamassu/builtin/CharClass"), (.object "com/example/lamassu/lamassu/builtin/CharClass"), (.array (.object "com/example/lamassu/lamassu/builtin/CharClass"))]
  resolved := Array.replicate 122 none
  statics := some 0 }

def pool7 : Array CpInfo := pool [(1, u "java/lang/Cloneable"), (0, .class_ 1), (0, u "java/lang/Object"), (0, .class_ 3)] 3

/-- java/lang/Cloneable -/
def k7 : Class := { plain "java/lang/Cloneable" (some 0) with
  accessFlags := 1537
  interfaces := #[]
  cf := some (fileOf pool7 2 #[] #[] 1537 4 #[] #[])
  fields := #[]
  methods := #[]
  instanceTypes := #[]
  staticTypes := #[]
  resolved := Array.replicate 8 none
  statics := none }

/-- the primitive byte -/
def k8 : Class := { plain "byte" none with kind := .primitive 'B', accessFlags := 0x411 }
/-- [B -/
def k9 : Class := { plain "[B" (some 0) with kind := .array 8 .byte, interfaces := #[7, 4], accessFlags := 1041 }

/-- the primitive int -/
def k10 : Class := { plain "int" none with kind := .primitive 'I', accessFlags := 0x411 }
/-- [I -/
def k11 : Class := { plain "[I" (some 0) with kind := .array 10 .int, interfaces := #[7, 4], accessFlags := 1041 }

def heap : Heap := #[{ cls := 6, slots := #[.ref 5, .ref 2, .ref 10, .ref 1, .ref 6, .ref 8, .ref 11, .ref 7, .ref 4, .ref 12, .ref 9, .ref 3, .null], vm := .statics 6 },
  { cls := 6, slots := #[.null, .int 3, .int 0], vm := .none },
  { cls := 6, slots := #[.null, .int 1, .int 0], vm := .none },
  { cls := 6, slots := #[.null, .int 11, .int 0], vm := .none },
  { cls := 6, slots := #[.null, .int 8, .int 0], vm := .none },
  { cls := 6, slots := #[.null, .int 0, .int 0], vm := .none },
  { cls := 6, slots := #[.null, .int 4, .int 0], vm := .none },
  { cls := 6, slots := #[.null, .int 7, .int 0], vm := .none },
  { cls := 6, slots := #[.null, .int 5, .int 0], vm := .none },
  { cls := 6, slots := #[.null, .int 10, .int 0], vm := .none },
  { cls := 6, slots := #[.null, .int 2, .int 0], vm := .none },
  { cls := 6, slots := #[.null, .int 6, .int 0], vm := .none },
  { cls := 6, slots := #[.null, .int 9, .int 0], vm := .none }]
def classes : Array Class := #[k0, k1, k2, k3, k4, k5, k6, k7, k8, k9, k10, k11]
def interned : List (Array UInt16 × Addr) := []
def slotsUsed : Nat := 49
def theMethod : MethodId := ⟨1, 3⟩
def args0 : Array Value := #[.int 65, .int 1]
def aboutOver (below : List Frame) : State where
  vm := { classes := classes, interned := interned.toArray }
  heap := heap
  slotsUsed := slotsUsed
  threads := #[{ frames := .invoking theMethod args0 :: below }]
def below0 : List Frame := [.native { method := ⟨0, 0⟩, args := #[] }]
def about1 : State := aboutOver below0
def p0 : Program := .bare "" "" ""
def e0 : Env := launch0.env 0 0 0
theorem w_frames : about1.frames = Frame.invoking theMethod args0 :: below0 := rfl
set_option maxRecDepth 65536 in
theorem w_args : argsFit about1.vm theMethod args0 = true := by decide +kernel
set_option maxRecDepth 65536 in
theorem w_heap : heapFits about1 = true := by decide +kernel
set_option maxRecDepth 65536 in
theorem w_runnable : about1.curStatus? = some .runnable := by decide +kernel
set_option maxRecDepth 65536 in
theorem w_alone : about1.alone = true := by decide +kernel
set_option maxRecDepth 65536 in
theorem w_named : about1.methodNamed? x = some theMethod := by decide +kernel
set_option maxRecDepth 65536 in
theorem w_hears : about1.hears theMethod below0 = true := by decide +kernel
set_option maxRecDepth 65536 in
theorem w_ripe : about1.ripe theMethod args0 below0 = true := by decide +kernel
theorem w_running : about1.status = .running := rfl
set_option maxRecDepth 65536 in
theorem w_room : about1.hasRoom e0.platform room_1 = true :=
  launch0.hasRoom_least _ room_1 (by decide +kernel) (by decide +kernel) (by decide +kernel) (by decide +kernel) (by decide +kernel) (by decide +kernel)
theorem allAtoms_all (ts : List Jvm.Cond) (a : Array Jvm.Value) (st : Jvm.State) : (allAtoms ts).before a st = ts.all (fun c => c.before a st) := by
  induction ts with
  | nil => rfl
  | cons c t ih =>
    show (Jvm.Cond.and c (allAtoms t)).before a st = _
    rw [Jvm.Cond.before_and, ih, List.all_cons]
def words1 : List Jvm.Cond := Jvm.Cond.code x code maxLocals ret :: tables_1
/-- a 'code' word, met by the world's own term for the bytes: nothing is compared byte by byte -/
theorem code_word {y : MethodName} {bytes : ByteArray} {mx : Nat} {rt : Option FieldType} {a : Array Value} {s : State} {m : MethodId} {meth : Method} {c : Code} (h1 : s.methodNamed? y = some m) (h2 : s.vm.method? m = some meth) (h3 : meth.code = some c) (h4 : c.code = bytes)
    (h5 : (c.maxLocals == mx && c.exceptionTable.isEmpty && decide (c.maxStack ≤ mostOperands) && decide (meth.sig.returnType = rt) && !meth.locks && decide (parseMethodDescriptor y.desc = some meth.sig)) = true) : (Jvm.Cond.code y bytes mx rt).before a s = true := by
  simp only [Bool.and_eq_true, beq_iff_eq, Bool.not_eq_true', decide_eq_true_eq] at h5
  obtain ⟨⟨⟨⟨⟨g1, g2⟩, g3⟩, g4⟩, g5⟩, g6⟩ := h5
  simp [Cond.before, Cond.holds, Cond.value, h1, h2, h3, h4, g1, g2, g3, g4, g5, g6]
def isCode : Jvm.Cond → Bool
  | .code _ _ _ _ => true
  | _ => false
theorem all_split {L : List Jvm.Cond} {P : Jvm.Cond → Bool} (h1 : L.all (fun c => isCode c || P c) = true) (h2 : ∀ c ∈ L.filter isCode, P c = true) : L.all P = true := by
  refine List.all_eq_true.mpr fun c hc => ?_
  have h := List.all_eq_true.mp h1 c hc
  rcases Bool.eq_false_or_eq_true (isCode c) with hi | hi
  · exact h2 c (List.mem_filter.mpr ⟨hc, hi⟩)
  · simpa [hi] using h
set_option maxRecDepth 65536 in
theorem w_c0 : (Jvm.Cond.code x code maxLocals ret).before args0 about1 = true := code_word (m := ⟨1, 3⟩) (meth := k1m3) (c := k1c3) (by decide +kernel) rfl rfl rfl (by decide +kernel)
set_option maxRecDepth 65536 in
theorem w_c1 : (Jvm.Cond.code ({ cls := "com/example/lamassu/lamassu/builtin/CharClassContainsPinLaw", name := "pick", desc := "(I)Lcom/example/lamassu/lamassu/builtin/CharClass;" } : Jvm.MethodName) method_3_code (1 : Nat) (Option.some (Jvm.ClassFile.FieldType.object "com/example/lamassu/lamassu/builtin/CharClass"))).before args0 about1 = true := code_word (m := ⟨1, 2⟩) (meth := k1m2) (c := k1c2) (by decide +kernel) rfl rfl rfl (by decide +kernel)
set_option maxRecDepth 65536 in
theorem w_c2 : (Jvm.Cond.code ({ cls := "com/example/lamassu/lamassu/builtin/CharClassContainsPinLaw", name := "members", desc := "(I)I" } : Jvm.MethodName) method_2_code (1 : Nat) (Option.some Jvm.ClassFile.FieldType.int)).before args0 about1 = true := code_word (m := ⟨1, 1⟩) (meth := k1m1) (c := k1c1) (by decide +kernel) rfl rfl rfl (by decide +kernel)
set_option maxRecDepth 65536 in
theorem w_c3 : (Jvm.Cond.code ({ cls := "com/example/lamassu/lamassu/builtin/CharClass", name := "contains", desc := "(I)Z" } : Jvm.MethodName) prog_6_method_5_code (6 : Nat) (Option.some Jvm.ClassFile.FieldType.boolean)).before args0 about1 = true := code_word (m := ⟨6, 0⟩) (meth := k6m0) (c := k6c0) (by decide +kernel) rfl rfl rfl (by decide +kernel)
set_option maxRecDepth 65536 in
theorem w_c4 : (Jvm.Cond.code ({ cls := "java/lang/Enum", name := "ordinal", desc := "()I" } : Jvm.MethodName) jdk_37_method_2_code (1 : Nat) (Option.some Jvm.ClassFile.FieldType.int)).before args0 about1 = true := code_word (m := ⟨5, 0⟩) (meth := k5m0) (c := k5c0) (by decide +kernel) rfl rfl rfl (by decide +kernel)
def codes1 : List Jvm.Cond := [Jvm.Cond.code x code maxLocals ret, Jvm.Cond.code ({ cls := "com/example/lamassu/lamassu/builtin/CharClassContainsPinLaw", name := "pick", desc := "(I)Lcom/example/lamassu/lamassu/builtin/CharClass;" } : Jvm.MethodName) method_3_code (1 : Nat) (Option.some (Jvm.ClassFile.FieldType.object "com/example/lamassu/lamassu/builtin/CharClass")), Jvm.Cond.code ({ cls := "com/example/lamassu/lamassu/builtin/CharClassContainsPinLaw", name := "members", desc := "(I)I" } : Jvm.MethodName) method_2_code (1 : Nat) (Option.some Jvm.ClassFile.FieldType.int), Jvm.Cond.code ({ cls := "com/example/lamassu/lamassu/builtin/CharClass", name := "contains", desc := "(I)Z" } : Jvm.MethodName) prog_6_method_5_code (6 : Nat) (Option.some Jvm.ClassFile.FieldType.boolean), Jvm.Cond.code ({ cls := "java/lang/Enum", name := "ordinal", desc := "()I" } : Jvm.MethodName) jdk_37_method_2_code (1 : Nat) (Option.some Jvm.ClassFile.FieldType.int)]
set_option maxRecDepth 65536 in
theorem codes_eq : words1.filter isCode = codes1 := rfl
theorem w_codes : ∀ c ∈ words1.filter isCode, c.before args0 about1 = true := by
  rw [codes_eq]
  intro c hc
  simp only [codes1, List.mem_cons, List.not_mem_nil, or_false] at hc
  rcases hc with rfl | rfl | rfl | rfl | rfl
  · exact w_c0
  · exact w_c1
  · exact w_c2
  · exact w_c3
  · exact w_c4
set_option maxRecDepth 65536 in
theorem w_t1 : (words1.take 24).all (fun c => isCode c || c.before args0 about1) = true := by decide +kernel
set_option maxRecDepth 65536 in
theorem w_t2 : (words1.drop 24).all (fun c => isCode c || c.before args0 about1) = true := by decide +kernel
theorem w_tables : (allAtoms (Jvm.Cond.code x code maxLocals ret :: tables_1)).before args0 about1 = true := by
  rw [allAtoms_all]
  show words1.all (fun c => c.before args0 about1) = true
  refine all_split ?_ w_codes
  rw [← List.take_append_drop 24 words1, List.all_append, w_t1, w_t2]
  rfl
set_option maxRecDepth 65536 in
theorem w_case : (Jvm.Cond.and given_1 narrow_1).before args0 about1 = true := by decide +kernel
theorem w_applies : (headSpec (Jvm.Cond.code x code maxLocals ret :: tables_1) room_1).applies x e0.platform about1 = true :=
  (Spec.applies_iff w_frames).mpr ⟨w_running, w_runnable, w_alone, w_named, w_hears, w_ripe, w_room, w_tables⟩
theorem atStart : AtStart classFile x code maxLocals ret World_1 tables_1 room_1 Calls_1 rest_1 Pre_1 launch0 p0 e0 about1 theMethod args0 below0 :=
  ⟨lists_1, trivial, launch0.admits_env _ _ _, launch0.least_env, fairChoices_fair.cas, fairChoices_fair.clock, w_frames, w_args, w_heap, w_applies, trivial, trivial, w_case⟩
end start1
theorem witness_1 : WitnessClaimed_1 := ⟨start1.p0, start1.e0, start1.about1, start1.theMethod, start1.args0, start1.below0, start1.atStart⟩
end Jvm.Pilot.@@N@@
