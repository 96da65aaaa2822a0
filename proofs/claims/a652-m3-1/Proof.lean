import JvmDerived
import JvmDerived.Pilot.@@N@@Statement
import JvmDerived.Pilot.@@N@@Code
set_option linter.unusedVariables false
set_option linter.unusedSimpArgs false
namespace Jvm.Pilot.@@N@@
open Jvm Jvm.ClassFile Sem Op Lib Jvm.Free Jvm.Stand Jvm.LawKit Jvm.RoadKit Bundle Jvm.Pilot.@@N@@.Jvm.D
/-! what is left of a run: it comes to its end, and there Q holds -/
def oG (p : Program) (e : Env) (below : List Frame) (s : State) (Q : Option Value → Heap → List Loc → Prop) (rc rs : Nat) (S : State) : Prop :=
  ∃ s₂ o, Steps p.tables e below S s₂ ∧ s₂.status = .running ∧ Ended s₂ below o ∧ ∃ v L, o = .returned v ∧ Q v s₂.heap L ∧ FrameEnd s o s₂ L rc rs
theorem oS {p : Program} {e : Env} {below : List Frame} {s : State} {Q : Option Value → Heap → List Loc → Prop} {rc rs : Nat} {S S' : State} (k : ∀ t, Steps p.tables e below S' t → Steps p.tables e below S t) (g : oG p e below s Q rc rs S') : oG p e below s Q rc rs S := by
  obtain ⟨s₂, o, h1, h2⟩ := g
  exact ⟨s₂, o, k _ h1, h2⟩
theorem own_ret {p : Program} {l : Launch} {e : Env} {R : Room} {s : State} {m : MethodId} {args : Array Value} {below : List Frame} {meth : Method} {c : Code} {T : State} {locs : List Loc} {cells slots : Nat} {Q : Option Value → Heap → List Loc → Prop} {rc rs : Nat} {S : State} {v : Option Value} (X : Stand p l e R s m args below meth c T locs cells slots) (hv : meth.sig.returnType = none → v = none) (hlocks : meth.locks = false)
    (st : ∀ fs, (∀ (f : JFrame) (acts : List Action), f.method = m → f.locked = none → f.entered = [] → (doReturn e (T.setTop f) acts v).1 = T.setFrames fs) → Steps p.tables e below S (T.setFrames fs)) (q : Q v T.heap locs) (hc : cells ≤ rc) (hs : slots ≤ rs) : oG p e below s Q rc rs S := by
  obtain ⟨fs, hr, hrun, hended, hW, hsame⟩ := X.leave hv hlocks
  exact ⟨_, _, st fs hr, hrun, hended, _, _, rfl, q, ⟨_, rfl⟩, hW, hsame.mono hc hs⟩
theorem oIc {tb : Tables} [Ours tb] {e : Env} {below : List Frame} {T target : State} {m : MethodId} {c : Code} {g : JFrame} {i : Int} {z : Int32} (hz : Int32.ofInt i = z) (h : At T m c below) (hx : tb.exec = Jvm.exec) (hg : g.method = m) (hd : decode c.code g.pc = .ok (.iconst i, 1)) (hr : Steps tb e below (T.setTop { g with pc := g.pc + 1, stack := .int z :: g.stack }) target) : Steps tb e below (T.setTop g) target := XS.iconst h hx hg hd (by rw [hz]; exact hr)
theorem oBp {tb : Tables} [Ours tb] {e : Env} {below : List Frame} {T target : State} {m : MethodId} {c : Code} {g : JFrame} {i : Int} {z : Int32} (hz : (Int8.ofInt i).toInt32 = z) (h : At T m c below) (hx : tb.exec = Jvm.exec) (hg : g.method = m) (hd : decode c.code g.pc = .ok (.bipush i, 2)) (hr : Steps tb e below (T.setTop { g with pc := g.pc + 2, stack := .int z :: g.stack }) target) : Steps tb e below (T.setTop g) target := XS.bipush h hx hg hd (by rw [hz]; exact hr)
theorem oSp {tb : Tables} [Ours tb] {e : Env} {below : List Frame} {T target : State} {m : MethodId} {c : Code} {g : JFrame} {i : Int} {z : Int32} (hz : (Int16.ofInt i).toInt32 = z) (h : At T m c below) (hx : tb.exec = Jvm.exec) (hg : g.method = m) (hd : decode c.code g.pc = .ok (.sipush i, 3)) (hr : Steps tb e below (T.setTop { g with pc := g.pc + 3, stack := .int z :: g.stack }) target) : Steps tb e below (T.setTop g) target := XS.sipush h hx hg hd (by rw [hz]; exact hr)
theorem oLc {tb : Tables} [Ours tb] {e : Env} {below : List Frame} {T target : State} {m : MethodId} {c : Code} {g : JFrame} {i : Fin 2} {z : Int64} (hz : Int64.ofNat i = z) (h : At T m c below) (hx : tb.exec = Jvm.exec) (hg : g.method = m) (hd : decode c.code g.pc = .ok (.lconst i, 1)) (hr : Steps tb e below (T.setTop { g with pc := g.pc + 1, stack := .long z :: g.stack }) target) : Steps tb e below (T.setTop g) target := XS.lconst h hx hg hd (by rw [hz]; exact hr)
theorem oW {a0 : Array Value} {Z : State} (hw : ∀ d ∈ tables_1, d.before a0 Z = true) (i : Nat) {d : Jvm.Cond} (h : tables_1[i]? = some d) : d.before a0 Z = true := hw _ (List.mem_of_getElem? h)
theorem own_eqv {args : Array Value} {s : State} {a b : Term} {v : Value} (h : (Jvm.Cond.eq a b).value args s none s [] = some true) (hb : b.eval args s none [] s = some v) : a.eval args s none [] s = some v := by
  obtain ⟨x, y, ha, hb', -, -⟩ := cmp_v (Or.inl h)
  cases hb.symm.trans hb'
  rw [ha]
  cases x <;> cases v <;> simp [Cond.value, ha, hb] at h ⊢ <;> exact h
theorem own_len {args : Array Value} {s : State} {t : Term} {a : Addr} {cl : Cell} {ty : FieldType} {z : Int32} (h : (Term.length t).eval args s none [] s = some (.int z)) (ht : t.eval args s none [] s = some (.ref a)) (A : Arr s s.heap a cl ty) : cl.slots.size < 2 ^ 31 ∧ cl.slots.size.toInt32 = z := by
  have hA := A.fin (Vm.Alike.refl _)
  obtain ⟨a', cell, h1, h2, h3⟩ := Term.length_spec h
  cases ht.symm.trans h1
  cases hA.symm.trans h2
  refine ⟨?_, (Value.int.inj h3).symm⟩
  simp only [Term.eval, ht, hA, Option.bind_eq_bind, Option.bind_some] at h
  split at h
  · assumption
  · cases h
theorem own_sz {n : Nat} {z : Int32} (h1 : n < 2 ^ 31) (h2 : n.toInt32 = z) : n = z.toNatClampNeg := by
  rw [← h2]; simp only [Int32.toNatClampNeg, len_toInt h1]; rfl
theorem own_box {args : Array Value} {s : State} {t : Term} {a : Addr} {c : Cell} {K : String} {G : Jvm.Cond} (et : ∀ idx, t.eval args s none idx s = some (.ref a)) (A : Arr s s.heap a c (.object K)) (h : (Jvm.Cond.all t (.and (.exactly (.elem t (.index 0)) K) G)).value args s none s [] = some true) :
    ∀ j : Int32, ¬ (j < 0 ∨ c.slots.size ≤ j.toNatClampNeg) → ∃ b : Addr, c.slots[j.toNatClampNeg]? = some (.ref b) ∧ Exa s s.heap b K := fun j hj => by
  have nn : ¬ j < 0 := fun x => hj (Or.inl x)
  obtain ⟨u1, -⟩ := and_e (Cond.all_elim (et []) (A.fin (Vm.Alike.refl _)) h j.toNatClampNeg (Nat.lt_of_not_le fun x => hj (Or.inr x)))
  obtain ⟨b, eb⟩ := exa_v u1
  exact ⟨b, (elem_f (et _) (idx_at nn) (A.fin (Vm.Alike.refl _)) nn).symm.trans eb, exa_at eb u1⟩
theorem own_neI {Z : State} {h : Heap} {a b : Addr} {C n d : String} {x y : Int32} (F : Fld Z h a C n d (.int x)) (G : Fld Z h b C n d (.int y)) (hn : x ≠ y) : ¬ a = b := fun e => by
  subst e
  obtain ⟨c1, cf1, k1, i1, f1, a1, a2, -, -, -, -, a7⟩ := F
  obtain ⟨c2, cf2, k2, i2, f2, b1, b2, -, -, -, -, b7⟩ := G
  cases a1.symm.trans b1
  cases a2.symm.trans b2
  cases a7.symm.trans b7
  exact hn rfl
theorem own_neJ {Z : State} {h : Heap} {a b : Addr} {C n d : String} {x y : Int64} (F : Fld Z h a C n d (.long x)) (G : Fld Z h b C n d (.long y)) (hn : x ≠ y) : ¬ a = b := fun e => by
  subst e
  obtain ⟨c1, cf1, k1, i1, f1, a1, a2, -, -, -, -, a7⟩ := F
  obtain ⟨c2, cf2, k2, i2, f2, b1, b2, -, -, -, -, b7⟩ := G
  cases a1.symm.trans b1
  cases a2.symm.trans b2
  cases a7.symm.trans b7
  exact hn rfl
theorem own_ladd {x y : Int64} {a b : Int} (hx : x.toInt = a) (hy : y.toInt = b) (h1 : -9223372036854775808 ≤ a + b) (h2 : a + b < 9223372036854775808) : (x + y).toInt = a + b := by
  have h := c_ladd x y
  have r := rng64 (x + y)
  rw [hx, hy] at h
  generalize (x + y).toInt = z at *
  omega
theorem own_lmul {x y : Int64} {a b : Int} (hx : x.toInt = a) (hy : y.toInt = b) (h1 : -9223372036854775808 ≤ a * b) (h2 : a * b < 9223372036854775808) : (x * y).toInt = a * b := by
  have h := c_lmul x y
  have r := rng64 (x * y)
  rw [hx, hy] at h
  generalize (x * y).toInt = z at *
  generalize a * b = k at *
  omega
theorem own_nineteen (p : Int32) : ((p &&& (2147483647 : Int32)) % (19 : Int32)) = (0 : Int32) ∨ ((p &&& (2147483647 : Int32)) % (19 : Int32)) = (1 : Int32) ∨ ((p &&& (2147483647 : Int32)) % (19 : Int32)) = (2 : Int32) ∨ ((p &&& (2147483647 : Int32)) % (19 : Int32)) = (3 : Int32) ∨ ((p &&& (2147483647 : Int32)) % (19 : Int32)) = (4 : Int32) ∨ ((p &&& (2147483647 : Int32)) % (19 : Int32)) = (5 : Int32) ∨ ((p &&& (2147483647 : Int32)) % (19 : Int32)) = (6 : Int32) ∨ ((p &&& (2147483647 : Int32)) % (19 : Int32)) = (7 : Int32) ∨ ((p &&& (2147483647 : Int32)) % (19 : Int32)) = (8 : Int32) ∨ ((p &&& (2147483647 : Int32)) % (19 : Int32)) = (9 : Int32) ∨ ((p &&& (2147483647 : Int32)) % (19 : Int32)) = (10 : Int32) ∨ ((p &&& (2147483647 : Int32)) % (19 : Int32)) = (11 : Int32) ∨ ((p &&& (2147483647 : Int32)) % (19 : Int32)) = (12 : Int32) ∨ ((p &&& (2147483647 : Int32)) % (19 : Int32)) = (13 : Int32) ∨ ((p &&& (2147483647 : Int32)) % (19 : Int32)) = (14 : Int32) ∨ ((p &&& (2147483647 : Int32)) % (19 : Int32)) = (15 : Int32) ∨ ((p &&& (2147483647 : Int32)) % (19 : Int32)) = (16 : Int32) ∨ ((p &&& (2147483647 : Int32)) % (19 : Int32)) = (17 : Int32) ∨ ((p &&& (2147483647 : Int32)) % (19 : Int32)) = (18 : Int32) := by
  have h0 : (p &&& (2147483647 : Int32)).toInt = p.toInt % 2147483648 := c_mask p 2147483647 31 (by decide) (by decide)
  have h1 := (c_irem (p &&& (2147483647 : Int32)) 19 19 rfl).1 (by omega)
  generalize ((p &&& (2147483647 : Int32)) % (19 : Int32)) = z at *
  have e0 : (0 : Int32).toInt = 0 := rfl
  have e1 : (1 : Int32).toInt = 1 := rfl
  have e2 : (2 : Int32).toInt = 2 := rfl
  have e3 : (3 : Int32).toInt = 3 := rfl
  have e4 : (4 : Int32).toInt = 4 := rfl
  have e5 : (5 : Int32).toInt = 5 := rfl
  have e6 : (6 : Int32).toInt = 6 := rfl
  have e7 : (7 : Int32).toInt = 7 := rfl
  have e8 : (8 : Int32).toInt = 8 := rfl
  have e9 : (9 : Int32).toInt = 9 := rfl
  have e10 : (10 : Int32).toInt = 10 := rfl
  have e11 : (11 : Int32).toInt = 11 := rfl
  have e12 : (12 : Int32).toInt = 12 := rfl
  have e13 : (13 : Int32).toInt = 13 := rfl
  have e14 : (14 : Int32).toInt = 14 := rfl
  have e15 : (15 : Int32).toInt = 15 := rfl
  have e16 : (16 : Int32).toInt = 16 := rfl
  have e17 : (17 : Int32).toInt = 17 := rfl
  have e18 : (18 : Int32).toInt = 18 := rfl
  simp only [← Int32.toInt_inj, e0, e1, e2, e3, e4, e5, e6, e7, e8, e9, e10, e11, e12, e13, e14, e15, e16, e17, e18]
  omega
def own_ofv (c : Int64) (f s : Int32) : Int64 := ((-9223372036854775808 : Int64) + ((c ||| (((f &&& (16777215 : Int32)).toInt64 <<< ((32 : Int32) &&& 0x3f).toInt64) ||| (s.toInt64 &&& (4294967295 : Int64)))) &&& (9223372036854775807 : Int64)))
def own_pick (w : Nat → Addr) (k : Int32) : Addr := if k = (0 : Int32) then (w 0) else if k = (1 : Int32) then (w 1) else if k = (2 : Int32) then (w 9) else if k = (3 : Int32) then (w 5) else if k = (4 : Int32) then (w 17) else if k = (5 : Int32) then (w 13) else if k = (6 : Int32) then (w 16) else if k = (7 : Int32) then (w 11) else if k = (8 : Int32) then (w 4) else if k = (9 : Int32) then (w 14) else if k = (10 : Int32) then (w 6) else if k = (11 : Int32) then (w 3) else if k = (12 : Int32) then (w 2) else if k = (13 : Int32) then (w 12) else if k = (14 : Int32) then (w 10) else if k = (15 : Int32) then (w 15) else if k = (16 : Int32) then (w 7) else if k = (17 : Int32) then (w 8) else (w 18)
def own_code (k : Int32) : Int64 := if k = (0 : Int32) then (0 : Int64) else if k = (1 : Int32) then (72057594037927936 : Int64) else if k = (2 : Int32) then (144115188075855872 : Int64) else if k = (3 : Int32) then (216172782113783808 : Int64) else if k = (4 : Int32) then (288230376151711744 : Int64) else if k = (5 : Int32) then (360287970189639680 : Int64) else if k = (6 : Int32) then (432345564227567616 : Int64) else if k = (7 : Int32) then (504403158265495552 : Int64) else if k = (8 : Int32) then (576460752303423488 : Int64) else if k = (9 : Int32) then (648518346341351424 : Int64) else if k = (10 : Int32) then (720575940379279360 : Int64) else if k = (11 : Int32) then (792633534417207296 : Int64) else if k = (12 : Int32) then (864691128455135232 : Int64) else if k = (13 : Int32) then (936748722493063168 : Int64) else if k = (14 : Int32) then (5620492334958379008 : Int64) else if k = (15 : Int32) then (5692549928996306944 : Int64) else if k = (16 : Int32) then (5764607523034234880 : Int64) else if k = (17 : Int32) then (5836665117072162816 : Int64) else (5908722711110090752 : Int64)
theorem own_of (c : Int64) (f s : Int32) (hc : c.toInt % 72057594037927936 = 0) (hc0 : 0 ≤ c.toInt) : (own_ofv c (f &&& (16777215 : Int32)) s).toInt = -9223372036854775808 + c.toInt + (f.toInt % 16777216) * 4294967296 + s.toInt % 4294967296 := by
  unfold own_ofv
  have h2 : (f &&& (16777215 : Int32)).toInt = f.toInt % 16777216 := c_mask f 16777215 24 (by decide) (by decide)
  generalize (f &&& (16777215 : Int32)) = F at *
  have h1 : (F &&& (16777215 : Int32)).toInt = F.toInt % 16777216 := c_mask F 16777215 24 (by decide) (by decide)
  have h3 : (F &&& (16777215 : Int32)).toInt64.toInt = (F &&& (16777215 : Int32)).toInt := c_i2l _
  generalize (F &&& (16777215 : Int32)).toInt64 = a at *
  have h4 := c_lshl a (32 : Int32) 32 (by decide)
  have h5 : (s.toInt64 &&& (4294967295 : Int64)).toInt = s.toInt64.toInt % 4294967296 := c_maskL s.toInt64 4294967295 32 (by decide) (by decide)
  have h6 : s.toInt64.toInt = s.toInt := c_i2l s
  generalize a <<< ((32 : Int32) &&& 0x3f).toInt64 = b at *
  generalize (s.toInt64 &&& (4294967295 : Int64)) = d at *
  have rb := rng64 b
  have rd := rng64 d
  have rc := rng64 c
  have h7 := c_orL b d 32 (by decide) 4294967296 (by decide) (by omega) (by omega) (by omega)
  have r7 := rng64 (b ||| d)
  generalize b ||| d = g at *
  have h8 := c_orL c g 56 (by decide) 72057594037927936 (by decide) (by omega) (by omega) (by omega)
  have r8 := rng64 (c ||| g)
  generalize c ||| g = k at *
  have h9 : (k &&& (9223372036854775807 : Int64)).toInt = k.toInt % 9223372036854775808 := c_maskL k 9223372036854775807 63 (by decide) (by decide)
  generalize k &&& (9223372036854775807 : Int64) = m at *
  have h10 := c_ladd (-9223372036854775808 : Int64) m
  have r10 := rng64 ((-9223372036854775808 : Int64) + m)
  have e : (-9223372036854775808 : Int64).toInt = -9223372036854775808 := rfl
  omega
theorem own_codes (p : Int32) : (own_code ((p &&& (2147483647 : Int32)) % (19 : Int32))).toInt = ((p &&& (2147483647 : Int32)) % (19 : Int32)).toInt * 72057594037927936 + (if ((p &&& (2147483647 : Int32)) % (19 : Int32)) < (14 : Int32) then 0 else 4611686018427387904) ∧ 0 ≤ ((p &&& (2147483647 : Int32)) % (19 : Int32)).toInt ∧ ((p &&& (2147483647 : Int32)) % (19 : Int32)).toInt < 19 := by
  rcases own_nineteen p with h | h | h | h | h | h | h | h | h | h | h | h | h | h | h | h | h | h | h <;> rw [h] <;> decide +kernel
theorem own_lt0 (p1 p2 p3 : Int32) : (own_ofv (own_code ((p1 &&& (2147483647 : Int32)) % (19 : Int32))) (p2 &&& (16777215 : Int32)) p3) < (0 : Int64) := by
  have hk := own_codes p1
  have h := own_of (own_code ((p1 &&& (2147483647 : Int32)) % (19 : Int32))) p2 p3 (by split at hk <;> omega) (by split at hk <;> omega)
  have e : (0 : Int64).toInt = 0 := rfl
  rw [Int64.lt_iff_toInt_lt, h, e]
  have := p2.toInt % 16777216
  split at hk <;> omega
theorem own_eq_0_0 (p1 p2 p3 : Int32) (hn : ¬ (p3 < (0 : Int32))) (hm : ¬ (((p1 &&& (2147483647 : Int32)) % (19 : Int32)) < (14 : Int32))) : (own_ofv (own_code ((p1 &&& (2147483647 : Int32)) % (19 : Int32))) (p2 &&& (16777215 : Int32)) p3) = ((((-4611686018427387904 : Int64) + ((((p1 &&& (2147483647 : Int32)) % (19 : Int32)).toInt64) * (72057594037927936 : Int64))) + (((p2 &&& (16777215 : Int32)).toInt64) * (4294967296 : Int64))) + (p3.toInt64)) := by
  have hk := own_codes p1
  have h := own_of (own_code ((p1 &&& (2147483647 : Int32)) % (19 : Int32))) p2 p3 (by split at hk <;> omega) (by split at hk <;> omega)
  rw [← Int64.toInt_inj, h]
  have hn' : ¬ p3.toInt < 0 := fun q => hn (Int32.lt_iff_toInt_lt.mpr q)
  rw [if_neg hm] at hk
  generalize own_code ((p1 &&& (2147483647 : Int32)) % (19 : Int32)) = cd at *
  generalize ((p1 &&& (2147483647 : Int32)) % (19 : Int32)) = t at *
  have h2 : (p2 &&& (16777215 : Int32)).toInt = p2.toInt % 16777216 := c_mask p2 16777215 24 (by decide) (by decide)
  generalize (p2 &&& (16777215 : Int32)) = F at *
  have r3 := rng32 p3
  clear h
  have s1 : ((t.toInt64) * (72057594037927936 : Int64)).toInt = (t.toInt * (72057594037927936)) := own_lmul (c_i2l t) (rfl : (72057594037927936 : Int64).toInt = 72057594037927936) (by omega) (by omega)
  have s2 : ((-4611686018427387904 : Int64) + ((t.toInt64) * (72057594037927936 : Int64))).toInt = ((-4611686018427387904) + (t.toInt * (72057594037927936))) := own_ladd (rfl : (-4611686018427387904 : Int64).toInt = -4611686018427387904) s1 (by omega) (by omega)
  clear s1
  have s3 : ((F.toInt64) * (4294967296 : Int64)).toInt = (F.toInt * (4294967296)) := own_lmul (c_i2l F) (rfl : (4294967296 : Int64).toInt = 4294967296) (by omega) (by omega)
  have s4 : (((-4611686018427387904 : Int64) + ((t.toInt64) * (72057594037927936 : Int64))) + ((F.toInt64) * (4294967296 : Int64))).toInt = (((-4611686018427387904) + (t.toInt * (72057594037927936))) + (F.toInt * (4294967296))) := own_ladd s2 s3 (by omega) (by omega)
  clear s2
  clear s3
  have s5 : ((((-4611686018427387904 : Int64) + ((t.toInt64) * (72057594037927936 : Int64))) + ((F.toInt64) * (4294967296 : Int64))) + (p3.toInt64)).toInt = ((((-4611686018427387904) + (t.toInt * (72057594037927936))) + (F.toInt * (4294967296))) + p3.toInt) := own_ladd s4 (c_i2l p3) (by omega) (by omega)
  clear s4
  rw [s5]
  clear s5
  have k1 := hk.1
  have k2 := hk.2.1
  have k3 := hk.2.2
  clear hk
  omega
theorem own_eq_0_1 (p1 p2 p3 : Int32) (hn : ¬ (p3 < (0 : Int32))) (hm : ((p1 &&& (2147483647 : Int32)) % (19 : Int32)) < (14 : Int32)) : (own_ofv (own_code ((p1 &&& (2147483647 : Int32)) % (19 : Int32))) (p2 &&& (16777215 : Int32)) p3) = ((((-9223372036854775808 : Int64) + ((((p1 &&& (2147483647 : Int32)) % (19 : Int32)).toInt64) * (72057594037927936 : Int64))) + (((p2 &&& (16777215 : Int32)).toInt64) * (4294967296 : Int64))) + (p3.toInt64)) := by
  have hk := own_codes p1
  have h := own_of (own_code ((p1 &&& (2147483647 : Int32)) % (19 : Int32))) p2 p3 (by split at hk <;> omega) (by split at hk <;> omega)
  rw [← Int64.toInt_inj, h]
  have hn' : ¬ p3.toInt < 0 := fun q => hn (Int32.lt_iff_toInt_lt.mpr q)
  rw [if_pos hm] at hk
  generalize own_code ((p1 &&& (2147483647 : Int32)) % (19 : Int32)) = cd at *
  generalize ((p1 &&& (2147483647 : Int32)) % (19 : Int32)) = t at *
  have h2 : (p2 &&& (16777215 : Int32)).toInt = p2.toInt % 16777216 := c_mask p2 16777215 24 (by decide) (by decide)
  generalize (p2 &&& (16777215 : Int32)) = F at *
  have r3 := rng32 p3
  clear h
  have s1 : ((t.toInt64) * (72057594037927936 : Int64)).toInt = (t.toInt * (72057594037927936)) := own_lmul (c_i2l t) (rfl : (72057594037927936 : Int64).toInt = 72057594037927936) (by omega) (by omega)
  have s2 : ((-9223372036854775808 : Int64) + ((t.toInt64) * (72057594037927936 : Int64))).toInt = ((-9223372036854775808) + (t.toInt * (72057594037927936))) := own_ladd (rfl : (-9223372036854775808 : Int64).toInt = -9223372036854775808) s1 (by omega) (by omega)
  clear s1
  have s3 : ((F.toInt64) * (4294967296 : Int64)).toInt = (F.toInt * (4294967296)) := own_lmul (c_i2l F) (rfl : (4294967296 : Int64).toInt = 4294967296) (by omega) (by omega)
  have s4 : (((-9223372036854775808 : Int64) + ((t.toInt64) * (72057594037927936 : Int64))) + ((F.toInt64) * (4294967296 : Int64))).toInt = (((-9223372036854775808) + (t.toInt * (72057594037927936))) + (F.toInt * (4294967296))) := own_ladd s2 s3 (by omega) (by omega)
  clear s2
  clear s3
  have s5 : ((((-9223372036854775808 : Int64) + ((t.toInt64) * (72057594037927936 : Int64))) + ((F.toInt64) * (4294967296 : Int64))) + (p3.toInt64)).toInt = ((((-9223372036854775808) + (t.toInt * (72057594037927936))) + (F.toInt * (4294967296))) + p3.toInt) := own_ladd s4 (c_i2l p3) (by omega) (by omega)
  clear s4
  rw [s5]
  clear s5
  have k1 := hk.1
  have k2 := hk.2.1
  have k3 := hk.2.2
  clear hk
  omega
theorem own_eq_1_0 (p1 p2 p3 : Int32) (hn : p3 < (0 : Int32)) (hm : ¬ (((p1 &&& (2147483647 : Int32)) % (19 : Int32)) < (14 : Int32))) : (own_ofv (own_code ((p1 &&& (2147483647 : Int32)) % (19 : Int32))) (p2 &&& (16777215 : Int32)) p3) = ((((-4611686018427387904 : Int64) + ((((p1 &&& (2147483647 : Int32)) % (19 : Int32)).toInt64) * (72057594037927936 : Int64))) + (((p2 &&& (16777215 : Int32)).toInt64) * (4294967296 : Int64))) + ((p3.toInt64) + (4294967296 : Int64))) := by
  have hk := own_codes p1
  have h := own_of (own_code ((p1 &&& (2147483647 : Int32)) % (19 : Int32))) p2 p3 (by split at hk <;> omega) (by split at hk <;> omega)
  rw [← Int64.toInt_inj, h]
  have hn' : p3.toInt < 0 := Int32.lt_iff_toInt_lt.mp hn
  rw [if_neg hm] at hk
  generalize own_code ((p1 &&& (2147483647 : Int32)) % (19 : Int32)) = cd at *
  generalize ((p1 &&& (2147483647 : Int32)) % (19 : Int32)) = t at *
  have h2 : (p2 &&& (16777215 : Int32)).toInt = p2.toInt % 16777216 := c_mask p2 16777215 24 (by decide) (by decide)
  generalize (p2 &&& (16777215 : Int32)) = F at *
  have r3 := rng32 p3
  clear h
  have s1 : ((t.toInt64) * (72057594037927936 : Int64)).toInt = (t.toInt * (72057594037927936)) := own_lmul (c_i2l t) (rfl : (72057594037927936 : Int64).toInt = 72057594037927936) (by omega) (by omega)
  have s2 : ((-4611686018427387904 : Int64) + ((t.toInt64) * (72057594037927936 : Int64))).toInt = ((-4611686018427387904) + (t.toInt * (72057594037927936))) := own_ladd (rfl : (-4611686018427387904 : Int64).toInt = -4611686018427387904) s1 (by omega) (by omega)
  clear s1
  have s3 : ((F.toInt64) * (4294967296 : Int64)).toInt = (F.toInt * (4294967296)) := own_lmul (c_i2l F) (rfl : (4294967296 : Int64).toInt = 4294967296) (by omega) (by omega)
  have s4 : (((-4611686018427387904 : Int64) + ((t.toInt64) * (72057594037927936 : Int64))) + ((F.toInt64) * (4294967296 : Int64))).toInt = (((-4611686018427387904) + (t.toInt * (72057594037927936))) + (F.toInt * (4294967296))) := own_ladd s2 s3 (by omega) (by omega)
  clear s2
  clear s3
  have s5 : ((p3.toInt64) + (4294967296 : Int64)).toInt = (p3.toInt + (4294967296)) := own_ladd (c_i2l p3) (rfl : (4294967296 : Int64).toInt = 4294967296) (by omega) (by omega)
  have s6 : ((((-4611686018427387904 : Int64) + ((t.toInt64) * (72057594037927936 : Int64))) + ((F.toInt64) * (4294967296 : Int64))) + ((p3.toInt64) + (4294967296 : Int64))).toInt = ((((-4611686018427387904) + (t.toInt * (72057594037927936))) + (F.toInt * (4294967296))) + (p3.toInt + (4294967296))) := own_ladd s4 s5 (by omega) (by omega)
  clear s4
  clear s5
  rw [s6]
  clear s6
  have k1 := hk.1
  have k2 := hk.2.1
  have k3 := hk.2.2
  clear hk
  omega
theorem own_eq_1_1 (p1 p2 p3 : Int32) (hn : p3 < (0 : Int32)) (hm : ((p1 &&& (2147483647 : Int32)) % (19 : Int32)) < (14 : Int32)) : (own_ofv (own_code ((p1 &&& (2147483647 : Int32)) % (19 : Int32))) (p2 &&& (16777215 : Int32)) p3) = ((((-9223372036854775808 : Int64) + ((((p1 &&& (2147483647 : Int32)) % (19 : Int32)).toInt64) * (72057594037927936 : Int64))) + (((p2 &&& (16777215 : Int32)).toInt64) * (4294967296 : Int64))) + ((p3.toInt64) + (4294967296 : Int64))) := by
  have hk := own_codes p1
  have h := own_of (own_code ((p1 &&& (2147483647 : Int32)) % (19 : Int32))) p2 p3 (by split at hk <;> omega) (by split at hk <;> omega)
  rw [← Int64.toInt_inj, h]
  have hn' : p3.toInt < 0 := Int32.lt_iff_toInt_lt.mp hn
  rw [if_pos hm] at hk
  generalize own_code ((p1 &&& (2147483647 : Int32)) % (19 : Int32)) = cd at *
  generalize ((p1 &&& (2147483647 : Int32)) % (19 : Int32)) = t at *
  have h2 : (p2 &&& (16777215 : Int32)).toInt = p2.toInt % 16777216 := c_mask p2 16777215 24 (by decide) (by decide)
  generalize (p2 &&& (16777215 : Int32)) = F at *
  have r3 := rng32 p3
  clear h
  have s1 : ((t.toInt64) * (72057594037927936 : Int64)).toInt = (t.toInt * (72057594037927936)) := own_lmul (c_i2l t) (rfl : (72057594037927936 : Int64).toInt = 72057594037927936) (by omega) (by omega)
  have s2 : ((-9223372036854775808 : Int64) + ((t.toInt64) * (72057594037927936 : Int64))).toInt = ((-9223372036854775808) + (t.toInt * (72057594037927936))) := own_ladd (rfl : (-9223372036854775808 : Int64).toInt = -9223372036854775808) s1 (by omega) (by omega)
  clear s1
  have s3 : ((F.toInt64) * (4294967296 : Int64)).toInt = (F.toInt * (4294967296)) := own_lmul (c_i2l F) (rfl : (4294967296 : Int64).toInt = 4294967296) (by omega) (by omega)
  have s4 : (((-9223372036854775808 : Int64) + ((t.toInt64) * (72057594037927936 : Int64))) + ((F.toInt64) * (4294967296 : Int64))).toInt = (((-9223372036854775808) + (t.toInt * (72057594037927936))) + (F.toInt * (4294967296))) := own_ladd s2 s3 (by omega) (by omega)
  clear s2
  clear s3
  have s5 : ((p3.toInt64) + (4294967296 : Int64)).toInt = (p3.toInt + (4294967296)) := own_ladd (c_i2l p3) (rfl : (4294967296 : Int64).toInt = 4294967296) (by omega) (by omega)
  have s6 : ((((-9223372036854775808 : Int64) + ((t.toInt64) * (72057594037927936 : Int64))) + ((F.toInt64) * (4294967296 : Int64))) + ((p3.toInt64) + (4294967296 : Int64))).toInt = ((((-9223372036854775808) + (t.toInt * (72057594037927936))) + (F.toInt * (4294967296))) + (p3.toInt + (4294967296))) := own_ladd s4 s5 (by omega) (by omega)
  clear s4
  clear s5
  rw [s6]
  clear s6
  have k1 := hk.1
  have k2 := hk.2.1
  have k3 := hk.2.2
  clear hk
  omega
def own_World (Z : State) (w : Nat → Addr) : Prop := Sta Z Z.heap "com/example/loudline/loudline/packet/Refusal" "FRAME_TOO_SHORT" "Lcom/example/loudline/loudline/packet/Refusal;" (.ref (w 0)) ∧ Exa Z Z.heap (w 0) "com/example/loudline/loudline/packet/Refusal" ∧ Sta Z Z.heap "com/example/loudline/loudline/packet/Refusal" "NOT_IPV4" "Lcom/example/loudline/loudline/packet/Refusal;" (.ref (w 1)) ∧ Exa Z Z.heap (w 1) "com/example/loudline/loudline/packet/Refusal" ∧ Sta Z Z.heap "com/example/loudline/loudline/packet/Refusal" "RTCP" "Lcom/example/loudline/loudline/packet/Refusal;" (.ref (w 2)) ∧ Exa Z Z.heap (w 2) "com/example/loudline/loudline/packet/Refusal" ∧ Sta Z Z.heap "com/example/loudline/loudline/packet/Refusal" "NOT_RTP_VERSION" "Lcom/example/loudline/loudline/packet/Refusal;" (.ref (w 3)) ∧ Exa Z Z.heap (w 3) "com/example/loudline/loudline/packet/Refusal" ∧ Sta Z Z.heap "com/example/loudline/loudline/packet/Refusal" "UDP_LENGTH_PAST_IPV4" "Lcom/example/loudline/loudline/packet/Refusal;" (.ref (w 4)) ∧ Exa Z Z.heap (w 4) "com/example/loudline/loudline/packet/Refusal" ∧ Sta Z Z.heap "com/example/loudline/loudline/packet/Refusal" "IPV4_HEADER_TOO_SHORT" "Lcom/example/loudline/loudline/packet/Refusal;" (.ref (w 5)) ∧ Exa Z Z.heap (w 5) "com/example/loudline/loudline/packet/Refusal" ∧ Sta Z Z.heap "com/example/loudline/loudline/packet/Refusal" "EMPTY_DATAGRAM" "Lcom/example/loudline/loudline/packet/Refusal;" (.ref (w 6)) ∧ Exa Z Z.heap (w 6) "com/example/loudline/loudline/packet/Refusal" ∧ Sta Z Z.heap "com/example/loudline/loudline/packet/Refusal" "BLOCK_HEADER_PAST_DATAGRAM" "Lcom/example/loudline/loudline/packet/Refusal;" (.ref (w 7)) ∧ Exa Z Z.heap (w 7) "com/example/loudline/loudline/packet/Refusal" ∧ Sta Z Z.heap "com/example/loudline/loudline/packet/Refusal" "BLOCK_PAST_DATAGRAM" "Lcom/example/loudline/loudline/packet/Refusal;" (.ref (w 8)) ∧ Exa Z Z.heap (w 8) "com/example/loudline/loudline/packet/Refusal" ∧ Sta Z Z.heap "com/example/loudline/loudline/packet/Refusal" "NOT_IP_VERSION_4" "Lcom/example/loudline/loudline/packet/Refusal;" (.ref (w 9)) ∧ Exa Z Z.heap (w 9) "com/example/loudline/loudline/packet/Refusal" ∧ Sta Z Z.heap "com/example/loudline/loudline/packet/Refusal" "SHORTER_THAN_HEADER" "Lcom/example/loudline/loudline/packet/Refusal;" (.ref (w 10)) ∧ Exa Z Z.heap (w 10) "com/example/loudline/loudline/packet/Refusal" ∧ Sta Z Z.heap "com/example/loudline/loudline/packet/Refusal" "UDP_LENGTH_TOO_SHORT" "Lcom/example/loudline/loudline/packet/Refusal;" (.ref (w 11)) ∧ Exa Z Z.heap (w 11) "com/example/loudline/loudline/packet/Refusal" ∧ Sta Z Z.heap "com/example/loudline/loudline/packet/Refusal" "HEADER_NOT_CAPTURED" "Lcom/example/loudline/loudline/packet/Refusal;" (.ref (w 12)) ∧ Exa Z Z.heap (w 12) "com/example/loudline/loudline/packet/Refusal" ∧ Sta Z Z.heap "com/example/loudline/loudline/packet/Refusal" "FRAGMENT" "Lcom/example/loudline/loudline/packet/Refusal;" (.ref (w 13)) ∧ Exa Z Z.heap (w 13) "com/example/loudline/loudline/packet/Refusal" ∧ Sta Z Z.heap "com/example/loudline/loudline/packet/Refusal" "IPV4_PAST_FRAME" "Lcom/example/loudline/loudline/packet/Refusal;" (.ref (w 14)) ∧ Exa Z Z.heap (w 14) "com/example/loudline/loudline/packet/Refusal" ∧ Sta Z Z.heap "com/example/loudline/loudline/packet/Refusal" "CSRC_LIST_PAST_DATAGRAM" "Lcom/example/loudline/loudline/packet/Refusal;" (.ref (w 15)) ∧ Exa Z Z.heap (w 15) "com/example/loudline/loudline/packet/Refusal" ∧ Sta Z Z.heap "com/example/loudline/loudline/packet/Refusal" "NO_UDP_HEADER" "Lcom/example/loudline/loudline/packet/Refusal;" (.ref (w 16)) ∧ Exa Z Z.heap (w 16) "com/example/loudline/loudline/packet/Refusal" ∧ Sta Z Z.heap "com/example/loudline/loudline/packet/Refusal" "NOT_UDP" "Lcom/example/loudline/loudline/packet/Refusal;" (.ref (w 17)) ∧ Exa Z Z.heap (w 17) "com/example/loudline/loudline/packet/Refusal" ∧ Sta Z Z.heap "com/example/loudline/loudline/packet/Refusal" "PADDING_COUNT" "Lcom/example/loudline/loudline/packet/Refusal;" (.ref (w 18)) ∧ Exa Z Z.heap (w 18) "com/example/loudline/loudline/packet/Refusal" ∧ Fld Z Z.heap (w 0) "com/example/loudline/loudline/packet/Refusal" "code" "J" (.long 0) ∧ Fld Z Z.heap (w 1) "com/example/loudline/loudline/packet/Refusal" "code" "J" (.long 72057594037927936) ∧ Fld Z Z.heap (w 2) "com/example/loudline/loudline/packet/Refusal" "code" "J" (.long 864691128455135232) ∧ Fld Z Z.heap (w 3) "com/example/loudline/loudline/packet/Refusal" "code" "J" (.long 792633534417207296) ∧ Fld Z Z.heap (w 4) "com/example/loudline/loudline/packet/Refusal" "code" "J" (.long 576460752303423488) ∧ Fld Z Z.heap (w 5) "com/example/loudline/loudline/packet/Refusal" "code" "J" (.long 216172782113783808) ∧ Fld Z Z.heap (w 6) "com/example/loudline/loudline/packet/Refusal" "code" "J" (.long 720575940379279360) ∧ Fld Z Z.heap (w 7) "com/example/loudline/loudline/packet/Refusal" "code" "J" (.long 5764607523034234880) ∧ Fld Z Z.heap (w 8) "com/example/loudline/loudline/packet/Refusal" "code" "J" (.long 5836665117072162816) ∧ Fld Z Z.heap (w 9) "com/example/loudline/loudline/packet/Refusal" "code" "J" (.long 144115188075855872) ∧ Fld Z Z.heap (w 10) "com/example/loudline/loudline/packet/Refusal" "code" "J" (.long 5620492334958379008) ∧ Fld Z Z.heap (w 11) "com/example/loudline/loudline/packet/Refusal" "code" "J" (.long 504403158265495552) ∧ Fld Z Z.heap (w 12) "com/example/loudline/loudline/packet/Refusal" "code" "J" (.long 936748722493063168) ∧ Fld Z Z.heap (w 13) "com/example/loudline/loudline/packet/Refusal" "code" "J" (.long 360287970189639680) ∧ Fld Z Z.heap (w 14) "com/example/loudline/loudline/packet/Refusal" "code" "J" (.long 648518346341351424) ∧ Fld Z Z.heap (w 15) "com/example/loudline/loudline/packet/Refusal" "code" "J" (.long 5692549928996306944) ∧ Fld Z Z.heap (w 16) "com/example/loudline/loudline/packet/Refusal" "code" "J" (.long 432345564227567616) ∧ Fld Z Z.heap (w 17) "com/example/loudline/loudline/packet/Refusal" "code" "J" (.long 288230376151711744) ∧ Fld Z Z.heap (w 18) "com/example/loudline/loudline/packet/Refusal" "code" "J" (.long 5908722711110090752)
theorem own_world {args : Array Value} {s : State} (hw : ∀ d ∈ tables_1, d.before args s = true) (hfit : Fit s) (hn : narrow_1.value args s none s [] = some true) : ∃ w : Nat → Addr, own_World s w := by
  obtain ⟨h0, q1⟩ := and_e hn
  obtain ⟨h1, q3⟩ := and_e q1
  obtain ⟨h2, q5⟩ := and_e q3
  obtain ⟨h3, q7⟩ := and_e q5
  obtain ⟨h4, q9⟩ := and_e q7
  obtain ⟨h5, q11⟩ := and_e q9
  obtain ⟨h6, q13⟩ := and_e q11
  obtain ⟨h7, q15⟩ := and_e q13
  obtain ⟨h8, q17⟩ := and_e q15
  obtain ⟨h9, q19⟩ := and_e q17
  obtain ⟨h10, q21⟩ := and_e q19
  obtain ⟨h11, q23⟩ := and_e q21
  obtain ⟨h12, q25⟩ := and_e q23
  obtain ⟨h13, q27⟩ := and_e q25
  obtain ⟨h14, q29⟩ := and_e q27
  obtain ⟨h15, q31⟩ := and_e q29
  obtain ⟨h16, q33⟩ := and_e q31
  obtain ⟨h17, q35⟩ := and_e q33
  obtain ⟨h18, q37⟩ := and_e q35
  obtain ⟨h19, q39⟩ := and_e q37
  obtain ⟨h20, q41⟩ := and_e q39
  obtain ⟨h21, q43⟩ := and_e q41
  obtain ⟨h22, q45⟩ := and_e q43
  obtain ⟨h23, q47⟩ := and_e q45
  obtain ⟨h24, q49⟩ := and_e q47
  obtain ⟨h25, q51⟩ := and_e q49
  obtain ⟨h26, q53⟩ := and_e q51
  obtain ⟨h27, q55⟩ := and_e q53
  obtain ⟨h28, q57⟩ := and_e q55
  obtain ⟨h29, q59⟩ := and_e q57
  obtain ⟨h30, q61⟩ := and_e q59
  obtain ⟨h31, q63⟩ := and_e q61
  obtain ⟨h32, q65⟩ := and_e q63
  obtain ⟨h33, q67⟩ := and_e q65
  obtain ⟨h34, q69⟩ := and_e q67
  obtain ⟨h35, q71⟩ := and_e q69
  obtain ⟨h36, h37⟩ := and_e q71
  obtain ⟨c0, e0⟩ := exa_v h0
  obtain ⟨c1, e1⟩ := exa_v h2
  obtain ⟨c2, e2⟩ := exa_v h4
  obtain ⟨c3, e3⟩ := exa_v h6
  obtain ⟨c4, e4⟩ := exa_v h8
  obtain ⟨c5, e5⟩ := exa_v h10
  obtain ⟨c6, e6⟩ := exa_v h12
  obtain ⟨c7, e7⟩ := exa_v h14
  obtain ⟨c8, e8⟩ := exa_v h16
  obtain ⟨c9, e9⟩ := exa_v h18
  obtain ⟨c10, e10⟩ := exa_v h20
  obtain ⟨c11, e11⟩ := exa_v h22
  obtain ⟨c12, e12⟩ := exa_v h24
  obtain ⟨c13, e13⟩ := exa_v h26
  obtain ⟨c14, e14⟩ := exa_v h28
  obtain ⟨c15, e15⟩ := exa_v h30
  obtain ⟨c16, e16⟩ := exa_v h32
  obtain ⟨c17, e17⟩ := exa_v h34
  obtain ⟨c18, e18⟩ := exa_v h36
  exact ⟨fun n => ([c0, c1, c2, c3, c4, c5, c6, c7, c8, c9, c10, c11, c12, c13, c14, c15, c16, c17, c18] : List Nat).getD n 0, Sta.start e0 (Or.inr ⟨(oW hw 7 rfl), (oW hw 8 rfl)⟩), Exa.start e0 h0, Sta.start e1 (Or.inr ⟨(oW hw 7 rfl), (oW hw 24 rfl)⟩), Exa.start e1 h2, Sta.start e2 (Or.inr ⟨(oW hw 7 rfl), (oW hw 26 rfl)⟩), Exa.start e2 h4, Sta.start e3 (Or.inr ⟨(oW hw 7 rfl), (oW hw 28 rfl)⟩), Exa.start e3 h6, Sta.start e4 (Or.inr ⟨(oW hw 7 rfl), (oW hw 30 rfl)⟩), Exa.start e4 h8, Sta.start e5 (Or.inr ⟨(oW hw 7 rfl), (oW hw 32 rfl)⟩), Exa.start e5 h10, Sta.start e6 (Or.inr ⟨(oW hw 7 rfl), (oW hw 34 rfl)⟩), Exa.start e6 h12, Sta.start e7 (Or.inr ⟨(oW hw 7 rfl), (oW hw 36 rfl)⟩), Exa.start e7 h14, Sta.start e8 (Or.inr ⟨(oW hw 7 rfl), (oW hw 39 rfl)⟩), Exa.start e8 h16, Sta.start e9 (Or.inr ⟨(oW hw 7 rfl), (oW hw 41 rfl)⟩), Exa.start e9 h18, Sta.start e10 (Or.inr ⟨(oW hw 7 rfl), (oW hw 43 rfl)⟩), Exa.start e10 h20, Sta.start e11 (Or.inr ⟨(oW hw 7 rfl), (oW hw 45 rfl)⟩), Exa.start e11 h22, Sta.start e12 (Or.inr ⟨(oW hw 7 rfl), (oW hw 47 rfl)⟩), Exa.start e12 h24, Sta.start e13 (Or.inr ⟨(oW hw 7 rfl), (oW hw 49 rfl)⟩), Exa.start e13 h26, Sta.start e14 (Or.inr ⟨(oW hw 7 rfl), (oW hw 51 rfl)⟩), Exa.start e14 h28, Sta.start e15 (Or.inr ⟨(oW hw 7 rfl), (oW hw 53 rfl)⟩), Exa.start e15 h30, Sta.start e16 (Or.inr ⟨(oW hw 7 rfl), (oW hw 55 rfl)⟩), Exa.start e16 h32, Sta.start e17 (Or.inr ⟨(oW hw 7 rfl), (oW hw 57 rfl)⟩), Exa.start e17 h34, Sta.start e18 (Or.inr ⟨(oW hw 7 rfl), (oW hw 59 rfl)⟩), Exa.start e18 h36, Fld.start ((fld_at e0).symm.trans (own_eqv h1 rfl)), Fld.start ((fld_at e1).symm.trans (own_eqv h3 rfl)), Fld.start ((fld_at e2).symm.trans (own_eqv h5 rfl)), Fld.start ((fld_at e3).symm.trans (own_eqv h7 rfl)), Fld.start ((fld_at e4).symm.trans (own_eqv h9 rfl)), Fld.start ((fld_at e5).symm.trans (own_eqv h11 rfl)), Fld.start ((fld_at e6).symm.trans (own_eqv h13 rfl)), Fld.start ((fld_at e7).symm.trans (own_eqv h15 rfl)), Fld.start ((fld_at e8).symm.trans (own_eqv h17 rfl)), Fld.start ((fld_at e9).symm.trans (own_eqv h19 rfl)), Fld.start ((fld_at e10).symm.trans (own_eqv h21 rfl)), Fld.start ((fld_at e11).symm.trans (own_eqv h23 rfl)), Fld.start ((fld_at e12).symm.trans (own_eqv h25 rfl)), Fld.start ((fld_at e13).symm.trans (own_eqv h27 rfl)), Fld.start ((fld_at e14).symm.trans (own_eqv h29 rfl)), Fld.start ((fld_at e15).symm.trans (own_eqv h31 rfl)), Fld.start ((fld_at e16).symm.trans (own_eqv h33 rfl)), Fld.start ((fld_at e17).symm.trans (own_eqv h35 rfl)), Fld.start ((fld_at e18).symm.trans (own_eqv h37 rfl))⟩
theorem wS0 {Z : State} {w : Nat → Addr} (W : own_World Z w) : Sta Z Z.heap "com/example/loudline/loudline/packet/Refusal" "FRAME_TOO_SHORT" "Lcom/example/loudline/loudline/packet/Refusal;" (.ref (w 0)) := W.1
theorem wE0 {Z : State} {w : Nat → Addr} (W : own_World Z w) : Exa Z Z.heap (w 0) "com/example/loudline/loudline/packet/Refusal" := W.2.1
theorem wS1 {Z : State} {w : Nat → Addr} (W : own_World Z w) : Sta Z Z.heap "com/example/loudline/loudline/packet/Refusal" "NOT_IPV4" "Lcom/example/loudline/loudline/packet/Refusal;" (.ref (w 1)) := W.2.2.1
theorem wE1 {Z : State} {w : Nat → Addr} (W : own_World Z w) : Exa Z Z.heap (w 1) "com/example/loudline/loudline/packet/Refusal" := W.2.2.2.1
theorem wS2 {Z : State} {w : Nat → Addr} (W : own_World Z w) : Sta Z Z.heap "com/example/loudline/loudline/packet/Refusal" "RTCP" "Lcom/example/loudline/loudline/packet/Refusal;" (.ref (w 2)) := W.2.2.2.2.1
theorem wE2 {Z : State} {w : Nat → Addr} (W : own_World Z w) : Exa Z Z.heap (w 2) "com/example/loudline/loudline/packet/Refusal" := W.2.2.2.2.2.1
theorem wS3 {Z : State} {w : Nat → Addr} (W : own_World Z w) : Sta Z Z.heap "com/example/loudline/loudline/packet/Refusal" "NOT_RTP_VERSION" "Lcom/example/loudline/loudline/packet/Refusal;" (.ref (w 3)) := W.2.2.2.2.2.2.1
theorem wE3 {Z : State} {w : Nat → Addr} (W : own_World Z w) : Exa Z Z.heap (w 3) "com/example/loudline/loudline/packet/Refusal" := W.2.2.2.2.2.2.2.1
theorem wS4 {Z : State} {w : Nat → Addr} (W : own_World Z w) : Sta Z Z.heap "com/example/loudline/loudline/packet/Refusal" "UDP_LENGTH_PAST_IPV4" "Lcom/example/loudline/loudline/packet/Refusal;" (.ref (w 4)) := W.2.2.2.2.2.2.2.2.1
theorem wE4 {Z : State} {w : Nat → Addr} (W : own_World Z w) : Exa Z Z.heap (w 4) "com/example/loudline/loudline/packet/Refusal" := W.2.2.2.2.2.2.2.2.2.1
theorem wS5 {Z : State} {w : Nat → Addr} (W : own_World Z w) : Sta Z Z.heap "com/example/loudline/loudline/packet/Refusal" "IPV4_HEADER_TOO_SHORT" "Lcom/example/loudline/loudline/packet/Refusal;" (.ref (w 5)) := W.2.2.2.2.2.2.2.2.2.2.1
theorem wE5 {Z : State} {w : Nat → Addr} (W : own_World Z w) : Exa Z Z.heap (w 5) "com/example/loudline/loudline/packet/Refusal" := W.2.2.2.2.2.2.2.2.2.2.2.1
theorem wS6 {Z : State} {w : Nat → Addr} (W : own_World Z w) : Sta Z Z.heap "com/example/loudline/loudline/packet/Refusal" "EMPTY_DATAGRAM" "Lcom/example/loudline/loudline/packet/Refusal;" (.ref (w 6)) := W.2.2.2.2.2.2.2.2.2.2.2.2.1
theorem wE6 {Z : State} {w : Nat → Addr} (W : own_World Z w) : Exa Z Z.heap (w 6) "com/example/loudline/loudline/packet/Refusal" := W.2.2.2.2.2.2.2.2.2.2.2.2.2.1
theorem wS7 {Z : State} {w : Nat → Addr} (W : own_World Z w) : Sta Z Z.heap "com/example/loudline/loudline/packet/Refusal" "BLOCK_HEADER_PAST_DATAGRAM" "Lcom/example/loudline/loudline/packet/Refusal;" (.ref (w 7)) := W.2.2.2.2.2.2.2.2.2.2.2.2.2.2.1
theorem wE7 {Z : State} {w : Nat → Addr} (W : own_World Z w) : Exa Z Z.heap (w 7) "com/example/loudline/loudline/packet/Refusal" := W.2.2.2.2.2.2.2.2.2.2.2.2.2.2.2.1
theorem wS8 {Z : State} {w : Nat → Addr} (W : own_World Z w) : Sta Z Z.heap "com/example/loudline/loudline/packet/Refusal" "BLOCK_PAST_DATAGRAM" "Lcom/example/loudline/loudline/packet/Refusal;" (.ref (w 8)) := W.2.2.2.2.2.2.2.2.2.2.2.2.2.2.2.2.1
theorem wE8 {Z : State} {w : Nat → Addr} (W : own_World Z w) : Exa Z Z.heap (w 8) "com/example/loudline/loudline/packet/Refusal" := W.2.2.2.2.2.2.2.2.2.2.2.2.2.2.2.2.2.1
theorem wS9 {Z : State} {w : Nat → Addr} (W : own_World Z w) : Sta Z Z.heap "com/example/loudline/loudline/packet/Refusal" "NOT_IP_VERSION_4" "Lcom/example/loudline/loudline/packet/Refusal;" (.ref (w 9)) := W.2.2.2.2.2.2.2.2.2.2.2.2.2.2.2.2.2.2.1
theorem wE9 {Z : State} {w : Nat → Addr} (W : own_World Z w) : Exa Z Z.heap (w 9) "com/example/loudline/loudline/packet/Refusal" := W.2.2.2.2.2.2.2.2.2.2.2.2.2.2.2.2.2.2.2.1
theorem wS10 {Z : State} {w : Nat → Addr} (W : own_World Z w) : Sta Z Z.heap "com/example/loudline/loudline/packet/Refusal" "SHORTER_THAN_HEADER" "Lcom/example/loudline/loudline/packet/Refusal;" (.ref (w 10)) := W.2.2.2.2.2.2.2.2.2.2.2.2.2.2.2.2.2.2.2.2.1
theorem wE10 {Z : State} {w : Nat → Addr} (W : own_World Z w) : Exa Z Z.heap (w 10) "com/example/loudline/loudline/packet/Refusal" := W.2.2.2.2.2.2.2.2.2.2.2.2.2.2.2.2.2.2.2.2.2.1
theorem wS11 {Z : State} {w : Nat → Addr} (W : own_World Z w) : Sta Z Z.heap "com/example/loudline/loudline/packet/Refusal" "UDP_LENGTH_TOO_SHORT" "Lcom/example/loudline/loudline/packet/Refusal;" (.ref (w 11)) := W.2.2.2.2.2.2.2.2.2.2.2.2.2.2.2.2.2.2.2.2.2.2.1
theorem wE11 {Z : State} {w : Nat → Addr} (W : own_World Z w) : Exa Z Z.heap (w 11) "com/example/loudline/loudline/packet/Refusal" := W.2.2.2.2.2.2.2.2.2.2.2.2.2.2.2.2.2.2.2.2.2.2.2.1
theorem wS12 {Z : State} {w : Nat → Addr} (W : own_World Z w) : Sta Z Z.heap "com/example/loudline/loudline/packet/Refusal" "HEADER_NOT_CAPTURED" "Lcom/example/loudline/loudline/packet/Refusal;" (.ref (w 12)) := W.2.2.2.2.2.2.2.2.2.2.2.2.2.2.2.2.2.2.2.2.2.2.2.2.1
theorem wE12 {Z : State} {w : Nat → Addr} (W : own_World Z w) : Exa Z Z.heap (w 12) "com/example/loudline/loudline/packet/Refusal" := W.2.2.2.2.2.2.2.2.2.2.2.2.2.2.2.2.2.2.2.2.2.2.2.2.2.1
theorem wS13 {Z : State} {w : Nat → Addr} (W : own_World Z w) : Sta Z Z.heap "com/example/loudline/loudline/packet/Refusal" "FRAGMENT" "Lcom/example/loudline/loudline/packet/Refusal;" (.ref (w 13)) := W.2.2.2.2.2.2.2.2.2.2.2.2.2.2.2.2.2.2.2.2.2.2.2.2.2.2.1
theorem wE13 {Z : State} {w : Nat → Addr} (W : own_World Z w) : Exa Z Z.heap (w 13) "com/example/loudline/loudline/packet/Refusal" := W.2.2.2.2.2.2.2.2.2.2.2.2.2.2.2.2.2.2.2.2.2.2.2.2.2.2.2.1
theorem wS14 {Z : State} {w : Nat → Addr} (W : own_World Z w) : Sta Z Z.heap "com/example/loudline/loudline/packet/Refusal" "IPV4_PAST_FRAME" "Lcom/example/loudline/loudline/packet/Refusal;" (.ref (w 14)) := W.2.2.2.2.2.2.2.2.2.2.2.2.2.2.2.2.2.2.2.2.2.2.2.2.2.2.2.2.1
theorem wE14 {Z : State} {w : Nat → Addr} (W : own_World Z w) : Exa Z Z.heap (w 14) "com/example/loudline/loudline/packet/Refusal" := W.2.2.2.2.2.2.2.2.2.2.2.2.2.2.2.2.2.2.2.2.2.2.2.2.2.2.2.2.2.1
theorem wS15 {Z : State} {w : Nat → Addr} (W : own_World Z w) : Sta Z Z.heap "com/example/loudline/loudline/packet/Refusal" "CSRC_LIST_PAST_DATAGRAM" "Lcom/example/loudline/loudline/packet/Refusal;" (.ref (w 15)) := W.2.2.2.2.2.2.2.2.2.2.2.2.2.2.2.2.2.2.2.2.2.2.2.2.2.2.2.2.2.2.1
theorem wE15 {Z : State} {w : Nat → Addr} (W : own_World Z w) : Exa Z Z.heap (w 15) "com/example/loudline/loudline/packet/Refusal" := W.2.2.2.2.2.2.2.2.2.2.2.2.2.2.2.2.2.2.2.2.2.2.2.2.2.2.2.2.2.2.2.1
theorem wS16 {Z : State} {w : Nat → Addr} (W : own_World Z w) : Sta Z Z.heap "com/example/loudline/loudline/packet/Refusal" "NO_UDP_HEADER" "Lcom/example/loudline/loudline/packet/Refusal;" (.ref (w 16)) := W.2.2.2.2.2.2.2.2.2.2.2.2.2.2.2.2.2.2.2.2.2.2.2.2.2.2.2.2.2.2.2.2.1
theorem wE16 {Z : State} {w : Nat → Addr} (W : own_World Z w) : Exa Z Z.heap (w 16) "com/example/loudline/loudline/packet/Refusal" := W.2.2.2.2.2.2.2.2.2.2.2.2.2.2.2.2.2.2.2.2.2.2.2.2.2.2.2.2.2.2.2.2.2.1
theorem wS17 {Z : State} {w : Nat → Addr} (W : own_World Z w) : Sta Z Z.heap "com/example/loudline/loudline/packet/Refusal" "NOT_UDP" "Lcom/example/loudline/loudline/packet/Refusal;" (.ref (w 17)) := W.2.2.2.2.2.2.2.2.2.2.2.2.2.2.2.2.2.2.2.2.2.2.2.2.2.2.2.2.2.2.2.2.2.2.1
theorem wE17 {Z : State} {w : Nat → Addr} (W : own_World Z w) : Exa Z Z.heap (w 17) "com/example/loudline/loudline/packet/Refusal" := W.2.2.2.2.2.2.2.2.2.2.2.2.2.2.2.2.2.2.2.2.2.2.2.2.2.2.2.2.2.2.2.2.2.2.2.1
theorem wS18 {Z : State} {w : Nat → Addr} (W : own_World Z w) : Sta Z Z.heap "com/example/loudline/loudline/packet/Refusal" "PADDING_COUNT" "Lcom/example/loudline/loudline/packet/Refusal;" (.ref (w 18)) := W.2.2.2.2.2.2.2.2.2.2.2.2.2.2.2.2.2.2.2.2.2.2.2.2.2.2.2.2.2.2.2.2.2.2.2.2.1
theorem wE18 {Z : State} {w : Nat → Addr} (W : own_World Z w) : Exa Z Z.heap (w 18) "com/example/loudline/loudline/packet/Refusal" := W.2.2.2.2.2.2.2.2.2.2.2.2.2.2.2.2.2.2.2.2.2.2.2.2.2.2.2.2.2.2.2.2.2.2.2.2.2.1
theorem wF0_code {Z : State} {w : Nat → Addr} (W : own_World Z w) : Fld Z Z.heap (w 0) "com/example/loudline/loudline/packet/Refusal" "code" "J" (.long 0) := W.2.2.2.2.2.2.2.2.2.2.2.2.2.2.2.2.2.2.2.2.2.2.2.2.2.2.2.2.2.2.2.2.2.2.2.2.2.2.1
theorem wF1_code {Z : State} {w : Nat → Addr} (W : own_World Z w) : Fld Z Z.heap (w 1) "com/example/loudline/loudline/packet/Refusal" "code" "J" (.long 72057594037927936) := W.2.2.2.2.2.2.2.2.2.2.2.2.2.2.2.2.2.2.2.2.2.2.2.2.2.2.2.2.2.2.2.2.2.2.2.2.2.2.2.1
theorem wF2_code {Z : State} {w : Nat → Addr} (W : own_World Z w) : Fld Z Z.heap (w 2) "com/example/loudline/loudline/packet/Refusal" "code" "J" (.long 864691128455135232) := W.2.2.2.2.2.2.2.2.2.2.2.2.2.2.2.2.2.2.2.2.2.2.2.2.2.2.2.2.2.2.2.2.2.2.2.2.2.2.2.2.1
theorem wF3_code {Z : State} {w : Nat → Addr} (W : own_World Z w) : Fld Z Z.heap (w 3) "com/example/loudline/loudline/packet/Refusal" "code" "J" (.long 792633534417207296) := W.2.2.2.2.2.2.2.2.2.2.2.2.2.2.2.2.2.2.2.2.2.2.2.2.2.2.2.2.2.2.2.2.2.2.2.2.2.2.2.2.2.1
theorem wF4_code {Z : State} {w : Nat → Addr} (W : own_World Z w) : Fld Z Z.heap (w 4) "com/example/loudline/loudline/packet/Refusal" "code" "J" (.long 576460752303423488) := W.2.2.2.2.2.2.2.2.2.2.2.2.2.2.2.2.2.2.2.2.2.2.2.2.2.2.2.2.2.2.2.2.2.2.2.2.2.2.2.2.2.2.1
theorem wF5_code {Z : State} {w : Nat → Addr} (W : own_World Z w) : Fld Z Z.heap (w 5) "com/example/loudline/loudline/packet/Refusal" "code" "J" (.long 216172782113783808) := W.2.2.2.2.2.2.2.2.2.2.2.2.2.2.2.2.2.2.2.2.2.2.2.2.2.2.2.2.2.2.2.2.2.2.2.2.2.2.2.2.2.2.2.1
theorem wF6_code {Z : State} {w : Nat → Addr} (W : own_World Z w) : Fld Z Z.heap (w 6) "com/example/loudline/loudline/packet/Refusal" "code" "J" (.long 720575940379279360) := W.2.2.2.2.2.2.2.2.2.2.2.2.2.2.2.2.2.2.2.2.2.2.2.2.2.2.2.2.2.2.2.2.2.2.2.2.2.2.2.2.2.2.2.2.1
theorem wF7_code {Z : State} {w : Nat → Addr} (W : own_World Z w) : Fld Z Z.heap (w 7) "com/example/loudline/loudline/packet/Refusal" "code" "J" (.long 5764607523034234880) := W.2.2.2.2.2.2.2.2.2.2.2.2.2.2.2.2.2.2.2.2.2.2.2.2.2.2.2.2.2.2.2.2.2.2.2.2.2.2.2.2.2.2.2.2.2.1
theorem wF8_code {Z : State} {w : Nat → Addr} (W : own_World Z w) : Fld Z Z.heap (w 8) "com/example/loudline/loudline/packet/Refusal" "code" "J" (.long 5836665117072162816) := W.2.2.2.2.2.2.2.2.2.2.2.2.2.2.2.2.2.2.2.2.2.2.2.2.2.2.2.2.2.2.2.2.2.2.2.2.2.2.2.2.2.2.2.2.2.2.1
theorem wF9_code {Z : State} {w : Nat → Addr} (W : own_World Z w) : Fld Z Z.heap (w 9) "com/example/loudline/loudline/packet/Refusal" "code" "J" (.long 144115188075855872) := W.2.2.2.2.2.2.2.2.2.2.2.2.2.2.2.2.2.2.2.2.2.2.2.2.2.2.2.2.2.2.2.2.2.2.2.2.2.2.2.2.2.2.2.2.2.2.2.1
theorem wF10_code {Z : State} {w : Nat → Addr} (W : own_World Z w) : Fld Z Z.heap (w 10) "com/example/loudline/loudline/packet/Refusal" "code" "J" (.long 5620492334958379008) := W.2.2.2.2.2.2.2.2.2.2.2.2.2.2.2.2.2.2.2.2.2.2.2.2.2.2.2.2.2.2.2.2.2.2.2.2.2.2.2.2.2.2.2.2.2.2.2.2.1
theorem wF11_code {Z : State} {w : Nat → Addr} (W : own_World Z w) : Fld Z Z.heap (w 11) "com/example/loudline/loudline/packet/Refusal" "code" "J" (.long 504403158265495552) := W.2.2.2.2.2.2.2.2.2.2.2.2.2.2.2.2.2.2.2.2.2.2.2.2.2.2.2.2.2.2.2.2.2.2.2.2.2.2.2.2.2.2.2.2.2.2.2.2.2.1
theorem wF12_code {Z : State} {w : Nat → Addr} (W : own_World Z w) : Fld Z Z.heap (w 12) "com/example/loudline/loudline/packet/Refusal" "code" "J" (.long 936748722493063168) := W.2.2.2.2.2.2.2.2.2.2.2.2.2.2.2.2.2.2.2.2.2.2.2.2.2.2.2.2.2.2.2.2.2.2.2.2.2.2.2.2.2.2.2.2.2.2.2.2.2.2.1
theorem wF13_code {Z : State} {w : Nat → Addr} (W : own_World Z w) : Fld Z Z.heap (w 13) "com/example/loudline/loudline/packet/Refusal" "code" "J" (.long 360287970189639680) := W.2.2.2.2.2.2.2.2.2.2.2.2.2.2.2.2.2.2.2.2.2.2.2.2.2.2.2.2.2.2.2.2.2.2.2.2.2.2.2.2.2.2.2.2.2.2.2.2.2.2.2.1
theorem wF14_code {Z : State} {w : Nat → Addr} (W : own_World Z w) : Fld Z Z.heap (w 14) "com/example/loudline/loudline/packet/Refusal" "code" "J" (.long 648518346341351424) := W.2.2.2.2.2.2.2.2.2.2.2.2.2.2.2.2.2.2.2.2.2.2.2.2.2.2.2.2.2.2.2.2.2.2.2.2.2.2.2.2.2.2.2.2.2.2.2.2.2.2.2.2.1
theorem wF15_code {Z : State} {w : Nat → Addr} (W : own_World Z w) : Fld Z Z.heap (w 15) "com/example/loudline/loudline/packet/Refusal" "code" "J" (.long 5692549928996306944) := W.2.2.2.2.2.2.2.2.2.2.2.2.2.2.2.2.2.2.2.2.2.2.2.2.2.2.2.2.2.2.2.2.2.2.2.2.2.2.2.2.2.2.2.2.2.2.2.2.2.2.2.2.2.1
theorem wF16_code {Z : State} {w : Nat → Addr} (W : own_World Z w) : Fld Z Z.heap (w 16) "com/example/loudline/loudline/packet/Refusal" "code" "J" (.long 432345564227567616) := W.2.2.2.2.2.2.2.2.2.2.2.2.2.2.2.2.2.2.2.2.2.2.2.2.2.2.2.2.2.2.2.2.2.2.2.2.2.2.2.2.2.2.2.2.2.2.2.2.2.2.2.2.2.2.1
theorem wF17_code {Z : State} {w : Nat → Addr} (W : own_World Z w) : Fld Z Z.heap (w 17) "com/example/loudline/loudline/packet/Refusal" "code" "J" (.long 288230376151711744) := W.2.2.2.2.2.2.2.2.2.2.2.2.2.2.2.2.2.2.2.2.2.2.2.2.2.2.2.2.2.2.2.2.2.2.2.2.2.2.2.2.2.2.2.2.2.2.2.2.2.2.2.2.2.2.2.1
theorem wF18_code {Z : State} {w : Nat → Addr} (W : own_World Z w) : Fld Z Z.heap (w 18) "com/example/loudline/loudline/packet/Refusal" "code" "J" (.long 5908722711110090752) := W.2.2.2.2.2.2.2.2.2.2.2.2.2.2.2.2.2.2.2.2.2.2.2.2.2.2.2.2.2.2.2.2.2.2.2.2.2.2.2.2.2.2.2.2.2.2.2.2.2.2.2.2.2.2.2.2
theorem own_pickE {Z : State} {w : Nat → Addr} (W : own_World Z w) (k : Int32) : Exa Z Z.heap (own_pick w k) "com/example/loudline/loudline/packet/Refusal" := by
  unfold own_pick
  by_cases h0 : k = (0 : Int32)
  · simp only [ if_pos h0]; exact (wE0 W)
  by_cases h1 : k = (1 : Int32)
  · simp only [if_neg h0,  if_pos h1]; exact (wE1 W)
  by_cases h2 : k = (2 : Int32)
  · simp only [if_neg h0, if_neg h1,  if_pos h2]; exact (wE9 W)
  by_cases h3 : k = (3 : Int32)
  · simp only [if_neg h0, if_neg h1, if_neg h2,  if_pos h3]; exact (wE5 W)
  by_cases h4 : k = (4 : Int32)
  · simp only [if_neg h0, if_neg h1, if_neg h2, if_neg h3,  if_pos h4]; exact (wE17 W)
  by_cases h5 : k = (5 : Int32)
  · simp only [if_neg h0, if_neg h1, if_neg h2, if_neg h3, if_neg h4,  if_pos h5]; exact (wE13 W)
  by_cases h6 : k = (6 : Int32)
  · simp only [if_neg h0, if_neg h1, if_neg h2, if_neg h3, if_neg h4, if_neg h5,  if_pos h6]; exact (wE16 W)
  by_cases h7 : k = (7 : Int32)
  · simp only [if_neg h0, if_neg h1, if_neg h2, if_neg h3, if_neg h4, if_neg h5, if_neg h6,  if_pos h7]; exact (wE11 W)
  by_cases h8 : k = (8 : Int32)
  · simp only [if_neg h0, if_neg h1, if_neg h2, if_neg h3, if_neg h4, if_neg h5, if_neg h6, if_neg h7,  if_pos h8]; exact (wE4 W)
  by_cases h9 : k = (9 : Int32)
  · simp only [if_neg h0, if_neg h1, if_neg h2, if_neg h3, if_neg h4, if_neg h5, if_neg h6, if_neg h7, if_neg h8,  if_pos h9]; exact (wE14 W)
  by_cases h10 : k = (10 : Int32)
  · simp only [if_neg h0, if_neg h1, if_neg h2, if_neg h3, if_neg h4, if_neg h5, if_neg h6, if_neg h7, if_neg h8, if_neg h9,  if_pos h10]; exact (wE6 W)
  by_cases h11 : k = (11 : Int32)
  · simp only [if_neg h0, if_neg h1, if_neg h2, if_neg h3, if_neg h4, if_neg h5, if_neg h6, if_neg h7, if_neg h8, if_neg h9, if_neg h10,  if_pos h11]; exact (wE3 W)
  by_cases h12 : k = (12 : Int32)
  · simp only [if_neg h0, if_neg h1, if_neg h2, if_neg h3, if_neg h4, if_neg h5, if_neg h6, if_neg h7, if_neg h8, if_neg h9, if_neg h10, if_neg h11,  if_pos h12]; exact (wE2 W)
  by_cases h13 : k = (13 : Int32)
  · simp only [if_neg h0, if_neg h1, if_neg h2, if_neg h3, if_neg h4, if_neg h5, if_neg h6, if_neg h7, if_neg h8, if_neg h9, if_neg h10, if_neg h11, if_neg h12,  if_pos h13]; exact (wE12 W)
  by_cases h14 : k = (14 : Int32)
  · simp only [if_neg h0, if_neg h1, if_neg h2, if_neg h3, if_neg h4, if_neg h5, if_neg h6, if_neg h7, if_neg h8, if_neg h9, if_neg h10, if_neg h11, if_neg h12, if_neg h13,  if_pos h14]; exact (wE10 W)
  by_cases h15 : k = (15 : Int32)
  · simp only [if_neg h0, if_neg h1, if_neg h2, if_neg h3, if_neg h4, if_neg h5, if_neg h6, if_neg h7, if_neg h8, if_neg h9, if_neg h10, if_neg h11, if_neg h12, if_neg h13, if_neg h14,  if_pos h15]; exact (wE15 W)
  by_cases h16 : k = (16 : Int32)
  · simp only [if_neg h0, if_neg h1, if_neg h2, if_neg h3, if_neg h4, if_neg h5, if_neg h6, if_neg h7, if_neg h8, if_neg h9, if_neg h10, if_neg h11, if_neg h12, if_neg h13, if_neg h14, if_neg h15,  if_pos h16]; exact (wE7 W)
  by_cases h17 : k = (17 : Int32)
  · simp only [if_neg h0, if_neg h1, if_neg h2, if_neg h3, if_neg h4, if_neg h5, if_neg h6, if_neg h7, if_neg h8, if_neg h9, if_neg h10, if_neg h11, if_neg h12, if_neg h13, if_neg h14, if_neg h15, if_neg h16,  if_pos h17]; exact (wE8 W)
  simp only [if_neg h0, if_neg h1, if_neg h2, if_neg h3, if_neg h4, if_neg h5, if_neg h6, if_neg h7, if_neg h8, if_neg h9, if_neg h10, if_neg h11, if_neg h12, if_neg h13, if_neg h14, if_neg h15, if_neg h16, if_neg h17]; exact (wE18 W)
theorem own_pickC {Z : State} {w : Nat → Addr} (W : own_World Z w) (k : Int32) : Fld Z Z.heap (own_pick w k) "com/example/loudline/loudline/packet/Refusal" "code" "J" (.long (own_code k)) := by
  unfold own_pick own_code
  by_cases h0 : k = (0 : Int32)
  · simp only [ if_pos h0]; exact (wF0_code W)
  by_cases h1 : k = (1 : Int32)
  · simp only [if_neg h0,  if_pos h1]; exact (wF1_code W)
  by_cases h2 : k = (2 : Int32)
  · simp only [if_neg h0, if_neg h1,  if_pos h2]; exact (wF9_code W)
  by_cases h3 : k = (3 : Int32)
  · simp only [if_neg h0, if_neg h1, if_neg h2,  if_pos h3]; exact (wF5_code W)
  by_cases h4 : k = (4 : Int32)
  · simp only [if_neg h0, if_neg h1, if_neg h2, if_neg h3,  if_pos h4]; exact (wF17_code W)
  by_cases h5 : k = (5 : Int32)
  · simp only [if_neg h0, if_neg h1, if_neg h2, if_neg h3, if_neg h4,  if_pos h5]; exact (wF13_code W)
  by_cases h6 : k = (6 : Int32)
  · simp only [if_neg h0, if_neg h1, if_neg h2, if_neg h3, if_neg h4, if_neg h5,  if_pos h6]; exact (wF16_code W)
  by_cases h7 : k = (7 : Int32)
  · simp only [if_neg h0, if_neg h1, if_neg h2, if_neg h3, if_neg h4, if_neg h5, if_neg h6,  if_pos h7]; exact (wF11_code W)
  by_cases h8 : k = (8 : Int32)
  · simp only [if_neg h0, if_neg h1, if_neg h2, if_neg h3, if_neg h4, if_neg h5, if_neg h6, if_neg h7,  if_pos h8]; exact (wF4_code W)
  by_cases h9 : k = (9 : Int32)
  · simp only [if_neg h0, if_neg h1, if_neg h2, if_neg h3, if_neg h4, if_neg h5, if_neg h6, if_neg h7, if_neg h8,  if_pos h9]; exact (wF14_code W)
  by_cases h10 : k = (10 : Int32)
  · simp only [if_neg h0, if_neg h1, if_neg h2, if_neg h3, if_neg h4, if_neg h5, if_neg h6, if_neg h7, if_neg h8, if_neg h9,  if_pos h10]; exact (wF6_code W)
  by_cases h11 : k = (11 : Int32)
  · simp only [if_neg h0, if_neg h1, if_neg h2, if_neg h3, if_neg h4, if_neg h5, if_neg h6, if_neg h7, if_neg h8, if_neg h9, if_neg h10,  if_pos h11]; exact (wF3_code W)
  by_cases h12 : k = (12 : Int32)
  · simp only [if_neg h0, if_neg h1, if_neg h2, if_neg h3, if_neg h4, if_neg h5, if_neg h6, if_neg h7, if_neg h8, if_neg h9, if_neg h10, if_neg h11,  if_pos h12]; exact (wF2_code W)
  by_cases h13 : k = (13 : Int32)
  · simp only [if_neg h0, if_neg h1, if_neg h2, if_neg h3, if_neg h4, if_neg h5, if_neg h6, if_neg h7, if_neg h8, if_neg h9, if_neg h10, if_neg h11, if_neg h12,  if_pos h13]; exact (wF12_code W)
  by_cases h14 : k = (14 : Int32)
  · simp only [if_neg h0, if_neg h1, if_neg h2, if_neg h3, if_neg h4, if_neg h5, if_neg h6, if_neg h7, if_neg h8, if_neg h9, if_neg h10, if_neg h11, if_neg h12, if_neg h13,  if_pos h14]; exact (wF10_code W)
  by_cases h15 : k = (15 : Int32)
  · simp only [if_neg h0, if_neg h1, if_neg h2, if_neg h3, if_neg h4, if_neg h5, if_neg h6, if_neg h7, if_neg h8, if_neg h9, if_neg h10, if_neg h11, if_neg h12, if_neg h13, if_neg h14,  if_pos h15]; exact (wF15_code W)
  by_cases h16 : k = (16 : Int32)
  · simp only [if_neg h0, if_neg h1, if_neg h2, if_neg h3, if_neg h4, if_neg h5, if_neg h6, if_neg h7, if_neg h8, if_neg h9, if_neg h10, if_neg h11, if_neg h12, if_neg h13, if_neg h14, if_neg h15,  if_pos h16]; exact (wF7_code W)
  by_cases h17 : k = (17 : Int32)
  · simp only [if_neg h0, if_neg h1, if_neg h2, if_neg h3, if_neg h4, if_neg h5, if_neg h6, if_neg h7, if_neg h8, if_neg h9, if_neg h10, if_neg h11, if_neg h12, if_neg h13, if_neg h14, if_neg h15, if_neg h16,  if_pos h17]; exact (wF8_code W)
  simp only [if_neg h0, if_neg h1, if_neg h2, if_neg h3, if_neg h4, if_neg h5, if_neg h6, if_neg h7, if_neg h8, if_neg h9, if_neg h10, if_neg h11, if_neg h12, if_neg h13, if_neg h14, if_neg h15, if_neg h16, if_neg h17]; exact (wF18_code W)
theorem d1_0 : decode method_2_code 0 = .ok (.iload_n 0, 1) := by decide +kernel
theorem d1_1 : decode method_2_code 1 = .ok (.ifCond .ne 7, 3) := by decide +kernel
theorem d1_4 : decode method_2_code 4 = .ok (.getstatic 7, 3) := by decide +kernel
theorem d1_7 : decode method_2_code 7 = .ok (.areturn, 1) := by decide +kernel
theorem d1_8 : decode method_2_code 8 = .ok (.iload_n 0, 1) := by decide +kernel
theorem d1_9 : decode method_2_code 9 = .ok (.iconst 1, 1) := by decide +kernel
theorem li_1 : Int32.ofInt (1) = (1 : Int32) := by decide
theorem d1_10 : decode method_2_code 10 = .ok (.if_icmp .ne 7, 3) := by decide +kernel
theorem d1_13 : decode method_2_code 13 = .ok (.getstatic 13, 3) := by decide +kernel
theorem d1_16 : decode method_2_code 16 = .ok (.areturn, 1) := by decide +kernel
theorem d1_17 : decode method_2_code 17 = .ok (.iload_n 0, 1) := by decide +kernel
theorem d1_18 : decode method_2_code 18 = .ok (.iconst 2, 1) := by decide +kernel
theorem li_2 : Int32.ofInt (2) = (2 : Int32) := by decide
theorem d1_19 : decode method_2_code 19 = .ok (.if_icmp .ne 7, 3) := by decide +kernel
theorem d1_22 : decode method_2_code 22 = .ok (.getstatic 16, 3) := by decide +kernel
theorem d1_25 : decode method_2_code 25 = .ok (.areturn, 1) := by decide +kernel
theorem d1_26 : decode method_2_code 26 = .ok (.iload_n 0, 1) := by decide +kernel
theorem d1_27 : decode method_2_code 27 = .ok (.iconst 3, 1) := by decide +kernel
theorem li_3 : Int32.ofInt (3) = (3 : Int32) := by decide
theorem d1_28 : decode method_2_code 28 = .ok (.if_icmp .ne 7, 3) := by decide +kernel
theorem d1_31 : decode method_2_code 31 = .ok (.getstatic 19, 3) := by decide +kernel
theorem d1_34 : decode method_2_code 34 = .ok (.areturn, 1) := by decide +kernel
theorem d1_35 : decode method_2_code 35 = .ok (.iload_n 0, 1) := by decide +kernel
theorem d1_36 : decode method_2_code 36 = .ok (.iconst 4, 1) := by decide +kernel
theorem li_4 : Int32.ofInt (4) = (4 : Int32) := by decide
theorem d1_37 : decode method_2_code 37 = .ok (.if_icmp .ne 7, 3) := by decide +kernel
theorem d1_40 : decode method_2_code 40 = .ok (.getstatic 22, 3) := by decide +kernel
theorem d1_43 : decode method_2_code 43 = .ok (.areturn, 1) := by decide +kernel
theorem d1_44 : decode method_2_code 44 = .ok (.iload_n 0, 1) := by decide +kernel
theorem d1_45 : decode method_2_code 45 = .ok (.iconst 5, 1) := by decide +kernel
theorem li_5 : Int32.ofInt (5) = (5 : Int32) := by decide
theorem d1_46 : decode method_2_code 46 = .ok (.if_icmp .ne 7, 3) := by decide +kernel
theorem d1_49 : decode method_2_code 49 = .ok (.getstatic 25, 3) := by decide +kernel
theorem d1_52 : decode method_2_code 52 = .ok (.areturn, 1) := by decide +kernel
theorem d1_53 : decode method_2_code 53 = .ok (.iload_n 0, 1) := by decide +kernel
theorem d1_54 : decode method_2_code 54 = .ok (.bipush 6, 2) := by decide +kernel
theorem lb_6 : (Int8.ofInt (6)).toInt32 = (6 : Int32) := by decide
theorem d1_56 : decode method_2_code 56 = .ok (.if_icmp .ne 7, 3) := by decide +kernel
theorem d1_59 : decode method_2_code 59 = .ok (.getstatic 28, 3) := by decide +kernel
theorem d1_62 : decode method_2_code 62 = .ok (.areturn, 1) := by decide +kernel
theorem d1_63 : decode method_2_code 63 = .ok (.iload_n 0, 1) := by decide +kernel
theorem d1_64 : decode method_2_code 64 = .ok (.bipush 7, 2) := by decide +kernel
theorem lb_7 : (Int8.ofInt (7)).toInt32 = (7 : Int32) := by decide
theorem d1_66 : decode method_2_code 66 = .ok (.if_icmp .ne 7, 3) := by decide +kernel
theorem d1_69 : decode method_2_code 69 = .ok (.getstatic 31, 3) := by decide +kernel
theorem d1_72 : decode method_2_code 72 = .ok (.areturn, 1) := by decide +kernel
theorem d1_73 : decode method_2_code 73 = .ok (.iload_n 0, 1) := by decide +kernel
theorem d1_74 : decode method_2_code 74 = .ok (.bipush 8, 2) := by decide +kernel
theorem lb_8 : (Int8.ofInt (8)).toInt32 = (8 : Int32) := by decide
theorem d1_76 : decode method_2_code 76 = .ok (.if_icmp .ne 7, 3) := by decide +kernel
theorem d1_79 : decode method_2_code 79 = .ok (.getstatic 34, 3) := by decide +kernel
theorem d1_82 : decode method_2_code 82 = .ok (.areturn, 1) := by decide +kernel
theorem d1_83 : decode method_2_code 83 = .ok (.iload_n 0, 1) := by decide +kernel
theorem d1_84 : decode method_2_code 84 = .ok (.bipush 9, 2) := by decide +kernel
theorem lb_9 : (Int8.ofInt (9)).toInt32 = (9 : Int32) := by decide
theorem d1_86 : decode method_2_code 86 = .ok (.if_icmp .ne 7, 3) := by decide +kernel
theorem d1_89 : decode method_2_code 89 = .ok (.getstatic 37, 3) := by decide +kernel
theorem d1_92 : decode method_2_code 92 = .ok (.areturn, 1) := by decide +kernel
theorem d1_93 : decode method_2_code 93 = .ok (.iload_n 0, 1) := by decide +kernel
theorem d1_94 : decode method_2_code 94 = .ok (.bipush 10, 2) := by decide +kernel
theorem lb_10 : (Int8.ofInt (10)).toInt32 = (10 : Int32) := by decide
theorem d1_96 : decode method_2_code 96 = .ok (.if_icmp .ne 7, 3) := by decide +kernel
theorem d1_99 : decode method_2_code 99 = .ok (.getstatic 40, 3) := by decide +kernel
theorem d1_102 : decode method_2_code 102 = .ok (.areturn, 1) := by decide +kernel
theorem d1_103 : decode method_2_code 103 = .ok (.iload_n 0, 1) := by decide +kernel
theorem d1_104 : decode method_2_code 104 = .ok (.bipush 11, 2) := by decide +kernel
theorem lb_11 : (Int8.ofInt (11)).toInt32 = (11 : Int32) := by decide
theorem d1_106 : decode method_2_code 106 = .ok (.if_icmp .ne 7, 3) := by decide +kernel
theorem d1_109 : decode method_2_code 109 = .ok (.getstatic 43, 3) := by decide +kernel
theorem d1_112 : decode method_2_code 112 = .ok (.areturn, 1) := by decide +kernel
theorem d1_113 : decode method_2_code 113 = .ok (.iload_n 0, 1) := by decide +kernel
theorem d1_114 : decode method_2_code 114 = .ok (.bipush 12, 2) := by decide +kernel
theorem lb_12 : (Int8.ofInt (12)).toInt32 = (12 : Int32) := by decide
theorem d1_116 : decode method_2_code 116 = .ok (.if_icmp .ne 7, 3) := by decide +kernel
theorem d1_119 : decode method_2_code 119 = .ok (.getstatic 46, 3) := by decide +kernel
theorem d1_122 : decode method_2_code 122 = .ok (.areturn, 1) := by decide +kernel
theorem d1_123 : decode method_2_code 123 = .ok (.iload_n 0, 1) := by decide +kernel
theorem d1_124 : decode method_2_code 124 = .ok (.bipush 13, 2) := by decide +kernel
theorem lb_13 : (Int8.ofInt (13)).toInt32 = (13 : Int32) := by decide
theorem d1_126 : decode method_2_code 126 = .ok (.if_icmp .ne 7, 3) := by decide +kernel
theorem d1_129 : decode method_2_code 129 = .ok (.getstatic 49, 3) := by decide +kernel
theorem d1_132 : decode method_2_code 132 = .ok (.areturn, 1) := by decide +kernel
theorem d1_133 : decode method_2_code 133 = .ok (.iload_n 0, 1) := by decide +kernel
theorem d1_134 : decode method_2_code 134 = .ok (.bipush 14, 2) := by decide +kernel
theorem lb_14 : (Int8.ofInt (14)).toInt32 = (14 : Int32) := by decide
theorem d1_136 : decode method_2_code 136 = .ok (.if_icmp .ne 7, 3) := by decide +kernel
theorem d1_139 : decode method_2_code 139 = .ok (.getstatic 52, 3) := by decide +kernel
theorem d1_142 : decode method_2_code 142 = .ok (.areturn, 1) := by decide +kernel
theorem d1_143 : decode method_2_code 143 = .ok (.iload_n 0, 1) := by decide +kernel
theorem d1_144 : decode method_2_code 144 = .ok (.bipush 15, 2) := by decide +kernel
theorem lb_15 : (Int8.ofInt (15)).toInt32 = (15 : Int32) := by decide
theorem d1_146 : decode method_2_code 146 = .ok (.if_icmp .ne 7, 3) := by decide +kernel
theorem d1_149 : decode method_2_code 149 = .ok (.getstatic 55, 3) := by decide +kernel
theorem d1_152 : decode method_2_code 152 = .ok (.areturn, 1) := by decide +kernel
theorem d1_153 : decode method_2_code 153 = .ok (.iload_n 0, 1) := by decide +kernel
theorem d1_154 : decode method_2_code 154 = .ok (.bipush 16, 2) := by decide +kernel
theorem lb_16 : (Int8.ofInt (16)).toInt32 = (16 : Int32) := by decide
theorem d1_156 : decode method_2_code 156 = .ok (.if_icmp .ne 7, 3) := by decide +kernel
theorem d1_159 : decode method_2_code 159 = .ok (.getstatic 58, 3) := by decide +kernel
theorem d1_162 : decode method_2_code 162 = .ok (.areturn, 1) := by decide +kernel
theorem d1_163 : decode method_2_code 163 = .ok (.iload_n 0, 1) := by decide +kernel
theorem d1_164 : decode method_2_code 164 = .ok (.bipush 17, 2) := by decide +kernel
theorem lb_17 : (Int8.ofInt (17)).toInt32 = (17 : Int32) := by decide
theorem d1_166 : decode method_2_code 166 = .ok (.if_icmp .ne 7, 3) := by decide +kernel
theorem d1_169 : decode method_2_code 169 = .ok (.getstatic 61, 3) := by decide +kernel
theorem d1_172 : decode method_2_code 172 = .ok (.areturn, 1) := by decide +kernel
theorem d1_173 : decode method_2_code 173 = .ok (.getstatic 64, 3) := by decide +kernel
theorem d1_176 : decode method_2_code 176 = .ok (.areturn, 1) := by decide +kernel
abbrev mY0 : MethodName := (⟨"com/example/loudline/loudline/packet/RefusalOfPinLaw", "pick", "(I)Lcom/example/loudline/loudline/packet/Refusal;"⟩ : MethodName)
theorem ef_1_i (m : MethodId) (x0 : Int32) : entryFrame m #[(.int x0)] 1 = mkF m 0 #[.val (.int x0)] [] := by first | (simp [entryFrame, mkF, argsToLocals, Value.category]; done) | rfl
theorem pn_0 : plainName "com/example/loudline/loudline/packet/RefusalOfPinLaw" = true := by first | (simp [plainName, overriddenIn]; done) | decide +kernel
def Q_pick (Z : State) (p1 : Int32) (w : Nat → Addr) (h0 : Heap) (n0 : Nat) (v : Option Value) (h : Heap) (L : List Loc) : Prop := v = some (.ref (own_pick w p1)) ∧ Fr n0 L ∧ h = h0
set_option maxRecDepth 65536 in
set_option maxHeartbeats 40000000 in
theorem rm_pick (l : Launch) (Z : State) (a0 : Array Value) (hw : ∀ d ∈ tables_1, d.before a0 Z = true) (ws : List Jvm.Cond) (p1 : Int32) (w : Nat → Addr) (h0 : Heap) (n0 : Nat) (O0 : Old Z n0 h0) (W : own_World Z w) :
    MetFree l mY0 (head1 (Jvm.Cond.code mY0 method_2_code 1 (some (.object "com/example/loudline/loudline/packet/Refusal")) :: ws) ({ frames := 0, cells := 0, slots := 0, locals := 0 } : Room)) (fun a U => a = #[(.int p1)] ∧ Z.Warmed39 U.vm ∧ U.heap = h0) (fun _ _ _ _ _ => True) (fun _ U o U' => ∃ v L, o = .returned v ∧ Q_pick Z p1 w h0 n0 v U'.heap L ∧ FrameEnd U o U' L ({ frames := 0, cells := 0, slots := 0, locals := 0 } : Room).cells ({ frames := 0, cells := 0, slots := 0, locals := 0 } : Room).slots) := by
  refine MetFree.of_bodySF (plainFor_of_name pn_0) hisR ?_
  intro p e s m args below meth c s₁ Bd hml0 hP hK
  obtain ⟨rfl, hZ, hh⟩ := hP
  have hx := Bd.exec
  have hby := Bd.bytes
  have hml : c.maxLocals = 1 := hml0
  have hown : s.vm.findClass "com/example/loudline/loudline/packet/RefusalOfPinLaw" = some m.cls := findClass_of_methodNamed Bd.named
  have hnm := (name_of_methodNamed Bd.named Bd.method).1
  have X0 : Stand p l e ({ frames := 0, cells := 0, slots := 0, locals := 0 } : Room) s m #[(.int p1)] below meth c s₁ [] 0 0 := Stand.of_body Bd
  have e0 : s₁.heap = h0 := by rw [← hh, Bd.state]; rfl
  have N0 := Fr.nil n0
  show oG p e below s (Q_pick Z p1 w h0 n0) ({ frames := 0, cells := 0, slots := 0, locals := 0 } : Room).cells ({ frames := 0, cells := 0, slots := 0, locals := 0 } : Room).slots _
  refine oS (fun t k => castTop (ef_1_i m p1) k) ?_
  show oG _ _ _ _ _ _ _ (s₁.setTop (mkF m 0 #[.val (.int p1)] []))
  refine oS (fun t k => XS.iloadN X0.here hx rfl (hb hby d1_0) rfl k) ?_
  by_cases hc1 : p1 = (0 : Int32)
  · refine oS (fun t k => XS.ifNo X0.here hx rfl (hb hby d1_1) rfl ((if0 _ _).trans (teq hc1).2) k) ?_
    obtain ⟨T1, X1, e1, st1⟩ := getS2 X0 hx hZ hown (host := "") (Or.inl (oW hw 6 rfl)) Via.refl e0 ((wS0 W).ext O0.2) (g := (mkF m 4 #[.val (.int p1)] [])) rfl (hb hby d1_4)
    refine oS (fun t k => st1 t k) ?_
    show oG _ _ _ _ _ _ _ (T1.setTop (mkF m 7 #[.val (.int p1)] [(.ref (w 0))]))
    try clear st1
    exact own_ret (v := some (.ref (w 0))) X1 (fun h => by rw [Bd.returns] at h; cases h) Bd.notSynchronized (fun fs hr => retOut X1 hx (t := (.object "com/example/loudline/loudline/packet/Refusal")) Bd.returns rfl (Or.inr (Or.inr (Or.inr (Or.inr ⟨rfl, rfl, rfl⟩)))) (hb hby d1_7) hr) (by rw [e1]; exact ⟨(by simp only [own_pick, if_pos hc1]), N0, rfl⟩) (by decide) (by decide)
  · refine oS (fun t k => XS.ifYes X0.here hx rfl (pc0 := 1) (pc' := 8) rfl (hb hby d1_1) rfl ((if0 _ _).trans (feq hc1).2) (by decide) (by decide) k) ?_
    refine oS (fun t k => XS.iloadN X0.here hx rfl (hb hby d1_8) rfl k) ?_
    show oG _ _ _ _ _ _ _ (s₁.setTop (mkF m 9 #[.val (.int p1)] [(.int p1)]))
    refine oS (fun t k => oIc li_1 X0.here hx rfl (hb hby d1_9) k) ?_
    by_cases hc10 : p1 = (1 : Int32)
    · refine oS (fun t k => XS.icmpNo X0.here hx rfl (hb hby d1_10) rfl (teq hc10).2 k) ?_
      obtain ⟨T2, X2, e2, st2⟩ := getS2 X0 hx hZ hown (host := "") (Or.inl (oW hw 23 rfl)) Via.refl e0 ((wS1 W).ext O0.2) (g := (mkF m 13 #[.val (.int p1)] [])) rfl (hb hby d1_13)
      refine oS (fun t k => st2 t k) ?_
      show oG _ _ _ _ _ _ _ (T2.setTop (mkF m 16 #[.val (.int p1)] [(.ref (w 1))]))
      try clear st2
      exact own_ret (v := some (.ref (w 1))) X2 (fun h => by rw [Bd.returns] at h; cases h) Bd.notSynchronized (fun fs hr => retOut X2 hx (t := (.object "com/example/loudline/loudline/packet/Refusal")) Bd.returns rfl (Or.inr (Or.inr (Or.inr (Or.inr ⟨rfl, rfl, rfl⟩)))) (hb hby d1_16) hr) (by rw [e2]; exact ⟨(by simp only [own_pick, if_neg hc1, if_pos hc10]), N0, rfl⟩) (by decide) (by decide)
    · refine oS (fun t k => XS.icmpYes X0.here hx rfl (pc0 := 10) (pc' := 17) rfl (hb hby d1_10) rfl (feq hc10).2 (by decide) (by decide) k) ?_
      refine oS (fun t k => XS.iloadN X0.here hx rfl (hb hby d1_17) rfl k) ?_
      show oG _ _ _ _ _ _ _ (s₁.setTop (mkF m 18 #[.val (.int p1)] [(.int p1)]))
      refine oS (fun t k => oIc li_2 X0.here hx rfl (hb hby d1_18) k) ?_
      by_cases hc19 : p1 = (2 : Int32)
      · refine oS (fun t k => XS.icmpNo X0.here hx rfl (hb hby d1_19) rfl (teq hc19).2 k) ?_
        obtain ⟨T3, X3, e3, st3⟩ := getS2 X0 hx hZ hown (host := "") (Or.inl (oW hw 40 rfl)) Via.refl e0 ((wS9 W).ext O0.2) (g := (mkF m 22 #[.val (.int p1)] [])) rfl (hb hby d1_22)
        refine oS (fun t k => st3 t k) ?_
        show oG _ _ _ _ _ _ _ (T3.setTop (mkF m 25 #[.val (.int p1)] [(.ref (w 9))]))
        try clear st3
        exact own_ret (v := some (.ref (w 9))) X3 (fun h => by rw [Bd.returns] at h; cases h) Bd.notSynchronized (fun fs hr => retOut X3 hx (t := (.object "com/example/loudline/loudline/packet/Refusal")) Bd.returns rfl (Or.inr (Or.inr (Or.inr (Or.inr ⟨rfl, rfl, rfl⟩)))) (hb hby d1_25) hr) (by rw [e3]; exact ⟨(by simp only [own_pick, if_neg hc1, if_neg hc10, if_pos hc19]), N0, rfl⟩) (by decide) (by decide)
      · refine oS (fun t k => XS.icmpYes X0.here hx rfl (pc0 := 19) (pc' := 26) rfl (hb hby d1_19) rfl (feq hc19).2 (by decide) (by decide) k) ?_
        refine oS (fun t k => XS.iloadN X0.here hx rfl (hb hby d1_26) rfl k) ?_
        show oG _ _ _ _ _ _ _ (s₁.setTop (mkF m 27 #[.val (.int p1)] [(.int p1)]))
        refine oS (fun t k => oIc li_3 X0.here hx rfl (hb hby d1_27) k) ?_
        by_cases hc28 : p1 = (3 : Int32)
        · refine oS (fun t k => XS.icmpNo X0.here hx rfl (hb hby d1_28) rfl (teq hc28).2 k) ?_
          obtain ⟨T4, X4, e4, st4⟩ := getS2 X0 hx hZ hown (host := "") (Or.inl (oW hw 31 rfl)) Via.refl e0 ((wS5 W).ext O0.2) (g := (mkF m 31 #[.val (.int p1)] [])) rfl (hb hby d1_31)
          refine oS (fun t k => st4 t k) ?_
          show oG _ _ _ _ _ _ _ (T4.setTop (mkF m 34 #[.val (.int p1)] [(.ref (w 5))]))
          try clear st4
          exact own_ret (v := some (.ref (w 5))) X4 (fun h => by rw [Bd.returns] at h; cases h) Bd.notSynchronized (fun fs hr => retOut X4 hx (t := (.object "com/example/loudline/loudline/packet/Refusal")) Bd.returns rfl (Or.inr (Or.inr (Or.inr (Or.inr ⟨rfl, rfl, rfl⟩)))) (hb hby d1_34) hr) (by rw [e4]; exact ⟨(by simp only [own_pick, if_neg hc1, if_neg hc10, if_neg hc19, if_pos hc28]), N0, rfl⟩) (by decide) (by decide)
        · refine oS (fun t k => XS.icmpYes X0.here hx rfl (pc0 := 28) (pc' := 35) rfl (hb hby d1_28) rfl (feq hc28).2 (by decide) (by decide) k) ?_
          refine oS (fun t k => XS.iloadN X0.here hx rfl (hb hby d1_35) rfl k) ?_
          show oG _ _ _ _ _ _ _ (s₁.setTop (mkF m 36 #[.val (.int p1)] [(.int p1)]))
          refine oS (fun t k => oIc li_4 X0.here hx rfl (hb hby d1_36) k) ?_
          by_cases hc37 : p1 = (4 : Int32)
          · refine oS (fun t k => XS.icmpNo X0.here hx rfl (hb hby d1_37) rfl (teq hc37).2 k) ?_
            obtain ⟨T5, X5, e5, st5⟩ := getS2 X0 hx hZ hown (host := "") (Or.inl (oW hw 56 rfl)) Via.refl e0 ((wS17 W).ext O0.2) (g := (mkF m 40 #[.val (.int p1)] [])) rfl (hb hby d1_40)
            refine oS (fun t k => st5 t k) ?_
            show oG _ _ _ _ _ _ _ (T5.setTop (mkF m 43 #[.val (.int p1)] [(.ref (w 17))]))
            try clear st5
            exact own_ret (v := some (.ref (w 17))) X5 (fun h => by rw [Bd.returns] at h; cases h) Bd.notSynchronized (fun fs hr => retOut X5 hx (t := (.object "com/example/loudline/loudline/packet/Refusal")) Bd.returns rfl (Or.inr (Or.inr (Or.inr (Or.inr ⟨rfl, rfl, rfl⟩)))) (hb hby d1_43) hr) (by rw [e5]; exact ⟨(by simp only [own_pick, if_neg hc1, if_neg hc10, if_neg hc19, if_neg hc28, if_pos hc37]), N0, rfl⟩) (by decide) (by decide)
          · refine oS (fun t k => XS.icmpYes X0.here hx rfl (pc0 := 37) (pc' := 44) rfl (hb hby d1_37) rfl (feq hc37).2 (by decide) (by decide) k) ?_
            refine oS (fun t k => XS.iloadN X0.here hx rfl (hb hby d1_44) rfl k) ?_
            show oG _ _ _ _ _ _ _ (s₁.setTop (mkF m 45 #[.val (.int p1)] [(.int p1)]))
            refine oS (fun t k => oIc li_5 X0.here hx rfl (hb hby d1_45) k) ?_
            by_cases hc46 : p1 = (5 : Int32)
            · refine oS (fun t k => XS.icmpNo X0.here hx rfl (hb hby d1_46) rfl (teq hc46).2 k) ?_
              obtain ⟨T6, X6, e6, st6⟩ := getS2 X0 hx hZ hown (host := "") (Or.inl (oW hw 48 rfl)) Via.refl e0 ((wS13 W).ext O0.2) (g := (mkF m 49 #[.val (.int p1)] [])) rfl (hb hby d1_49)
              refine oS (fun t k => st6 t k) ?_
              show oG _ _ _ _ _ _ _ (T6.setTop (mkF m 52 #[.val (.int p1)] [(.ref (w 13))]))
              try clear st6
              exact own_ret (v := some (.ref (w 13))) X6 (fun h => by rw [Bd.returns] at h; cases h) Bd.notSynchronized (fun fs hr => retOut X6 hx (t := (.object "com/example/loudline/loudline/packet/Refusal")) Bd.returns rfl (Or.inr (Or.inr (Or.inr (Or.inr ⟨rfl, rfl, rfl⟩)))) (hb hby d1_52) hr) (by rw [e6]; exact ⟨(by simp only [own_pick, if_neg hc1, if_neg hc10, if_neg hc19, if_neg hc28, if_neg hc37, if_pos hc46]), N0, rfl⟩) (by decide) (by decide)
            · refine oS (fun t k => XS.icmpYes X0.here hx rfl (pc0 := 46) (pc' := 53) rfl (hb hby d1_46) rfl (feq hc46).2 (by decide) (by decide) k) ?_
              refine oS (fun t k => XS.iloadN X0.here hx rfl (hb hby d1_53) rfl k) ?_
              show oG _ _ _ _ _ _ _ (s₁.setTop (mkF m 54 #[.val (.int p1)] [(.int p1)]))
              refine oS (fun t k => oBp lb_6 X0.here hx rfl (hb hby d1_54) k) ?_
              by_cases hc56 : p1 = (6 : Int32)
              · refine oS (fun t k => XS.icmpNo X0.here hx rfl (hb hby d1_56) rfl (teq hc56).2 k) ?_
                obtain ⟨T7, X7, e7, st7⟩ := getS2 X0 hx hZ hown (host := "") (Or.inl (oW hw 54 rfl)) Via.refl e0 ((wS16 W).ext O0.2) (g := (mkF m 59 #[.val (.int p1)] [])) rfl (hb hby d1_59)
                refine oS (fun t k => st7 t k) ?_
                show oG _ _ _ _ _ _ _ (T7.setTop (mkF m 62 #[.val (.int p1)] [(.ref (w 16))]))
                try clear st7
                exact own_ret (v := some (.ref (w 16))) X7 (fun h => by rw [Bd.returns] at h; cases h) Bd.notSynchronized (fun fs hr => retOut X7 hx (t := (.object "com/example/loudline/loudline/packet/Refusal")) Bd.returns rfl (Or.inr (Or.inr (Or.inr (Or.inr ⟨rfl, rfl, rfl⟩)))) (hb hby d1_62) hr) (by rw [e7]; exact ⟨(by simp only [own_pick, if_neg hc1, if_neg hc10, if_neg hc19, if_neg hc28, if_neg hc37, if_neg hc46, if_pos hc56]), N0, rfl⟩) (by decide) (by decide)
              · refine oS (fun t k => XS.icmpYes X0.here hx rfl (pc0 := 56) (pc' := 63) rfl (hb hby d1_56) rfl (feq hc56).2 (by decide) (by decide) k) ?_
                refine oS (fun t k => XS.iloadN X0.here hx rfl (hb hby d1_63) rfl k) ?_
                show oG _ _ _ _ _ _ _ (s₁.setTop (mkF m 64 #[.val (.int p1)] [(.int p1)]))
                refine oS (fun t k => oBp lb_7 X0.here hx rfl (hb hby d1_64) k) ?_
                by_cases hc66 : p1 = (7 : Int32)
                · refine oS (fun t k => XS.icmpNo X0.here hx rfl (hb hby d1_66) rfl (teq hc66).2 k) ?_
                  obtain ⟨T8, X8, e8, st8⟩ := getS2 X0 hx hZ hown (host := "") (Or.inl (oW hw 44 rfl)) Via.refl e0 ((wS11 W).ext O0.2) (g := (mkF m 69 #[.val (.int p1)] [])) rfl (hb hby d1_69)
                  refine oS (fun t k => st8 t k) ?_
                  show oG _ _ _ _ _ _ _ (T8.setTop (mkF m 72 #[.val (.int p1)] [(.ref (w 11))]))
                  try clear st8
                  exact own_ret (v := some (.ref (w 11))) X8 (fun h => by rw [Bd.returns] at h; cases h) Bd.notSynchronized (fun fs hr => retOut X8 hx (t := (.object "com/example/loudline/loudline/packet/Refusal")) Bd.returns rfl (Or.inr (Or.inr (Or.inr (Or.inr ⟨rfl, rfl, rfl⟩)))) (hb hby d1_72) hr) (by rw [e8]; exact ⟨(by simp only [own_pick, if_neg hc1, if_neg hc10, if_neg hc19, if_neg hc28, if_neg hc37, if_neg hc46, if_neg hc56, if_pos hc66]), N0, rfl⟩) (by decide) (by decide)
                · refine oS (fun t k => XS.icmpYes X0.here hx rfl (pc0 := 66) (pc' := 73) rfl (hb hby d1_66) rfl (feq hc66).2 (by decide) (by decide) k) ?_
                  refine oS (fun t k => XS.iloadN X0.here hx rfl (hb hby d1_73) rfl k) ?_
                  show oG _ _ _ _ _ _ _ (s₁.setTop (mkF m 74 #[.val (.int p1)] [(.int p1)]))
                  refine oS (fun t k => oBp lb_8 X0.here hx rfl (hb hby d1_74) k) ?_
                  by_cases hc76 : p1 = (8 : Int32)
                  · refine oS (fun t k => XS.icmpNo X0.here hx rfl (hb hby d1_76) rfl (teq hc76).2 k) ?_
                    obtain ⟨T9, X9, e9, st9⟩ := getS2 X0 hx hZ hown (host := "") (Or.inl (oW hw 29 rfl)) Via.refl e0 ((wS4 W).ext O0.2) (g := (mkF m 79 #[.val (.int p1)] [])) rfl (hb hby d1_79)
                    refine oS (fun t k => st9 t k) ?_
                    show oG _ _ _ _ _ _ _ (T9.setTop (mkF m 82 #[.val (.int p1)] [(.ref (w 4))]))
                    try clear st9
                    exact own_ret (v := some (.ref (w 4))) X9 (fun h => by rw [Bd.returns] at h; cases h) Bd.notSynchronized (fun fs hr => retOut X9 hx (t := (.object "com/example/loudline/loudline/packet/Refusal")) Bd.returns rfl (Or.inr (Or.inr (Or.inr (Or.inr ⟨rfl, rfl, rfl⟩)))) (hb hby d1_82) hr) (by rw [e9]; exact ⟨(by simp only [own_pick, if_neg hc1, if_neg hc10, if_neg hc19, if_neg hc28, if_neg hc37, if_neg hc46, if_neg hc56, if_neg hc66, if_pos hc76]), N0, rfl⟩) (by decide) (by decide)
                  · refine oS (fun t k => XS.icmpYes X0.here hx rfl (pc0 := 76) (pc' := 83) rfl (hb hby d1_76) rfl (feq hc76).2 (by decide) (by decide) k) ?_
                    refine oS (fun t k => XS.iloadN X0.here hx rfl (hb hby d1_83) rfl k) ?_
                    show oG _ _ _ _ _ _ _ (s₁.setTop (mkF m 84 #[.val (.int p1)] [(.int p1)]))
                    refine oS (fun t k => oBp lb_9 X0.here hx rfl (hb hby d1_84) k) ?_
                    by_cases hc86 : p1 = (9 : Int32)
                    · refine oS (fun t k => XS.icmpNo X0.here hx rfl (hb hby d1_86) rfl (teq hc86).2 k) ?_
                      obtain ⟨T10, X10, e10, st10⟩ := getS2 X0 hx hZ hown (host := "") (Or.inl (oW hw 50 rfl)) Via.refl e0 ((wS14 W).ext O0.2) (g := (mkF m 89 #[.val (.int p1)] [])) rfl (hb hby d1_89)
                      refine oS (fun t k => st10 t k) ?_
                      show oG _ _ _ _ _ _ _ (T10.setTop (mkF m 92 #[.val (.int p1)] [(.ref (w 14))]))
                      try clear st10
                      exact own_ret (v := some (.ref (w 14))) X10 (fun h => by rw [Bd.returns] at h; cases h) Bd.notSynchronized (fun fs hr => retOut X10 hx (t := (.object "com/example/loudline/loudline/packet/Refusal")) Bd.returns rfl (Or.inr (Or.inr (Or.inr (Or.inr ⟨rfl, rfl, rfl⟩)))) (hb hby d1_92) hr) (by rw [e10]; exact ⟨(by simp only [own_pick, if_neg hc1, if_neg hc10, if_neg hc19, if_neg hc28, if_neg hc37, if_neg hc46, if_neg hc56, if_neg hc66, if_neg hc76, if_pos hc86]), N0, rfl⟩) (by decide) (by decide)
                    · refine oS (fun t k => XS.icmpYes X0.here hx rfl (pc0 := 86) (pc' := 93) rfl (hb hby d1_86) rfl (feq hc86).2 (by decide) (by decide) k) ?_
                      refine oS (fun t k => XS.iloadN X0.here hx rfl (hb hby d1_93) rfl k) ?_
                      show oG _ _ _ _ _ _ _ (s₁.setTop (mkF m 94 #[.val (.int p1)] [(.int p1)]))
                      refine oS (fun t k => oBp lb_10 X0.here hx rfl (hb hby d1_94) k) ?_
                      by_cases hc96 : p1 = (10 : Int32)
                      · refine oS (fun t k => XS.icmpNo X0.here hx rfl (hb hby d1_96) rfl (teq hc96).2 k) ?_
                        obtain ⟨T11, X11, e11, st11⟩ := getS2 X0 hx hZ hown (host := "") (Or.inl (oW hw 33 rfl)) Via.refl e0 ((wS6 W).ext O0.2) (g := (mkF m 99 #[.val (.int p1)] [])) rfl (hb hby d1_99)
                        refine oS (fun t k => st11 t k) ?_
                        show oG _ _ _ _ _ _ _ (T11.setTop (mkF m 102 #[.val (.int p1)] [(.ref (w 6))]))
                        try clear st11
                        exact own_ret (v := some (.ref (w 6))) X11 (fun h => by rw [Bd.returns] at h; cases h) Bd.notSynchronized (fun fs hr => retOut X11 hx (t := (.object "com/example/loudline/loudline/packet/Refusal")) Bd.returns rfl (Or.inr (Or.inr (Or.inr (Or.inr ⟨rfl, rfl, rfl⟩)))) (hb hby d1_102) hr) (by rw [e11]; exact ⟨(by simp only [own_pick, if_neg hc1, if_neg hc10, if_neg hc19, if_neg hc28, if_neg hc37, if_neg hc46, if_neg hc56, if_neg hc66, if_neg hc76, if_neg hc86, if_pos hc96]), N0, rfl⟩) (by decide) (by decide)
                      · refine oS (fun t k => XS.icmpYes X0.here hx rfl (pc0 := 96) (pc' := 103) rfl (hb hby d1_96) rfl (feq hc96).2 (by decide) (by decide) k) ?_
                        refine oS (fun t k => XS.iloadN X0.here hx rfl (hb hby d1_103) rfl k) ?_
                        show oG _ _ _ _ _ _ _ (s₁.setTop (mkF m 104 #[.val (.int p1)] [(.int p1)]))
                        refine oS (fun t k => oBp lb_11 X0.here hx rfl (hb hby d1_104) k) ?_
                        by_cases hc106 : p1 = (11 : Int32)
                        · refine oS (fun t k => XS.icmpNo X0.here hx rfl (hb hby d1_106) rfl (teq hc106).2 k) ?_
                          obtain ⟨T12, X12, e12, st12⟩ := getS2 X0 hx hZ hown (host := "") (Or.inl (oW hw 27 rfl)) Via.refl e0 ((wS3 W).ext O0.2) (g := (mkF m 109 #[.val (.int p1)] [])) rfl (hb hby d1_109)
                          refine oS (fun t k => st12 t k) ?_
                          show oG _ _ _ _ _ _ _ (T12.setTop (mkF m 112 #[.val (.int p1)] [(.ref (w 3))]))
                          try clear st12
                          exact own_ret (v := some (.ref (w 3))) X12 (fun h => by rw [Bd.returns] at h; cases h) Bd.notSynchronized (fun fs hr => retOut X12 hx (t := (.object "com/example/loudline/loudline/packet/Refusal")) Bd.returns rfl (Or.inr (Or.inr (Or.inr (Or.inr ⟨rfl, rfl, rfl⟩)))) (hb hby d1_112) hr) (by rw [e12]; exact ⟨(by simp only [own_pick, if_neg hc1, if_neg hc10, if_neg hc19, if_neg hc28, if_neg hc37, if_neg hc46, if_neg hc56, if_neg hc66, if_neg hc76, if_neg hc86, if_neg hc96, if_pos hc106]), N0, rfl⟩) (by decide) (by decide)
                        · refine oS (fun t k => XS.icmpYes X0.here hx rfl (pc0 := 106) (pc' := 113) rfl (hb hby d1_106) rfl (feq hc106).2 (by decide) (by decide) k) ?_
                          refine oS (fun t k => XS.iloadN X0.here hx rfl (hb hby d1_113) rfl k) ?_
                          show oG _ _ _ _ _ _ _ (s₁.setTop (mkF m 114 #[.val (.int p1)] [(.int p1)]))
                          refine oS (fun t k => oBp lb_12 X0.here hx rfl (hb hby d1_114) k) ?_
                          by_cases hc116 : p1 = (12 : Int32)
                          · refine oS (fun t k => XS.icmpNo X0.here hx rfl (hb hby d1_116) rfl (teq hc116).2 k) ?_
                            obtain ⟨T13, X13, e13, st13⟩ := getS2 X0 hx hZ hown (host := "") (Or.inl (oW hw 25 rfl)) Via.refl e0 ((wS2 W).ext O0.2) (g := (mkF m 119 #[.val (.int p1)] [])) rfl (hb hby d1_119)
                            refine oS (fun t k => st13 t k) ?_
                            show oG _ _ _ _ _ _ _ (T13.setTop (mkF m 122 #[.val (.int p1)] [(.ref (w 2))]))
                            try clear st13
                            exact own_ret (v := some (.ref (w 2))) X13 (fun h => by rw [Bd.returns] at h; cases h) Bd.notSynchronized (fun fs hr => retOut X13 hx (t := (.object "com/example/loudline/loudline/packet/Refusal")) Bd.returns rfl (Or.inr (Or.inr (Or.inr (Or.inr ⟨rfl, rfl, rfl⟩)))) (hb hby d1_122) hr) (by rw [e13]; exact ⟨(by simp only [own_pick, if_neg hc1, if_neg hc10, if_neg hc19, if_neg hc28, if_neg hc37, if_neg hc46, if_neg hc56, if_neg hc66, if_neg hc76, if_neg hc86, if_neg hc96, if_neg hc106, if_pos hc116]), N0, rfl⟩) (by decide) (by decide)
                          · refine oS (fun t k => XS.icmpYes X0.here hx rfl (pc0 := 116) (pc' := 123) rfl (hb hby d1_116) rfl (feq hc116).2 (by decide) (by decide) k) ?_
                            refine oS (fun t k => XS.iloadN X0.here hx rfl (hb hby d1_123) rfl k) ?_
                            show oG _ _ _ _ _ _ _ (s₁.setTop (mkF m 124 #[.val (.int p1)] [(.int p1)]))
                            refine oS (fun t k => oBp lb_13 X0.here hx rfl (hb hby d1_124) k) ?_
                            by_cases hc126 : p1 = (13 : Int32)
                            · refine oS (fun t k => XS.icmpNo X0.here hx rfl (hb hby d1_126) rfl (teq hc126).2 k) ?_
                              obtain ⟨T14, X14, e14, st14⟩ := getS2 X0 hx hZ hown (host := "") (Or.inl (oW hw 46 rfl)) Via.refl e0 ((wS12 W).ext O0.2) (g := (mkF m 129 #[.val (.int p1)] [])) rfl (hb hby d1_129)
                              refine oS (fun t k => st14 t k) ?_
                              show oG _ _ _ _ _ _ _ (T14.setTop (mkF m 132 #[.val (.int p1)] [(.ref (w 12))]))
                              try clear st14
                              exact own_ret (v := some (.ref (w 12))) X14 (fun h => by rw [Bd.returns] at h; cases h) Bd.notSynchronized (fun fs hr => retOut X14 hx (t := (.object "com/example/loudline/loudline/packet/Refusal")) Bd.returns rfl (Or.inr (Or.inr (Or.inr (Or.inr ⟨rfl, rfl, rfl⟩)))) (hb hby d1_132) hr) (by rw [e14]; exact ⟨(by simp only [own_pick, if_neg hc1, if_neg hc10, if_neg hc19, if_neg hc28, if_neg hc37, if_neg hc46, if_neg hc56, if_neg hc66, if_neg hc76, if_neg hc86, if_neg hc96, if_neg hc106, if_neg hc116, if_pos hc126]), N0, rfl⟩) (by decide) (by decide)
                            · refine oS (fun t k => XS.icmpYes X0.here hx rfl (pc0 := 126) (pc' := 133) rfl (hb hby d1_126) rfl (feq hc126).2 (by decide) (by decide) k) ?_
                              refine oS (fun t k => XS.iloadN X0.here hx rfl (hb hby d1_133) rfl k) ?_
                              show oG _ _ _ _ _ _ _ (s₁.setTop (mkF m 134 #[.val (.int p1)] [(.int p1)]))
                              refine oS (fun t k => oBp lb_14 X0.here hx rfl (hb hby d1_134) k) ?_
                              by_cases hc136 : p1 = (14 : Int32)
                              · refine oS (fun t k => XS.icmpNo X0.here hx rfl (hb hby d1_136) rfl (teq hc136).2 k) ?_
                                obtain ⟨T15, X15, e15, st15⟩ := getS2 X0 hx hZ hown (host := "") (Or.inl (oW hw 42 rfl)) Via.refl e0 ((wS10 W).ext O0.2) (g := (mkF m 139 #[.val (.int p1)] [])) rfl (hb hby d1_139)
                                refine oS (fun t k => st15 t k) ?_
                                show oG _ _ _ _ _ _ _ (T15.setTop (mkF m 142 #[.val (.int p1)] [(.ref (w 10))]))
                                try clear st15
                                exact own_ret (v := some (.ref (w 10))) X15 (fun h => by rw [Bd.returns] at h; cases h) Bd.notSynchronized (fun fs hr => retOut X15 hx (t := (.object "com/example/loudline/loudline/packet/Refusal")) Bd.returns rfl (Or.inr (Or.inr (Or.inr (Or.inr ⟨rfl, rfl, rfl⟩)))) (hb hby d1_142) hr) (by rw [e15]; exact ⟨(by simp only [own_pick, if_neg hc1, if_neg hc10, if_neg hc19, if_neg hc28, if_neg hc37, if_neg hc46, if_neg hc56, if_neg hc66, if_neg hc76, if_neg hc86, if_neg hc96, if_neg hc106, if_neg hc116, if_neg hc126, if_pos hc136]), N0, rfl⟩) (by decide) (by decide)
                              · refine oS (fun t k => XS.icmpYes X0.here hx rfl (pc0 := 136) (pc' := 143) rfl (hb hby d1_136) rfl (feq hc136).2 (by decide) (by decide) k) ?_
                                refine oS (fun t k => XS.iloadN X0.here hx rfl (hb hby d1_143) rfl k) ?_
                                show oG _ _ _ _ _ _ _ (s₁.setTop (mkF m 144 #[.val (.int p1)] [(.int p1)]))
                                refine oS (fun t k => oBp lb_15 X0.here hx rfl (hb hby d1_144) k) ?_
                                by_cases hc146 : p1 = (15 : Int32)
                                · refine oS (fun t k => XS.icmpNo X0.here hx rfl (hb hby d1_146) rfl (teq hc146).2 k) ?_
                                  obtain ⟨T16, X16, e16, st16⟩ := getS2 X0 hx hZ hown (host := "") (Or.inl (oW hw 52 rfl)) Via.refl e0 ((wS15 W).ext O0.2) (g := (mkF m 149 #[.val (.int p1)] [])) rfl (hb hby d1_149)
                                  refine oS (fun t k => st16 t k) ?_
                                  show oG _ _ _ _ _ _ _ (T16.setTop (mkF m 152 #[.val (.int p1)] [(.ref (w 15))]))
                                  try clear st16
                                  exact own_ret (v := some (.ref (w 15))) X16 (fun h => by rw [Bd.returns] at h; cases h) Bd.notSynchronized (fun fs hr => retOut X16 hx (t := (.object "com/example/loudline/loudline/packet/Refusal")) Bd.returns rfl (Or.inr (Or.inr (Or.inr (Or.inr ⟨rfl, rfl, rfl⟩)))) (hb hby d1_152) hr) (by rw [e16]; exact ⟨(by simp only [own_pick, if_neg hc1, if_neg hc10, if_neg hc19, if_neg hc28, if_neg hc37, if_neg hc46, if_neg hc56, if_neg hc66, if_neg hc76, if_neg hc86, if_neg hc96, if_neg hc106, if_neg hc116, if_neg hc126, if_neg hc136, if_pos hc146]), N0, rfl⟩) (by decide) (by decide)
                                · refine oS (fun t k => XS.icmpYes X0.here hx rfl (pc0 := 146) (pc' := 153) rfl (hb hby d1_146) rfl (feq hc146).2 (by decide) (by decide) k) ?_
                                  refine oS (fun t k => XS.iloadN X0.here hx rfl (hb hby d1_153) rfl k) ?_
                                  show oG _ _ _ _ _ _ _ (s₁.setTop (mkF m 154 #[.val (.int p1)] [(.int p1)]))
                                  refine oS (fun t k => oBp lb_16 X0.here hx rfl (hb hby d1_154) k) ?_
                                  by_cases hc156 : p1 = (16 : Int32)
                                  · refine oS (fun t k => XS.icmpNo X0.here hx rfl (hb hby d1_156) rfl (teq hc156).2 k) ?_
                                    obtain ⟨T17, X17, e17, st17⟩ := getS2 X0 hx hZ hown (host := "") (Or.inl (oW hw 35 rfl)) Via.refl e0 ((wS7 W).ext O0.2) (g := (mkF m 159 #[.val (.int p1)] [])) rfl (hb hby d1_159)
                                    refine oS (fun t k => st17 t k) ?_
                                    show oG _ _ _ _ _ _ _ (T17.setTop (mkF m 162 #[.val (.int p1)] [(.ref (w 7))]))
                                    try clear st17
                                    exact own_ret (v := some (.ref (w 7))) X17 (fun h => by rw [Bd.returns] at h; cases h) Bd.notSynchronized (fun fs hr => retOut X17 hx (t := (.object "com/example/loudline/loudline/packet/Refusal")) Bd.returns rfl (Or.inr (Or.inr (Or.inr (Or.inr ⟨rfl, rfl, rfl⟩)))) (hb hby d1_162) hr) (by rw [e17]; exact ⟨(by simp only [own_pick, if_neg hc1, if_neg hc10, if_neg hc19, if_neg hc28, if_neg hc37, if_neg hc46, if_neg hc56, if_neg hc66, if_neg hc76, if_neg hc86, if_neg hc96, if_neg hc106, if_neg hc116, if_neg hc126, if_neg hc136, if_neg hc146, if_pos hc156]), N0, rfl⟩) (by decide) (by decide)
                                  · refine oS (fun t k => XS.icmpYes X0.here hx rfl (pc0 := 156) (pc' := 163) rfl (hb hby d1_156) rfl (feq hc156).2 (by decide) (by decide) k) ?_
                                    refine oS (fun t k => XS.iloadN X0.here hx rfl (hb hby d1_163) rfl k) ?_
                                    show oG _ _ _ _ _ _ _ (s₁.setTop (mkF m 164 #[.val (.int p1)] [(.int p1)]))
                                    refine oS (fun t k => oBp lb_17 X0.here hx rfl (hb hby d1_164) k) ?_
                                    by_cases hc166 : p1 = (17 : Int32)
                                    · refine oS (fun t k => XS.icmpNo X0.here hx rfl (hb hby d1_166) rfl (teq hc166).2 k) ?_
                                      obtain ⟨T18, X18, e18, st18⟩ := getS2 X0 hx hZ hown (host := "") (Or.inl (oW hw 38 rfl)) Via.refl e0 ((wS8 W).ext O0.2) (g := (mkF m 169 #[.val (.int p1)] [])) rfl (hb hby d1_169)
                                      refine oS (fun t k => st18 t k) ?_
                                      show oG _ _ _ _ _ _ _ (T18.setTop (mkF m 172 #[.val (.int p1)] [(.ref (w 8))]))
                                      try clear st18
                                      exact own_ret (v := some (.ref (w 8))) X18 (fun h => by rw [Bd.returns] at h; cases h) Bd.notSynchronized (fun fs hr => retOut X18 hx (t := (.object "com/example/loudline/loudline/packet/Refusal")) Bd.returns rfl (Or.inr (Or.inr (Or.inr (Or.inr ⟨rfl, rfl, rfl⟩)))) (hb hby d1_172) hr) (by rw [e18]; exact ⟨(by simp only [own_pick, if_neg hc1, if_neg hc10, if_neg hc19, if_neg hc28, if_neg hc37, if_neg hc46, if_neg hc56, if_neg hc66, if_neg hc76, if_neg hc86, if_neg hc96, if_neg hc106, if_neg hc116, if_neg hc126, if_neg hc136, if_neg hc146, if_neg hc156, if_pos hc166]), N0, rfl⟩) (by decide) (by decide)
                                    · refine oS (fun t k => XS.icmpYes X0.here hx rfl (pc0 := 166) (pc' := 173) rfl (hb hby d1_166) rfl (feq hc166).2 (by decide) (by decide) k) ?_
                                      obtain ⟨T19, X19, e19, st19⟩ := getS2 X0 hx hZ hown (host := "") (Or.inl (oW hw 58 rfl)) Via.refl e0 ((wS18 W).ext O0.2) (g := (mkF m 173 #[.val (.int p1)] [])) rfl (hb hby d1_173)
                                      refine oS (fun t k => st19 t k) ?_
                                      show oG _ _ _ _ _ _ _ (T19.setTop (mkF m 176 #[.val (.int p1)] [(.ref (w 18))]))
                                      try clear st19
                                      exact own_ret (v := some (.ref (w 18))) X19 (fun h => by rw [Bd.returns] at h; cases h) Bd.notSynchronized (fun fs hr => retOut X19 hx (t := (.object "com/example/loudline/loudline/packet/Refusal")) Bd.returns rfl (Or.inr (Or.inr (Or.inr (Or.inr ⟨rfl, rfl, rfl⟩)))) (hb hby d1_176) hr) (by rw [e19]; exact ⟨(by simp only [own_pick, if_neg hc1, if_neg hc10, if_neg hc19, if_neg hc28, if_neg hc37, if_neg hc46, if_neg hc56, if_neg hc66, if_neg hc76, if_neg hc86, if_neg hc96, if_neg hc106, if_neg hc116, if_neg hc126, if_neg hc136, if_neg hc146, if_neg hc156, if_neg hc166]), N0, rfl⟩) (by decide) (by decide)
theorem d2_0 : decode prog_61_method_4_code 0 = .ok (.iload_n 1, 1) := by decide +kernel
theorem d2_1 : decode prog_61_method_4_code 1 = .ok (.ldc 94, 2) := by decide +kernel
theorem d2_3 : decode prog_61_method_4_code 3 = .ok (.iand, 1) := by decide +kernel
theorem d2_4 : decode prog_61_method_4_code 4 = .ok (.i2l, 1) := by decide +kernel
theorem d2_5 : decode prog_61_method_4_code 5 = .ok (.bipush 32, 2) := by decide +kernel
theorem lb_32 : (Int8.ofInt (32)).toInt32 = (32 : Int32) := by decide
theorem d2_7 : decode prog_61_method_4_code 7 = .ok (.lshl, 1) := by decide +kernel
theorem d2_8 : decode prog_61_method_4_code 8 = .ok (.iload_n 2, 1) := by decide +kernel
theorem d2_9 : decode prog_61_method_4_code 9 = .ok (.i2l, 1) := by decide +kernel
theorem d2_10 : decode prog_61_method_4_code 10 = .ok (.ldc2_w 95, 3) := by decide +kernel
theorem d2_13 : decode prog_61_method_4_code 13 = .ok (.land, 1) := by decide +kernel
theorem d2_14 : decode prog_61_method_4_code 14 = .ok (.lor, 1) := by decide +kernel
theorem d2_15 : decode prog_61_method_4_code 15 = .ok (.lstore_n 3, 1) := by decide +kernel
theorem d2_16 : decode prog_61_method_4_code 16 = .ok (.ldc2_w 99, 3) := by decide +kernel
theorem d2_19 : decode prog_61_method_4_code 19 = .ok (.aload_n 0, 1) := by decide +kernel
theorem d2_20 : decode prog_61_method_4_code 20 = .ok (.getfield 90, 3) := by decide +kernel
theorem d2_23 : decode prog_61_method_4_code 23 = .ok (.lload_n 3, 1) := by decide +kernel
theorem d2_24 : decode prog_61_method_4_code 24 = .ok (.lor, 1) := by decide +kernel
theorem d2_25 : decode prog_61_method_4_code 25 = .ok (.ldc2_w 101, 3) := by decide +kernel
theorem d2_28 : decode prog_61_method_4_code 28 = .ok (.land, 1) := by decide +kernel
theorem d2_29 : decode prog_61_method_4_code 29 = .ok (.ladd, 1) := by decide +kernel
theorem d2_30 : decode prog_61_method_4_code 30 = .ok (.lreturn, 1) := by decide +kernel
abbrev mY1 : MethodName := (⟨"com/example/loudline/loudline/packet/Refusal", "of", "(II)J"⟩ : MethodName)
theorem ef_2_rii (m : MethodId) (x0 : Addr) (x1 : Int32) (x2 : Int32) : entryFrame m #[(.ref x0), (.int x1), (.int x2)] 5 = mkF m 0 #[.val (.ref x0), .val (.int x1), .val (.int x2), .unset, .unset] [] := by first | (simp [entryFrame, mkF, argsToLocals, Value.category]; done) | rfl
theorem pn_1 : plainName "com/example/loudline/loudline/packet/Refusal" = true := by first | (simp [plainName, overriddenIn]; done) | decide +kernel
def Q_of (Z : State) (a1 : Addr) (p2 : Int32) (p3 : Int32) (q4 : Int64) (h0 : Heap) (n0 : Nat) (v : Option Value) (h : Heap) (L : List Loc) : Prop := v = some (.long (own_ofv q4 p2 p3)) ∧ Fr n0 L ∧ h = h0
set_option maxRecDepth 65536 in
set_option maxHeartbeats 40000000 in
theorem rm_of (l : Launch) (Z : State) (a0 : Array Value) (hw : ∀ d ∈ tables_1, d.before a0 Z = true) (ws : List Jvm.Cond) (a1 : Addr) (p2 : Int32) (p3 : Int32) (q4 : Int64) (h0 : Heap) (n0 : Nat) (O0 : Old Z n0 h0) (F_code : Fld Z h0 a1 "com/example/loudline/loudline/packet/Refusal" "code" "J" (.long q4)) :
    MetFree l mY1 (head1 (Jvm.Cond.code mY1 prog_61_method_4_code 5 (some .long) :: ws) ({ frames := 0, cells := 0, slots := 0, locals := 0 } : Room)) (fun a U => a = #[(.ref a1), (.int p2), (.int p3)] ∧ Z.Warmed39 U.vm ∧ U.heap = h0) (fun _ _ _ _ _ => True) (fun _ U o U' => ∃ v L, o = .returned v ∧ Q_of Z a1 p2 p3 q4 h0 n0 v U'.heap L ∧ FrameEnd U o U' L ({ frames := 0, cells := 0, slots := 0, locals := 0 } : Room).cells ({ frames := 0, cells := 0, slots := 0, locals := 0 } : Room).slots) := by
  refine MetFree.of_bodySF (plainFor_of_name pn_1) hisR ?_
  intro p e s m args below meth c s₁ Bd hml0 hP hK
  obtain ⟨rfl, hZ, hh⟩ := hP
  have hx := Bd.exec
  have hby := Bd.bytes
  have hml : c.maxLocals = 5 := hml0
  have hown : s.vm.findClass "com/example/loudline/loudline/packet/Refusal" = some m.cls := findClass_of_methodNamed Bd.named
  have hnm := (name_of_methodNamed Bd.named Bd.method).1
  have X0 : Stand p l e ({ frames := 0, cells := 0, slots := 0, locals := 0 } : Room) s m #[(.ref a1), (.int p2), (.int p3)] below meth c s₁ [] 0 0 := Stand.of_body Bd
  have e0 : s₁.heap = h0 := by rw [← hh, Bd.state]; rfl
  have N0 := Fr.nil n0
  show oG p e below s (Q_of Z a1 p2 p3 q4 h0 n0) ({ frames := 0, cells := 0, slots := 0, locals := 0 } : Room).cells ({ frames := 0, cells := 0, slots := 0, locals := 0 } : Room).slots _
  refine oS (fun t k => castTop (ef_2_rii m a1 p2 p3) k) ?_
  show oG _ _ _ _ _ _ _ (s₁.setTop (mkF m 0 #[.val (.ref a1), .val (.int p2), .val (.int p3), .unset, .unset] []))
  refine oS (fun t k => XS.iloadN X0.here hx rfl (hb hby d2_0) rfl k) ?_
  refine oS (fun t k => X0.ldcInt hx hown (mvT hZ (oW hw 14 rfl)) (g := (mkF m 1 #[.val (.ref a1), .val (.int p2), .val (.int p3), .unset, .unset] [(.int p2)])) rfl (hb hby d2_1) t k) ?_
  refine oS (fun t k => XS.iand X0.here hx rfl (hb hby d2_3) rfl k) ?_
  show oG _ _ _ _ _ _ _ (s₁.setTop (mkF m 4 #[.val (.ref a1), .val (.int p2), .val (.int p3), .unset, .unset] [(.int (p2 &&& (16777215 : Int32)))]))
  refine oS (fun t k => XS.i2l X0.here hx rfl (hb hby d2_4) rfl k) ?_
  refine oS (fun t k => oBp lb_32 X0.here hx rfl (hb hby d2_5) k) ?_
  refine oS (fun t k => XS.lshl X0.here hx rfl (hb hby d2_7) rfl k) ?_
  show oG _ _ _ _ _ _ _ (s₁.setTop (mkF m 8 #[.val (.ref a1), .val (.int p2), .val (.int p3), .unset, .unset] [(.long (((p2 &&& (16777215 : Int32)).toInt64) <<< ((32 : Int32) &&& 0x3f).toInt64))]))
  refine oS (fun t k => XS.iloadN X0.here hx rfl (hb hby d2_8) rfl k) ?_
  refine oS (fun t k => XS.i2l X0.here hx rfl (hb hby d2_9) rfl k) ?_
  refine oS (fun t k => X0.ldc2Long hx hown (mvT hZ (oW hw 15 rfl)) (g := (mkF m 10 #[.val (.ref a1), .val (.int p2), .val (.int p3), .unset, .unset] [(.long (p3.toInt64)), (.long (((p2 &&& (16777215 : Int32)).toInt64) <<< ((32 : Int32) &&& 0x3f).toInt64))])) rfl (hb hby d2_10) t k) ?_
  show oG _ _ _ _ _ _ _ (s₁.setTop (mkF m 13 #[.val (.ref a1), .val (.int p2), .val (.int p3), .unset, .unset] [(.long 4294967295), (.long (p3.toInt64)), (.long (((p2 &&& (16777215 : Int32)).toInt64) <<< ((32 : Int32) &&& 0x3f).toInt64))]))
  refine oS (fun t k => XS.land X0.here hx rfl (hb hby d2_13) rfl k) ?_
  refine oS (fun t k => XS.lor X0.here hx rfl (hb hby d2_14) rfl k) ?_
  refine oS (fun t k => XS.lstoreN X0.here hx rfl (hb hby d2_15) rfl (l' := #[.val (.ref a1), .val (.int p2), .val (.int p3), .val (.long ((((p2 &&& (16777215 : Int32)).toInt64) <<< ((32 : Int32) &&& 0x3f).toInt64) ||| ((p3.toInt64) &&& (4294967295 : Int64)))), .second]) rfl k) ?_
  show oG _ _ _ _ _ _ _ (s₁.setTop (mkF m 16 #[.val (.ref a1), .val (.int p2), .val (.int p3), .val (.long ((((p2 &&& (16777215 : Int32)).toInt64) <<< ((32 : Int32) &&& 0x3f).toInt64) ||| ((p3.toInt64) &&& (4294967295 : Int64)))), .second] []))
  refine oS (fun t k => X0.ldc2Long hx hown (mvT hZ (oW hw 16 rfl)) (g := (mkF m 16 #[.val (.ref a1), .val (.int p2), .val (.int p3), .val (.long ((((p2 &&& (16777215 : Int32)).toInt64) <<< ((32 : Int32) &&& 0x3f).toInt64) ||| ((p3.toInt64) &&& (4294967295 : Int64)))), .second] [])) rfl (hb hby d2_16) t k) ?_
  refine oS (fun t k => XS.aloadN X0.here hx rfl (hb hby d2_19) rfl rfl k) ?_
  obtain ⟨T1, X1, e1, st1⟩ := getF X0 hx hZ hown (host := "") (Or.inl (oW hw 17 rfl)) Via.refl e0 F_code (g := (mkF m 20 #[.val (.ref a1), .val (.int p2), .val (.int p3), .val (.long ((((p2 &&& (16777215 : Int32)).toInt64) <<< ((32 : Int32) &&& 0x3f).toInt64) ||| ((p3.toInt64) &&& (4294967295 : Int64)))), .second] [(.ref a1), (.long (-9223372036854775808))])) rfl rfl (hb hby d2_20)
  refine oS (fun t k => st1 t k) ?_
  show oG _ _ _ _ _ _ _ (T1.setTop (mkF m 23 #[.val (.ref a1), .val (.int p2), .val (.int p3), .val (.long ((((p2 &&& (16777215 : Int32)).toInt64) <<< ((32 : Int32) &&& 0x3f).toInt64) ||| ((p3.toInt64) &&& (4294967295 : Int64)))), .second] [(.long q4), (.long (-9223372036854775808))]))
  try clear st1
  refine oS (fun t k => XS.lloadN X1.here hx rfl (hb hby d2_23) rfl k) ?_
  refine oS (fun t k => XS.lor X1.here hx rfl (hb hby d2_24) rfl k) ?_
  refine oS (fun t k => X1.ldc2Long hx hown (mvT hZ (oW hw 19 rfl)) (g := (mkF m 25 #[.val (.ref a1), .val (.int p2), .val (.int p3), .val (.long ((((p2 &&& (16777215 : Int32)).toInt64) <<< ((32 : Int32) &&& 0x3f).toInt64) ||| ((p3.toInt64) &&& (4294967295 : Int64)))), .second] [(.long (q4 ||| ((((p2 &&& (16777215 : Int32)).toInt64) <<< ((32 : Int32) &&& 0x3f).toInt64) ||| ((p3.toInt64) &&& (4294967295 : Int64))))), (.long (-9223372036854775808))])) rfl (hb hby d2_25) t k) ?_
  show oG _ _ _ _ _ _ _ (T1.setTop (mkF m 28 #[.val (.ref a1), .val (.int p2), .val (.int p3), .val (.long ((((p2 &&& (16777215 : Int32)).toInt64) <<< ((32 : Int32) &&& 0x3f).toInt64) ||| ((p3.toInt64) &&& (4294967295 : Int64)))), .second] [(.long 9223372036854775807), (.long (q4 ||| ((((p2 &&& (16777215 : Int32)).toInt64) <<< ((32 : Int32) &&& 0x3f).toInt64) ||| ((p3.toInt64) &&& (4294967295 : Int64))))), (.long (-9223372036854775808))]))
  refine oS (fun t k => XS.land X1.here hx rfl (hb hby d2_28) rfl k) ?_
  refine oS (fun t k => XS.ladd X1.here hx rfl (hb hby d2_29) rfl k) ?_
  exact own_ret (v := some (.long ((-9223372036854775808 : Int64) + ((q4 ||| ((((p2 &&& (16777215 : Int32)).toInt64) <<< ((32 : Int32) &&& 0x3f).toInt64) ||| ((p3.toInt64) &&& (4294967295 : Int64)))) &&& (9223372036854775807 : Int64))))) X1 (fun h => by rw [Bd.returns] at h; cases h) Bd.notSynchronized (fun fs hr => retOut X1 hx (t := .long) Bd.returns rfl (Or.inr (Or.inl ⟨rfl, rfl, _, rfl⟩)) (hb hby d2_30) hr) (by rw [e1]; exact ⟨rfl, N0, rfl⟩) (by decide) (by decide)
theorem lb_19 : (Int8.ofInt (19)).toInt32 = (19 : Int32) := by decide
theorem pd_0 : parseMethodDescriptor "(I)Lcom/example/loudline/loudline/packet/Refusal;" = some ⟨[.int], some (.object "com/example/loudline/loudline/packet/Refusal")⟩ := by decide +kernel
theorem pd_1 : parseMethodDescriptor "(II)J" = some ⟨[.int, .int], some .long⟩ := by decide +kernel
theorem li_0 : Int32.ofInt (0) = (0 : Int32) := by decide
theorem ll_0 : Int64.ofNat ((0 : Fin 2) : Nat) = (0 : Int64) := by decide
theorem ef_0_iii (m : MethodId) (x0 : Int32) (x1 : Int32) (x2 : Int32) : entryFrame m #[(.int x0), (.int x1), (.int x2)] maxLocals = mkF m 0 #[.val (.int x0), .val (.int x1), .val (.int x2), .unset, .unset, .unset, .unset, .unset, .unset, .unset, .unset, .unset, .unset] [] := by first | (simp [entryFrame, mkF, argsToLocals, Value.category, maxLocals]; done) | rfl
def Q_law (Z : State) (p1 : Int32) (p2 : Int32) (p3 : Int32) (w : Nat → Addr) (h0 : Heap) (n0 : Nat) (v : Option Value) (h : Heap) (L : List Loc) : Prop := v = some (.int 1) ∧ Fr n0 L
set_option maxRecDepth 65536 in
set_option maxHeartbeats 40000000 in
theorem rm_law (l : Launch) (Z : State) (a0 : Array Value) (hw : ∀ d ∈ tables_1, d.before a0 Z = true) (ws : List Jvm.Cond) (p1 : Int32) (p2 : Int32) (p3 : Int32) (w : Nat → Addr) (h0 : Heap) (n0 : Nat) (O0 : Old Z n0 h0) (W : own_World Z w) :
    MetFree l x (head1 (Jvm.Cond.code x code maxLocals ret :: ws) room_1) (fun a U => a = #[(.int p1), (.int p2), (.int p3)] ∧ Z.Warmed39 U.vm ∧ U.heap = h0) (fun _ _ _ _ _ => True) (fun _ U o U' => ∃ v L, o = .returned v ∧ Q_law Z p1 p2 p3 w h0 n0 v U'.heap L ∧ FrameEnd U o U' L room_1.cells room_1.slots) := by
  refine MetFree.of_bodySF (plainFor_of_name pn_0) hisR ?_
  intro p e s m args below meth c s₁ Bd hml0 hP hK
  obtain ⟨rfl, hZ, hh⟩ := hP
  have hx := Bd.exec
  have hby := Bd.bytes
  have hml : c.maxLocals = 13 := hml0
  have hown : s.vm.findClass "com/example/loudline/loudline/packet/RefusalOfPinLaw" = some m.cls := findClass_of_methodNamed Bd.named
  have hnm := (name_of_methodNamed Bd.named Bd.method).1
  have X0 : Stand p l e room_1 s m #[(.int p1), (.int p2), (.int p3)] below meth c s₁ [] 0 0 := Stand.of_body Bd
  have e0 : s₁.heap = h0 := by rw [← hh, Bd.state]; rfl
  have N0 := Fr.nil n0
  show oG p e below s (Q_law Z p1 p2 p3 w h0 n0) room_1.cells room_1.slots _
  refine oS (fun t k => castTop (ef_0_iii m p1 p2 p3) k) ?_
  show oG _ _ _ _ _ _ _ (s₁.setTop (mkF m 0 #[.val (.int p1), .val (.int p2), .val (.int p3), .unset, .unset, .unset, .unset, .unset, .unset, .unset, .unset, .unset, .unset] []))
  refine oS (fun t k => XS.iloadN X0.here hx rfl (hb hby at_0) rfl k) ?_
  refine oS (fun t k => X0.ldcInt hx hown (mvT hZ (oW hw 0 rfl)) (g := (mkF m 1 #[.val (.int p1), .val (.int p2), .val (.int p3), .unset, .unset, .unset, .unset, .unset, .unset, .unset, .unset, .unset, .unset] [(.int p1)])) rfl (hb hby at_1) t k) ?_
  refine oS (fun t k => XS.iand X0.here hx rfl (hb hby at_3) rfl k) ?_
  show oG _ _ _ _ _ _ _ (s₁.setTop (mkF m 4 #[.val (.int p1), .val (.int p2), .val (.int p3), .unset, .unset, .unset, .unset, .unset, .unset, .unset, .unset, .unset, .unset] [(.int (p1 &&& (2147483647 : Int32)))]))
  refine oS (fun t k => oBp lb_19 X0.here hx rfl (hb hby at_4) k) ?_
  refine oS (fun t k => iremM X0 hx rfl (hb hby at_6) rfl (by decide) k) ?_
  refine oS (fun t k => XS.istoreN X0.here hx rfl (hb hby at_7) rfl (l' := #[.val (.int p1), .val (.int p2), .val (.int p3), .val (.int ((p1 &&& (2147483647 : Int32)) % (19 : Int32))), .unset, .unset, .unset, .unset, .unset, .unset, .unset, .unset, .unset]) rfl k) ?_
  show oG _ _ _ _ _ _ _ (s₁.setTop (mkF m 8 #[.val (.int p1), .val (.int p2), .val (.int p3), .val (.int ((p1 &&& (2147483647 : Int32)) % (19 : Int32))), .unset, .unset, .unset, .unset, .unset, .unset, .unset, .unset, .unset] []))
  refine oS (fun t k => XS.iloadN X0.here hx rfl (hb hby at_8) rfl k) ?_
  refine oS (fun t k => X0.ldcInt hx hown (mvT hZ (oW hw 1 rfl)) (g := (mkF m 9 #[.val (.int p1), .val (.int p2), .val (.int p3), .val (.int ((p1 &&& (2147483647 : Int32)) % (19 : Int32))), .unset, .unset, .unset, .unset, .unset, .unset, .unset, .unset, .unset] [(.int p2)])) rfl (hb hby at_9) t k) ?_
  refine oS (fun t k => XS.iand X0.here hx rfl (hb hby at_11) rfl k) ?_
  show oG _ _ _ _ _ _ _ (s₁.setTop (mkF m 12 #[.val (.int p1), .val (.int p2), .val (.int p3), .val (.int ((p1 &&& (2147483647 : Int32)) % (19 : Int32))), .unset, .unset, .unset, .unset, .unset, .unset, .unset, .unset, .unset] [(.int (p2 &&& (16777215 : Int32)))]))
  refine oS (fun t k => XS.istore X0.here hx rfl (hb hby at_12) rfl (l' := #[.val (.int p1), .val (.int p2), .val (.int p3), .val (.int ((p1 &&& (2147483647 : Int32)) % (19 : Int32))), .val (.int (p2 &&& (16777215 : Int32))), .unset, .unset, .unset, .unset, .unset, .unset, .unset, .unset]) rfl k) ?_
  refine oS (fun t k => XS.iloadN X0.here hx rfl (hb hby at_14) rfl k) ?_
  obtain ⟨_, _, ⟨T1, L1, k1, n1⟩, -, X1, ⟨Lc1, hQ1, l1, y1, z1⟩, st1⟩ := Jvm.LawKit.callS X0 hx (y := mY0) hown (mvT hZ (oW hw 2 rfl)) (mvT hZ (oW hw 3 rfl)) (mvT hZ (oW hw 4 rfl)) (mvT hZ (oW hw 5 rfl)) (by decide) (backOf (W := 0) (rm_pick l Z a0 hw [] ((p1 &&& (2147483647 : Int32)) % (19 : Int32)) w h0 n0 O0 W ) hZ (oW hw 5 rfl) (oW hw 4 rfl) (by decide) (by decide)) (g := (mkF m 15 #[.val (.int p1), .val (.int p2), .val (.int p3), .val (.int ((p1 &&& (2147483647 : Int32)) % (19 : Int32))), .val (.int (p2 &&& (16777215 : Int32))), .unset, .unset, .unset, .unset, .unset, .unset, .unset, .unset] [(.int ((p1 &&& (2147483647 : Int32)) % (19 : Int32)))])) rfl (by rw [hml]; rfl) (argsL := [(.int ((p1 &&& (2147483647 : Int32)) % (19 : Int32)))]) (rest := []) (lenOf pd_0 rfl) rfl (by show 2 * 0 + _ ≤ _; exact Nat.le_of_eq rfl) (hb hby at_15) (fun _ _ => ⟨rfl, e0, (by decide : 0 + 0 ≤ _), (by decide : 0 + 0 ≤ _)⟩)
  dsimp only [Pt.U, Pt.locs, Pt.cells, Pt.slots] at X1 l1 y1 z1 st1 hQ1
  subst l1 y1 z1
  obtain ⟨rfl, Nq1, e1⟩ := hQ1
  have N1 := Fr.app N0 Nq1
  refine oS (fun t k => st1 t k) ?_
  show oG _ _ _ _ _ _ _ (T1.setTop (mkF m 18 #[.val (.int p1), .val (.int p2), .val (.int p3), .val (.int ((p1 &&& (2147483647 : Int32)) % (19 : Int32))), .val (.int (p2 &&& (16777215 : Int32))), .unset, .unset, .unset, .unset, .unset, .unset, .unset, .unset] [(.ref (own_pick w ((p1 &&& (2147483647 : Int32)) % (19 : Int32))))]))
  try clear st1
  refine oS (fun t k => XS.astore X1.here hx rfl (hb hby at_18) rfl rfl (l' := #[.val (.int p1), .val (.int p2), .val (.int p3), .val (.int ((p1 &&& (2147483647 : Int32)) % (19 : Int32))), .val (.int (p2 &&& (16777215 : Int32))), .val (.ref (own_pick w ((p1 &&& (2147483647 : Int32)) % (19 : Int32)))), .unset, .unset, .unset, .unset, .unset, .unset, .unset]) rfl k) ?_
  refine oS (fun t k => XS.aload X1.here hx rfl (hb hby at_20) rfl rfl k) ?_
  refine oS (fun t k => XS.iload X1.here hx rfl (hb hby at_22) rfl k) ?_
  show oG _ _ _ _ _ _ _ (T1.setTop (mkF m 24 #[.val (.int p1), .val (.int p2), .val (.int p3), .val (.int ((p1 &&& (2147483647 : Int32)) % (19 : Int32))), .val (.int (p2 &&& (16777215 : Int32))), .val (.ref (own_pick w ((p1 &&& (2147483647 : Int32)) % (19 : Int32)))), .unset, .unset, .unset, .unset, .unset, .unset, .unset] [(.int (p2 &&& (16777215 : Int32))), (.ref (own_pick w ((p1 &&& (2147483647 : Int32)) % (19 : Int32))))]))
  refine oS (fun t k => XS.iloadN X1.here hx rfl (hb hby at_24) rfl k) ?_
  obtain ⟨cq2, kq2, q2a, q2b, q2c⟩ := isOf hZ e1 ((own_pickE W ((p1 &&& (2147483647 : Int32)) % (19 : Int32))).ext O0.2)
  obtain ⟨_, _, ⟨T2, L2, k2, n2⟩, -, X2, ⟨Lc2, hQ2, l2, y2, z2⟩, st2⟩ := X1.virtualBack hx (y := mY1) (z := mY1) hown (mvT hZ (oW hw 9 rfl)) (mvT hZ (oW hw 10 rfl)) (notFace_of_selects (args := #[]) (mvT hZ (oW hw 12 rfl))) (mvT hZ (oW hw 12 rfl)) (mvT hZ (oW hw 11 rfl)) (by decide) (backOf (W := 0) (rm_of l Z a0 hw [] (own_pick w ((p1 &&& (2147483647 : Int32)) % (19 : Int32))) (p2 &&& (16777215 : Int32)) p3 (own_code ((p1 &&& (2147483647 : Int32)) % (19 : Int32)))  h0 n0 O0  ((own_pickC W ((p1 &&& (2147483647 : Int32)) % (19 : Int32))).ext O0.2)) hZ (oW hw 13 rfl) (oW hw 7 rfl) (by decide) (by decide)) q2a q2c (g := (mkF m 25 #[.val (.int p1), .val (.int p2), .val (.int p3), .val (.int ((p1 &&& (2147483647 : Int32)) % (19 : Int32))), .val (.int (p2 &&& (16777215 : Int32))), .val (.ref (own_pick w ((p1 &&& (2147483647 : Int32)) % (19 : Int32)))), .unset, .unset, .unset, .unset, .unset, .unset, .unset] [(.int p3), (.int (p2 &&& (16777215 : Int32))), (.ref (own_pick w ((p1 &&& (2147483647 : Int32)) % (19 : Int32))))])) rfl (by rw [hml]; rfl) (Steps.refl _) (argsL := [(.int (p2 &&& (16777215 : Int32))), (.int p3)]) (rest := []) (lenOf pd_1 rfl) rfl (by show 2 * 0 + _ ≤ _; exact Nat.le_of_eq rfl) (hb hby at_25) (fun _ _ => ⟨rfl, e1, (by decide : 0 + 0 ≤ _), (by decide : 0 + 0 ≤ _)⟩)
  dsimp only [Pt.U, Pt.locs, Pt.cells, Pt.slots] at X2 l2 y2 z2 st2 hQ2
  subst l2 y2 z2
  obtain ⟨rfl, Nq2, e2⟩ := hQ2
  have N2 := Fr.app N1 Nq2
  refine oS (fun t k => st2.trans k) ?_
  show oG _ _ _ _ _ _ _ (T2.setTop (mkF m 28 #[.val (.int p1), .val (.int p2), .val (.int p3), .val (.int ((p1 &&& (2147483647 : Int32)) % (19 : Int32))), .val (.int (p2 &&& (16777215 : Int32))), .val (.ref (own_pick w ((p1 &&& (2147483647 : Int32)) % (19 : Int32)))), .unset, .unset, .unset, .unset, .unset, .unset, .unset] [(.long (own_ofv (own_code ((p1 &&& (2147483647 : Int32)) % (19 : Int32))) (p2 &&& (16777215 : Int32)) p3))]))
  try clear st2 X1 e1
  refine oS (fun t k => XS.lstore X2.here hx rfl (hb hby at_28) rfl (l' := #[.val (.int p1), .val (.int p2), .val (.int p3), .val (.int ((p1 &&& (2147483647 : Int32)) % (19 : Int32))), .val (.int (p2 &&& (16777215 : Int32))), .val (.ref (own_pick w ((p1 &&& (2147483647 : Int32)) % (19 : Int32)))), .val (.long (own_ofv (own_code ((p1 &&& (2147483647 : Int32)) % (19 : Int32))) (p2 &&& (16777215 : Int32)) p3)), .second, .unset, .unset, .unset, .unset, .unset]) rfl k) ?_
  refine oS (fun t k => XS.iloadN X2.here hx rfl (hb hby at_30) rfl k) ?_
  refine oS (fun t k => oBp lb_14 X2.here hx rfl (hb hby at_31) k) ?_
  show oG _ _ _ _ _ _ _ (T2.setTop (mkF m 33 #[.val (.int p1), .val (.int p2), .val (.int p3), .val (.int ((p1 &&& (2147483647 : Int32)) % (19 : Int32))), .val (.int (p2 &&& (16777215 : Int32))), .val (.ref (own_pick w ((p1 &&& (2147483647 : Int32)) % (19 : Int32)))), .val (.long (own_ofv (own_code ((p1 &&& (2147483647 : Int32)) % (19 : Int32))) (p2 &&& (16777215 : Int32)) p3)), .second, .unset, .unset, .unset, .unset, .unset] [(.int 14), (.int ((p1 &&& (2147483647 : Int32)) % (19 : Int32)))]))
  by_cases hc33 : ((p1 &&& (2147483647 : Int32)) % (19 : Int32)) < (14 : Int32)
  · refine oS (fun t k => XS.icmpYes X2.here hx rfl (pc0 := 33) (pc' := 40) rfl (hb hby at_33) rfl (tlt hc33).1 (by decide) (by decide) k) ?_
    refine oS (fun t k => oIc li_0 X2.here hx rfl (hb hby at_40) k) ?_
    refine oS (fun t k => XS.istore X2.here hx rfl (hb hby at_41) rfl (l' := #[.val (.int p1), .val (.int p2), .val (.int p3), .val (.int ((p1 &&& (2147483647 : Int32)) % (19 : Int32))), .val (.int (p2 &&& (16777215 : Int32))), .val (.ref (own_pick w ((p1 &&& (2147483647 : Int32)) % (19 : Int32)))), .val (.long (own_ofv (own_code ((p1 &&& (2147483647 : Int32)) % (19 : Int32))) (p2 &&& (16777215 : Int32)) p3)), .second, .val (.int 0), .unset, .unset, .unset, .unset]) rfl k) ?_
    show oG _ _ _ _ _ _ _ (T2.setTop (mkF m 43 #[.val (.int p1), .val (.int p2), .val (.int p3), .val (.int ((p1 &&& (2147483647 : Int32)) % (19 : Int32))), .val (.int (p2 &&& (16777215 : Int32))), .val (.ref (own_pick w ((p1 &&& (2147483647 : Int32)) % (19 : Int32)))), .val (.long (own_ofv (own_code ((p1 &&& (2147483647 : Int32)) % (19 : Int32))) (p2 &&& (16777215 : Int32)) p3)), .second, .val (.int 0), .unset, .unset, .unset, .unset] []))
    refine oS (fun t k => XS.iloadN X2.here hx rfl (hb hby at_43) rfl k) ?_
    by_cases hc44 : p3 < (0 : Int32)
    · refine oS (fun t k => XS.ifNo X2.here hx rfl (hb hby at_44) rfl ((if0 _ _).trans (tlt hc44).2.1) k) ?_
      refine oS (fun t k => XS.iloadN X2.here hx rfl (hb hby at_47) rfl k) ?_
      show oG _ _ _ _ _ _ _ (T2.setTop (mkF m 48 #[.val (.int p1), .val (.int p2), .val (.int p3), .val (.int ((p1 &&& (2147483647 : Int32)) % (19 : Int32))), .val (.int (p2 &&& (16777215 : Int32))), .val (.ref (own_pick w ((p1 &&& (2147483647 : Int32)) % (19 : Int32)))), .val (.long (own_ofv (own_code ((p1 &&& (2147483647 : Int32)) % (19 : Int32))) (p2 &&& (16777215 : Int32)) p3)), .second, .val (.int 0), .unset, .unset, .unset, .unset] [(.int p3)]))
      refine oS (fun t k => XS.i2l X2.here hx rfl (hb hby at_48) rfl k) ?_
      refine oS (fun t k => X2.ldc2Long hx hown (mvT hZ (oW hw 22 rfl)) (g := (mkF m 49 #[.val (.int p1), .val (.int p2), .val (.int p3), .val (.int ((p1 &&& (2147483647 : Int32)) % (19 : Int32))), .val (.int (p2 &&& (16777215 : Int32))), .val (.ref (own_pick w ((p1 &&& (2147483647 : Int32)) % (19 : Int32)))), .val (.long (own_ofv (own_code ((p1 &&& (2147483647 : Int32)) % (19 : Int32))) (p2 &&& (16777215 : Int32)) p3)), .second, .val (.int 0), .unset, .unset, .unset, .unset] [(.long (p3.toInt64))])) rfl (hb hby at_49) t k) ?_
      refine oS (fun t k => XS.ladd X2.here hx rfl (hb hby at_52) rfl k) ?_
      show oG _ _ _ _ _ _ _ (T2.setTop (mkF m 53 #[.val (.int p1), .val (.int p2), .val (.int p3), .val (.int ((p1 &&& (2147483647 : Int32)) % (19 : Int32))), .val (.int (p2 &&& (16777215 : Int32))), .val (.ref (own_pick w ((p1 &&& (2147483647 : Int32)) % (19 : Int32)))), .val (.long (own_ofv (own_code ((p1 &&& (2147483647 : Int32)) % (19 : Int32))) (p2 &&& (16777215 : Int32)) p3)), .second, .val (.int 0), .unset, .unset, .unset, .unset] [(.long ((p3.toInt64) + (4294967296 : Int64)))]))
      refine oS (fun t k => XS.goto X2.here hx rfl (pc0 := 53) (pc' := 58) rfl (hb hby at_53) (by decide) (by decide) k) ?_
      refine oS (fun t k => XS.lstore X2.here hx rfl (hb hby at_58) rfl (l' := #[.val (.int p1), .val (.int p2), .val (.int p3), .val (.int ((p1 &&& (2147483647 : Int32)) % (19 : Int32))), .val (.int (p2 &&& (16777215 : Int32))), .val (.ref (own_pick w ((p1 &&& (2147483647 : Int32)) % (19 : Int32)))), .val (.long (own_ofv (own_code ((p1 &&& (2147483647 : Int32)) % (19 : Int32))) (p2 &&& (16777215 : Int32)) p3)), .second, .val (.int 0), .val (.long ((p3.toInt64) + (4294967296 : Int64))), .second, .unset, .unset]) rfl k) ?_
      refine oS (fun t k => X2.ldc2Long hx hown (mvT hZ (oW hw 20 rfl)) (g := (mkF m 60 #[.val (.int p1), .val (.int p2), .val (.int p3), .val (.int ((p1 &&& (2147483647 : Int32)) % (19 : Int32))), .val (.int (p2 &&& (16777215 : Int32))), .val (.ref (own_pick w ((p1 &&& (2147483647 : Int32)) % (19 : Int32)))), .val (.long (own_ofv (own_code ((p1 &&& (2147483647 : Int32)) % (19 : Int32))) (p2 &&& (16777215 : Int32)) p3)), .second, .val (.int 0), .val (.long ((p3.toInt64) + (4294967296 : Int64))), .second, .unset, .unset] [])) rfl (hb hby at_60) t k) ?_
      show oG _ _ _ _ _ _ _ (T2.setTop (mkF m 63 #[.val (.int p1), .val (.int p2), .val (.int p3), .val (.int ((p1 &&& (2147483647 : Int32)) % (19 : Int32))), .val (.int (p2 &&& (16777215 : Int32))), .val (.ref (own_pick w ((p1 &&& (2147483647 : Int32)) % (19 : Int32)))), .val (.long (own_ofv (own_code ((p1 &&& (2147483647 : Int32)) % (19 : Int32))) (p2 &&& (16777215 : Int32)) p3)), .second, .val (.int 0), .val (.long ((p3.toInt64) + (4294967296 : Int64))), .second, .unset, .unset] [(.long (-9223372036854775808))]))
      refine oS (fun t k => XS.iload X2.here hx rfl (hb hby at_63) rfl k) ?_
      refine oS (fun t k => XS.ifYes X2.here hx rfl (pc0 := 65) (pc' := 74) rfl (hb hby at_65) rfl ((if0 _ _).trans (teq (by decide)).1) (by decide) (by decide) k) ?_
      refine oS (fun t k => oLc ll_0 X2.here hx rfl (hb hby at_74) k) ?_
      show oG _ _ _ _ _ _ _ (T2.setTop (mkF m 75 #[.val (.int p1), .val (.int p2), .val (.int p3), .val (.int ((p1 &&& (2147483647 : Int32)) % (19 : Int32))), .val (.int (p2 &&& (16777215 : Int32))), .val (.ref (own_pick w ((p1 &&& (2147483647 : Int32)) % (19 : Int32)))), .val (.long (own_ofv (own_code ((p1 &&& (2147483647 : Int32)) % (19 : Int32))) (p2 &&& (16777215 : Int32)) p3)), .second, .val (.int 0), .val (.long ((p3.toInt64) + (4294967296 : Int64))), .second, .unset, .unset] [(.long 0), (.long (-9223372036854775808))]))
      refine oS (S' := (T2.setTop (mkF m 76 #[.val (.int p1), .val (.int p2), .val (.int p3), .val (.int ((p1 &&& (2147483647 : Int32)) % (19 : Int32))), .val (.int (p2 &&& (16777215 : Int32))), .val (.ref (own_pick w ((p1 &&& (2147483647 : Int32)) % (19 : Int32)))), .val (.long (own_ofv (own_code ((p1 &&& (2147483647 : Int32)) % (19 : Int32))) (p2 &&& (16777215 : Int32)) p3)), .second, .val (.int 0), .val (.long ((p3.toInt64) + (4294967296 : Int64))), .second, .unset, .unset] [(.long (-9223372036854775808))]))) (fun t k => XS.ladd X2.here hx rfl (hb hby at_75) rfl (by rw [show (-9223372036854775808 : Int64) + (0 : Int64) = (-9223372036854775808 : Int64) from by decide]; exact k)) ?_
      refine oS (fun t k => XS.iloadN X2.here hx rfl (hb hby at_76) rfl k) ?_
      refine oS (fun t k => XS.i2l X2.here hx rfl (hb hby at_77) rfl k) ?_
      show oG _ _ _ _ _ _ _ (T2.setTop (mkF m 78 #[.val (.int p1), .val (.int p2), .val (.int p3), .val (.int ((p1 &&& (2147483647 : Int32)) % (19 : Int32))), .val (.int (p2 &&& (16777215 : Int32))), .val (.ref (own_pick w ((p1 &&& (2147483647 : Int32)) % (19 : Int32)))), .val (.long (own_ofv (own_code ((p1 &&& (2147483647 : Int32)) % (19 : Int32))) (p2 &&& (16777215 : Int32)) p3)), .second, .val (.int 0), .val (.long ((p3.toInt64) + (4294967296 : Int64))), .second, .unset, .unset] [(.long (((p1 &&& (2147483647 : Int32)) % (19 : Int32)).toInt64)), (.long (-9223372036854775808))]))
      refine oS (fun t k => X2.ldc2Long hx hown (mvT hZ (oW hw 21 rfl)) (g := (mkF m 78 #[.val (.int p1), .val (.int p2), .val (.int p3), .val (.int ((p1 &&& (2147483647 : Int32)) % (19 : Int32))), .val (.int (p2 &&& (16777215 : Int32))), .val (.ref (own_pick w ((p1 &&& (2147483647 : Int32)) % (19 : Int32)))), .val (.long (own_ofv (own_code ((p1 &&& (2147483647 : Int32)) % (19 : Int32))) (p2 &&& (16777215 : Int32)) p3)), .second, .val (.int 0), .val (.long ((p3.toInt64) + (4294967296 : Int64))), .second, .unset, .unset] [(.long (((p1 &&& (2147483647 : Int32)) % (19 : Int32)).toInt64)), (.long (-9223372036854775808))])) rfl (hb hby at_78) t k) ?_
      refine oS (fun t k => XS.lmul X2.here hx rfl (hb hby at_81) rfl k) ?_
      refine oS (fun t k => XS.ladd X2.here hx rfl (hb hby at_82) rfl k) ?_
      show oG _ _ _ _ _ _ _ (T2.setTop (mkF m 83 #[.val (.int p1), .val (.int p2), .val (.int p3), .val (.int ((p1 &&& (2147483647 : Int32)) % (19 : Int32))), .val (.int (p2 &&& (16777215 : Int32))), .val (.ref (own_pick w ((p1 &&& (2147483647 : Int32)) % (19 : Int32)))), .val (.long (own_ofv (own_code ((p1 &&& (2147483647 : Int32)) % (19 : Int32))) (p2 &&& (16777215 : Int32)) p3)), .second, .val (.int 0), .val (.long ((p3.toInt64) + (4294967296 : Int64))), .second, .unset, .unset] [(.long ((-9223372036854775808 : Int64) + ((((p1 &&& (2147483647 : Int32)) % (19 : Int32)).toInt64) * (72057594037927936 : Int64))))]))
      refine oS (fun t k => XS.iload X2.here hx rfl (hb hby at_83) rfl k) ?_
      refine oS (fun t k => XS.i2l X2.here hx rfl (hb hby at_85) rfl k) ?_
      refine oS (fun t k => X2.ldc2Long hx hown (mvT hZ (oW hw 22 rfl)) (g := (mkF m 86 #[.val (.int p1), .val (.int p2), .val (.int p3), .val (.int ((p1 &&& (2147483647 : Int32)) % (19 : Int32))), .val (.int (p2 &&& (16777215 : Int32))), .val (.ref (own_pick w ((p1 &&& (2147483647 : Int32)) % (19 : Int32)))), .val (.long (own_ofv (own_code ((p1 &&& (2147483647 : Int32)) % (19 : Int32))) (p2 &&& (16777215 : Int32)) p3)), .second, .val (.int 0), .val (.long ((p3.toInt64) + (4294967296 : Int64))), .second, .unset, .unset] [(.long ((p2 &&& (16777215 : Int32)).toInt64)), (.long ((-9223372036854775808 : Int64) + ((((p1 &&& (2147483647 : Int32)) % (19 : Int32)).toInt64) * (72057594037927936 : Int64))))])) rfl (hb hby at_86) t k) ?_
      show oG _ _ _ _ _ _ _ (T2.setTop (mkF m 89 #[.val (.int p1), .val (.int p2), .val (.int p3), .val (.int ((p1 &&& (2147483647 : Int32)) % (19 : Int32))), .val (.int (p2 &&& (16777215 : Int32))), .val (.ref (own_pick w ((p1 &&& (2147483647 : Int32)) % (19 : Int32)))), .val (.long (own_ofv (own_code ((p1 &&& (2147483647 : Int32)) % (19 : Int32))) (p2 &&& (16777215 : Int32)) p3)), .second, .val (.int 0), .val (.long ((p3.toInt64) + (4294967296 : Int64))), .second, .unset, .unset] [(.long 4294967296), (.long ((p2 &&& (16777215 : Int32)).toInt64)), (.long ((-9223372036854775808 : Int64) + ((((p1 &&& (2147483647 : Int32)) % (19 : Int32)).toInt64) * (72057594037927936 : Int64))))]))
      refine oS (fun t k => XS.lmul X2.here hx rfl (hb hby at_89) rfl k) ?_
      refine oS (fun t k => XS.ladd X2.here hx rfl (hb hby at_90) rfl k) ?_
      refine oS (fun t k => XS.lload X2.here hx rfl (hb hby at_91) rfl k) ?_
      show oG _ _ _ _ _ _ _ (T2.setTop (mkF m 93 #[.val (.int p1), .val (.int p2), .val (.int p3), .val (.int ((p1 &&& (2147483647 : Int32)) % (19 : Int32))), .val (.int (p2 &&& (16777215 : Int32))), .val (.ref (own_pick w ((p1 &&& (2147483647 : Int32)) % (19 : Int32)))), .val (.long (own_ofv (own_code ((p1 &&& (2147483647 : Int32)) % (19 : Int32))) (p2 &&& (16777215 : Int32)) p3)), .second, .val (.int 0), .val (.long ((p3.toInt64) + (4294967296 : Int64))), .second, .unset, .unset] [(.long ((p3.toInt64) + (4294967296 : Int64))), (.long (((-9223372036854775808 : Int64) + ((((p1 &&& (2147483647 : Int32)) % (19 : Int32)).toInt64) * (72057594037927936 : Int64))) + (((p2 &&& (16777215 : Int32)).toInt64) * (4294967296 : Int64))))]))
      refine oS (fun t k => XS.ladd X2.here hx rfl (hb hby at_93) rfl k) ?_
      refine oS (fun t k => XS.lstore X2.here hx rfl (hb hby at_94) rfl (l' := #[.val (.int p1), .val (.int p2), .val (.int p3), .val (.int ((p1 &&& (2147483647 : Int32)) % (19 : Int32))), .val (.int (p2 &&& (16777215 : Int32))), .val (.ref (own_pick w ((p1 &&& (2147483647 : Int32)) % (19 : Int32)))), .val (.long (own_ofv (own_code ((p1 &&& (2147483647 : Int32)) % (19 : Int32))) (p2 &&& (16777215 : Int32)) p3)), .second, .val (.int 0), .val (.long ((p3.toInt64) + (4294967296 : Int64))), .second, .val (.long ((((-9223372036854775808 : Int64) + ((((p1 &&& (2147483647 : Int32)) % (19 : Int32)).toInt64) * (72057594037927936 : Int64))) + (((p2 &&& (16777215 : Int32)).toInt64) * (4294967296 : Int64))) + ((p3.toInt64) + (4294967296 : Int64)))), .second]) rfl k) ?_
      refine oS (fun t k => XS.lload X2.here hx rfl (hb hby at_96) rfl k) ?_
      show oG _ _ _ _ _ _ _ (T2.setTop (mkF m 98 #[.val (.int p1), .val (.int p2), .val (.int p3), .val (.int ((p1 &&& (2147483647 : Int32)) % (19 : Int32))), .val (.int (p2 &&& (16777215 : Int32))), .val (.ref (own_pick w ((p1 &&& (2147483647 : Int32)) % (19 : Int32)))), .val (.long (own_ofv (own_code ((p1 &&& (2147483647 : Int32)) % (19 : Int32))) (p2 &&& (16777215 : Int32)) p3)), .second, .val (.int 0), .val (.long ((p3.toInt64) + (4294967296 : Int64))), .second, .val (.long ((((-9223372036854775808 : Int64) + ((((p1 &&& (2147483647 : Int32)) % (19 : Int32)).toInt64) * (72057594037927936 : Int64))) + (((p2 &&& (16777215 : Int32)).toInt64) * (4294967296 : Int64))) + ((p3.toInt64) + (4294967296 : Int64)))), .second] [(.long (own_ofv (own_code ((p1 &&& (2147483647 : Int32)) % (19 : Int32))) (p2 &&& (16777215 : Int32)) p3))]))
      refine oS (fun t k => XS.lload X2.here hx rfl (hb hby at_98) rfl k) ?_
      refine oS (fun t k => XS.lcmp X2.here hx rfl (hb hby at_100) rfl k) ?_
      refine oS (fun t k => XS.ifNo X2.here hx rfl (hb hby at_101) rfl ((if0 _ _).trans (teq ((lw_eq (own_ofv (own_code ((p1 &&& (2147483647 : Int32)) % (19 : Int32))) (p2 &&& (16777215 : Int32)) p3) ((((-9223372036854775808 : Int64) + ((((p1 &&& (2147483647 : Int32)) % (19 : Int32)).toInt64) * (72057594037927936 : Int64))) + (((p2 &&& (16777215 : Int32)).toInt64) * (4294967296 : Int64))) + ((p3.toInt64) + (4294967296 : Int64)))).mpr (own_eq_1_1 p1 p2 p3 hc44 hc33))).2) k) ?_
      show oG _ _ _ _ _ _ _ (T2.setTop (mkF m 104 #[.val (.int p1), .val (.int p2), .val (.int p3), .val (.int ((p1 &&& (2147483647 : Int32)) % (19 : Int32))), .val (.int (p2 &&& (16777215 : Int32))), .val (.ref (own_pick w ((p1 &&& (2147483647 : Int32)) % (19 : Int32)))), .val (.long (own_ofv (own_code ((p1 &&& (2147483647 : Int32)) % (19 : Int32))) (p2 &&& (16777215 : Int32)) p3)), .second, .val (.int 0), .val (.long ((p3.toInt64) + (4294967296 : Int64))), .second, .val (.long ((((-9223372036854775808 : Int64) + ((((p1 &&& (2147483647 : Int32)) % (19 : Int32)).toInt64) * (72057594037927936 : Int64))) + (((p2 &&& (16777215 : Int32)).toInt64) * (4294967296 : Int64))) + ((p3.toInt64) + (4294967296 : Int64)))), .second] []))
      refine oS (fun t k => XS.lload X2.here hx rfl (hb hby at_104) rfl k) ?_
      refine oS (fun t k => oLc ll_0 X2.here hx rfl (hb hby at_106) k) ?_
      refine oS (fun t k => XS.lcmp X2.here hx rfl (hb hby at_107) rfl k) ?_
      show oG _ _ _ _ _ _ _ (T2.setTop (mkF m 108 #[.val (.int p1), .val (.int p2), .val (.int p3), .val (.int ((p1 &&& (2147483647 : Int32)) % (19 : Int32))), .val (.int (p2 &&& (16777215 : Int32))), .val (.ref (own_pick w ((p1 &&& (2147483647 : Int32)) % (19 : Int32)))), .val (.long (own_ofv (own_code ((p1 &&& (2147483647 : Int32)) % (19 : Int32))) (p2 &&& (16777215 : Int32)) p3)), .second, .val (.int 0), .val (.long ((p3.toInt64) + (4294967296 : Int64))), .second, .val (.long ((((-9223372036854775808 : Int64) + ((((p1 &&& (2147483647 : Int32)) % (19 : Int32)).toInt64) * (72057594037927936 : Int64))) + (((p2 &&& (16777215 : Int32)).toInt64) * (4294967296 : Int64))) + ((p3.toInt64) + (4294967296 : Int64)))), .second] [(.int (lcmpW (own_ofv (own_code ((p1 &&& (2147483647 : Int32)) % (19 : Int32))) (p2 &&& (16777215 : Int32)) p3) (0 : Int64)))]))
      refine oS (fun t k => XS.ifNo X2.here hx rfl (hb hby at_108) rfl ((if0 _ _).trans (tlt ((lw_lt (own_ofv (own_code ((p1 &&& (2147483647 : Int32)) % (19 : Int32))) (p2 &&& (16777215 : Int32)) p3) (0 : Int64)).mpr (own_lt0 p1 p2 p3))).2.1) k) ?_
      refine oS (fun t k => oIc li_1 X2.here hx rfl (hb hby at_111) k) ?_
      refine oS (fun t k => XS.goto X2.here hx rfl (pc0 := 112) (pc' := 116) rfl (hb hby at_112) (by decide) (by decide) k) ?_
      show oG _ _ _ _ _ _ _ (T2.setTop (mkF m 116 #[.val (.int p1), .val (.int p2), .val (.int p3), .val (.int ((p1 &&& (2147483647 : Int32)) % (19 : Int32))), .val (.int (p2 &&& (16777215 : Int32))), .val (.ref (own_pick w ((p1 &&& (2147483647 : Int32)) % (19 : Int32)))), .val (.long (own_ofv (own_code ((p1 &&& (2147483647 : Int32)) % (19 : Int32))) (p2 &&& (16777215 : Int32)) p3)), .second, .val (.int 0), .val (.long ((p3.toInt64) + (4294967296 : Int64))), .second, .val (.long ((((-9223372036854775808 : Int64) + ((((p1 &&& (2147483647 : Int32)) % (19 : Int32)).toInt64) * (72057594037927936 : Int64))) + (((p2 &&& (16777215 : Int32)).toInt64) * (4294967296 : Int64))) + ((p3.toInt64) + (4294967296 : Int64)))), .second] [(.int 1)]))
      exact own_ret (v := some (.int 1)) X2 (fun h => by rw [Bd.returns] at h; cases h) Bd.notSynchronized (fun fs hr => retN X2 hx (t := .boolean) Bd.returns (by simp) (hb hby at_116) hr) (by rw [e2]; exact ⟨rfl, N2⟩) (by decide) (by decide)
    · refine oS (fun t k => XS.ifYes X2.here hx rfl (pc0 := 44) (pc' := 56) rfl (hb hby at_44) rfl ((if0 _ _).trans (flt hc44).2.1) (by decide) (by decide) k) ?_
      refine oS (fun t k => XS.iloadN X2.here hx rfl (hb hby at_56) rfl k) ?_
      show oG _ _ _ _ _ _ _ (T2.setTop (mkF m 57 #[.val (.int p1), .val (.int p2), .val (.int p3), .val (.int ((p1 &&& (2147483647 : Int32)) % (19 : Int32))), .val (.int (p2 &&& (16777215 : Int32))), .val (.ref (own_pick w ((p1 &&& (2147483647 : Int32)) % (19 : Int32)))), .val (.long (own_ofv (own_code ((p1 &&& (2147483647 : Int32)) % (19 : Int32))) (p2 &&& (16777215 : Int32)) p3)), .second, .val (.int 0), .unset, .unset, .unset, .unset] [(.int p3)]))
      refine oS (fun t k => XS.i2l X2.here hx rfl (hb hby at_57) rfl k) ?_
      refine oS (fun t k => XS.lstore X2.here hx rfl (hb hby at_58) rfl (l' := #[.val (.int p1), .val (.int p2), .val (.int p3), .val (.int ((p1 &&& (2147483647 : Int32)) % (19 : Int32))), .val (.int (p2 &&& (16777215 : Int32))), .val (.ref (own_pick w ((p1 &&& (2147483647 : Int32)) % (19 : Int32)))), .val (.long (own_ofv (own_code ((p1 &&& (2147483647 : Int32)) % (19 : Int32))) (p2 &&& (16777215 : Int32)) p3)), .second, .val (.int 0), .val (.long (p3.toInt64)), .second, .unset, .unset]) rfl k) ?_
      refine oS (fun t k => X2.ldc2Long hx hown (mvT hZ (oW hw 20 rfl)) (g := (mkF m 60 #[.val (.int p1), .val (.int p2), .val (.int p3), .val (.int ((p1 &&& (2147483647 : Int32)) % (19 : Int32))), .val (.int (p2 &&& (16777215 : Int32))), .val (.ref (own_pick w ((p1 &&& (2147483647 : Int32)) % (19 : Int32)))), .val (.long (own_ofv (own_code ((p1 &&& (2147483647 : Int32)) % (19 : Int32))) (p2 &&& (16777215 : Int32)) p3)), .second, .val (.int 0), .val (.long (p3.toInt64)), .second, .unset, .unset] [])) rfl (hb hby at_60) t k) ?_
      show oG _ _ _ _ _ _ _ (T2.setTop (mkF m 63 #[.val (.int p1), .val (.int p2), .val (.int p3), .val (.int ((p1 &&& (2147483647 : Int32)) % (19 : Int32))), .val (.int (p2 &&& (16777215 : Int32))), .val (.ref (own_pick w ((p1 &&& (2147483647 : Int32)) % (19 : Int32)))), .val (.long (own_ofv (own_code ((p1 &&& (2147483647 : Int32)) % (19 : Int32))) (p2 &&& (16777215 : Int32)) p3)), .second, .val (.int 0), .val (.long (p3.toInt64)), .second, .unset, .unset] [(.long (-9223372036854775808))]))
      refine oS (fun t k => XS.iload X2.here hx rfl (hb hby at_63) rfl k) ?_
      refine oS (fun t k => XS.ifYes X2.here hx rfl (pc0 := 65) (pc' := 74) rfl (hb hby at_65) rfl ((if0 _ _).trans (teq (by decide)).1) (by decide) (by decide) k) ?_
      refine oS (fun t k => oLc ll_0 X2.here hx rfl (hb hby at_74) k) ?_
      show oG _ _ _ _ _ _ _ (T2.setTop (mkF m 75 #[.val (.int p1), .val (.int p2), .val (.int p3), .val (.int ((p1 &&& (2147483647 : Int32)) % (19 : Int32))), .val (.int (p2 &&& (16777215 : Int32))), .val (.ref (own_pick w ((p1 &&& (2147483647 : Int32)) % (19 : Int32)))), .val (.long (own_ofv (own_code ((p1 &&& (2147483647 : Int32)) % (19 : Int32))) (p2 &&& (16777215 : Int32)) p3)), .second, .val (.int 0), .val (.long (p3.toInt64)), .second, .unset, .unset] [(.long 0), (.long (-9223372036854775808))]))
      refine oS (S' := (T2.setTop (mkF m 76 #[.val (.int p1), .val (.int p2), .val (.int p3), .val (.int ((p1 &&& (2147483647 : Int32)) % (19 : Int32))), .val (.int (p2 &&& (16777215 : Int32))), .val (.ref (own_pick w ((p1 &&& (2147483647 : Int32)) % (19 : Int32)))), .val (.long (own_ofv (own_code ((p1 &&& (2147483647 : Int32)) % (19 : Int32))) (p2 &&& (16777215 : Int32)) p3)), .second, .val (.int 0), .val (.long (p3.toInt64)), .second, .unset, .unset] [(.long (-9223372036854775808))]))) (fun t k => XS.ladd X2.here hx rfl (hb hby at_75) rfl (by rw [show (-9223372036854775808 : Int64) + (0 : Int64) = (-9223372036854775808 : Int64) from by decide]; exact k)) ?_
      refine oS (fun t k => XS.iloadN X2.here hx rfl (hb hby at_76) rfl k) ?_
      refine oS (fun t k => XS.i2l X2.here hx rfl (hb hby at_77) rfl k) ?_
      show oG _ _ _ _ _ _ _ (T2.setTop (mkF m 78 #[.val (.int p1), .val (.int p2), .val (.int p3), .val (.int ((p1 &&& (2147483647 : Int32)) % (19 : Int32))), .val (.int (p2 &&& (16777215 : Int32))), .val (.ref (own_pick w ((p1 &&& (2147483647 : Int32)) % (19 : Int32)))), .val (.long (own_ofv (own_code ((p1 &&& (2147483647 : Int32)) % (19 : Int32))) (p2 &&& (16777215 : Int32)) p3)), .second, .val (.int 0), .val (.long (p3.toInt64)), .second, .unset, .unset] [(.long (((p1 &&& (2147483647 : Int32)) % (19 : Int32)).toInt64)), (.long (-9223372036854775808))]))
      refine oS (fun t k => X2.ldc2Long hx hown (mvT hZ (oW hw 21 rfl)) (g := (mkF m 78 #[.val (.int p1), .val (.int p2), .val (.int p3), .val (.int ((p1 &&& (2147483647 : Int32)) % (19 : Int32))), .val (.int (p2 &&& (16777215 : Int32))), .val (.ref (own_pick w ((p1 &&& (2147483647 : Int32)) % (19 : Int32)))), .val (.long (own_ofv (own_code ((p1 &&& (2147483647 : Int32)) % (19 : Int32))) (p2 &&& (16777215 : Int32)) p3)), .second, .val (.int 0), .val (.long (p3.toInt64)), .second, .unset, .unset] [(.long (((p1 &&& (2147483647 : Int32)) % (19 : Int32)).toInt64)), (.long (-9223372036854775808))])) rfl (hb hby at_78) t k) ?_
      refine oS (fun t k => XS.lmul X2.here hx rfl (hb hby at_81) rfl k) ?_
      refine oS (fun t k => XS.ladd X2.here hx rfl (hb hby at_82) rfl k) ?_
      show oG _ _ _ _ _ _ _ (T2.setTop (mkF m 83 #[.val (.int p1), .val (.int p2), .val (.int p3), .val (.int ((p1 &&& (2147483647 : Int32)) % (19 : Int32))), .val (.int (p2 &&& (16777215 : Int32))), .val (.ref (own_pick w ((p1 &&& (2147483647 : Int32)) % (19 : Int32)))), .val (.long (own_ofv (own_code ((p1 &&& (2147483647 : Int32)) % (19 : Int32))) (p2 &&& (16777215 : Int32)) p3)), .second, .val (.int 0), .val (.long (p3.toInt64)), .second, .unset, .unset] [(.long ((-9223372036854775808 : Int64) + ((((p1 &&& (2147483647 : Int32)) % (19 : Int32)).toInt64) * (72057594037927936 : Int64))))]))
      refine oS (fun t k => XS.iload X2.here hx rfl (hb hby at_83) rfl k) ?_
      refine oS (fun t k => XS.i2l X2.here hx rfl (hb hby at_85) rfl k) ?_
      refine oS (fun t k => X2.ldc2Long hx hown (mvT hZ (oW hw 22 rfl)) (g := (mkF m 86 #[.val (.int p1), .val (.int p2), .val (.int p3), .val (.int ((p1 &&& (2147483647 : Int32)) % (19 : Int32))), .val (.int (p2 &&& (16777215 : Int32))), .val (.ref (own_pick w ((p1 &&& (2147483647 : Int32)) % (19 : Int32)))), .val (.long (own_ofv (own_code ((p1 &&& (2147483647 : Int32)) % (19 : Int32))) (p2 &&& (16777215 : Int32)) p3)), .second, .val (.int 0), .val (.long (p3.toInt64)), .second, .unset, .unset] [(.long ((p2 &&& (16777215 : Int32)).toInt64)), (.long ((-9223372036854775808 : Int64) + ((((p1 &&& (2147483647 : Int32)) % (19 : Int32)).toInt64) * (72057594037927936 : Int64))))])) rfl (hb hby at_86) t k) ?_
      show oG _ _ _ _ _ _ _ (T2.setTop (mkF m 89 #[.val (.int p1), .val (.int p2), .val (.int p3), .val (.int ((p1 &&& (2147483647 : Int32)) % (19 : Int32))), .val (.int (p2 &&& (16777215 : Int32))), .val (.ref (own_pick w ((p1 &&& (2147483647 : Int32)) % (19 : Int32)))), .val (.long (own_ofv (own_code ((p1 &&& (2147483647 : Int32)) % (19 : Int32))) (p2 &&& (16777215 : Int32)) p3)), .second, .val (.int 0), .val (.long (p3.toInt64)), .second, .unset, .unset] [(.long 4294967296), (.long ((p2 &&& (16777215 : Int32)).toInt64)), (.long ((-9223372036854775808 : Int64) + ((((p1 &&& (2147483647 : Int32)) % (19 : Int32)).toInt64) * (72057594037927936 : Int64))))]))
      refine oS (fun t k => XS.lmul X2.here hx rfl (hb hby at_89) rfl k) ?_
      refine oS (fun t k => XS.ladd X2.here hx rfl (hb hby at_90) rfl k) ?_
      refine oS (fun t k => XS.lload X2.here hx rfl (hb hby at_91) rfl k) ?_
      show oG _ _ _ _ _ _ _ (T2.setTop (mkF m 93 #[.val (.int p1), .val (.int p2), .val (.int p3), .val (.int ((p1 &&& (2147483647 : Int32)) % (19 : Int32))), .val (.int (p2 &&& (16777215 : Int32))), .val (.ref (own_pick w ((p1 &&& (2147483647 : Int32)) % (19 : Int32)))), .val (.long (own_ofv (own_code ((p1 &&& (2147483647 : Int32)) % (19 : Int32))) (p2 &&& (16777215 : Int32)) p3)), .second, .val (.int 0), .val (.long (p3.toInt64)), .second, .unset, .unset] [(.long (p3.toInt64)), (.long (((-9223372036854775808 : Int64) + ((((p1 &&& (2147483647 : Int32)) % (19 : Int32)).toInt64) * (72057594037927936 : Int64))) + (((p2 &&& (16777215 : Int32)).toInt64) * (4294967296 : Int64))))]))
      refine oS (fun t k => XS.ladd X2.here hx rfl (hb hby at_93) rfl k) ?_
      refine oS (fun t k => XS.lstore X2.here hx rfl (hb hby at_94) rfl (l' := #[.val (.int p1), .val (.int p2), .val (.int p3), .val (.int ((p1 &&& (2147483647 : Int32)) % (19 : Int32))), .val (.int (p2 &&& (16777215 : Int32))), .val (.ref (own_pick w ((p1 &&& (2147483647 : Int32)) % (19 : Int32)))), .val (.long (own_ofv (own_code ((p1 &&& (2147483647 : Int32)) % (19 : Int32))) (p2 &&& (16777215 : Int32)) p3)), .second, .val (.int 0), .val (.long (p3.toInt64)), .second, .val (.long ((((-9223372036854775808 : Int64) + ((((p1 &&& (2147483647 : Int32)) % (19 : Int32)).toInt64) * (72057594037927936 : Int64))) + (((p2 &&& (16777215 : Int32)).toInt64) * (4294967296 : Int64))) + (p3.toInt64))), .second]) rfl k) ?_
      refine oS (fun t k => XS.lload X2.here hx rfl (hb hby at_96) rfl k) ?_
      show oG _ _ _ _ _ _ _ (T2.setTop (mkF m 98 #[.val (.int p1), .val (.int p2), .val (.int p3), .val (.int ((p1 &&& (2147483647 : Int32)) % (19 : Int32))), .val (.int (p2 &&& (16777215 : Int32))), .val (.ref (own_pick w ((p1 &&& (2147483647 : Int32)) % (19 : Int32)))), .val (.long (own_ofv (own_code ((p1 &&& (2147483647 : Int32)) % (19 : Int32))) (p2 &&& (16777215 : Int32)) p3)), .second, .val (.int 0), .val (.long (p3.toInt64)), .second, .val (.long ((((-9223372036854775808 : Int64) + ((((p1 &&& (2147483647 : Int32)) % (19 : Int32)).toInt64) * (72057594037927936 : Int64))) + (((p2 &&& (16777215 : Int32)).toInt64) * (4294967296 : Int64))) + (p3.toInt64))), .second] [(.long (own_ofv (own_code ((p1 &&& (2147483647 : Int32)) % (19 : Int32))) (p2 &&& (16777215 : Int32)) p3))]))
      refine oS (fun t k => XS.lload X2.here hx rfl (hb hby at_98) rfl k) ?_
      refine oS (fun t k => XS.lcmp X2.here hx rfl (hb hby at_100) rfl k) ?_
      refine oS (fun t k => XS.ifNo X2.here hx rfl (hb hby at_101) rfl ((if0 _ _).trans (teq ((lw_eq (own_ofv (own_code ((p1 &&& (2147483647 : Int32)) % (19 : Int32))) (p2 &&& (16777215 : Int32)) p3) ((((-9223372036854775808 : Int64) + ((((p1 &&& (2147483647 : Int32)) % (19 : Int32)).toInt64) * (72057594037927936 : Int64))) + (((p2 &&& (16777215 : Int32)).toInt64) * (4294967296 : Int64))) + (p3.toInt64))).mpr (own_eq_0_1 p1 p2 p3 hc44 hc33))).2) k) ?_
      show oG _ _ _ _ _ _ _ (T2.setTop (mkF m 104 #[.val (.int p1), .val (.int p2), .val (.int p3), .val (.int ((p1 &&& (2147483647 : Int32)) % (19 : Int32))), .val (.int (p2 &&& (16777215 : Int32))), .val (.ref (own_pick w ((p1 &&& (2147483647 : Int32)) % (19 : Int32)))), .val (.long (own_ofv (own_code ((p1 &&& (2147483647 : Int32)) % (19 : Int32))) (p2 &&& (16777215 : Int32)) p3)), .second, .val (.int 0), .val (.long (p3.toInt64)), .second, .val (.long ((((-9223372036854775808 : Int64) + ((((p1 &&& (2147483647 : Int32)) % (19 : Int32)).toInt64) * (72057594037927936 : Int64))) + (((p2 &&& (16777215 : Int32)).toInt64) * (4294967296 : Int64))) + (p3.toInt64))), .second] []))
      refine oS (fun t k => XS.lload X2.here hx rfl (hb hby at_104) rfl k) ?_
      refine oS (fun t k => oLc ll_0 X2.here hx rfl (hb hby at_106) k) ?_
      refine oS (fun t k => XS.lcmp X2.here hx rfl (hb hby at_107) rfl k) ?_
      show oG _ _ _ _ _ _ _ (T2.setTop (mkF m 108 #[.val (.int p1), .val (.int p2), .val (.int p3), .val (.int ((p1 &&& (2147483647 : Int32)) % (19 : Int32))), .val (.int (p2 &&& (16777215 : Int32))), .val (.ref (own_pick w ((p1 &&& (2147483647 : Int32)) % (19 : Int32)))), .val (.long (own_ofv (own_code ((p1 &&& (2147483647 : Int32)) % (19 : Int32))) (p2 &&& (16777215 : Int32)) p3)), .second, .val (.int 0), .val (.long (p3.toInt64)), .second, .val (.long ((((-9223372036854775808 : Int64) + ((((p1 &&& (2147483647 : Int32)) % (19 : Int32)).toInt64) * (72057594037927936 : Int64))) + (((p2 &&& (16777215 : Int32)).toInt64) * (4294967296 : Int64))) + (p3.toInt64))), .second] [(.int (lcmpW (own_ofv (own_code ((p1 &&& (2147483647 : Int32)) % (19 : Int32))) (p2 &&& (16777215 : Int32)) p3) (0 : Int64)))]))
      refine oS (fun t k => XS.ifNo X2.here hx rfl (hb hby at_108) rfl ((if0 _ _).trans (tlt ((lw_lt (own_ofv (own_code ((p1 &&& (2147483647 : Int32)) % (19 : Int32))) (p2 &&& (16777215 : Int32)) p3) (0 : Int64)).mpr (own_lt0 p1 p2 p3))).2.1) k) ?_
      refine oS (fun t k => oIc li_1 X2.here hx rfl (hb hby at_111) k) ?_
      refine oS (fun t k => XS.goto X2.here hx rfl (pc0 := 112) (pc' := 116) rfl (hb hby at_112) (by decide) (by decide) k) ?_
      show oG _ _ _ _ _ _ _ (T2.setTop (mkF m 116 #[.val (.int p1), .val (.int p2), .val (.int p3), .val (.int ((p1 &&& (2147483647 : Int32)) % (19 : Int32))), .val (.int (p2 &&& (16777215 : Int32))), .val (.ref (own_pick w ((p1 &&& (2147483647 : Int32)) % (19 : Int32)))), .val (.long (own_ofv (own_code ((p1 &&& (2147483647 : Int32)) % (19 : Int32))) (p2 &&& (16777215 : Int32)) p3)), .second, .val (.int 0), .val (.long (p3.toInt64)), .second, .val (.long ((((-9223372036854775808 : Int64) + ((((p1 &&& (2147483647 : Int32)) % (19 : Int32)).toInt64) * (72057594037927936 : Int64))) + (((p2 &&& (16777215 : Int32)).toInt64) * (4294967296 : Int64))) + (p3.toInt64))), .second] [(.int 1)]))
      exact own_ret (v := some (.int 1)) X2 (fun h => by rw [Bd.returns] at h; cases h) Bd.notSynchronized (fun fs hr => retN X2 hx (t := .boolean) Bd.returns (by simp) (hb hby at_116) hr) (by rw [e2]; exact ⟨rfl, N2⟩) (by decide) (by decide)
  · refine oS (fun t k => XS.icmpNo X2.here hx rfl (hb hby at_33) rfl (flt hc33).1 k) ?_
    refine oS (fun t k => oIc li_1 X2.here hx rfl (hb hby at_36) k) ?_
    refine oS (fun t k => XS.goto X2.here hx rfl (pc0 := 37) (pc' := 41) rfl (hb hby at_37) (by decide) (by decide) k) ?_
    show oG _ _ _ _ _ _ _ (T2.setTop (mkF m 41 #[.val (.int p1), .val (.int p2), .val (.int p3), .val (.int ((p1 &&& (2147483647 : Int32)) % (19 : Int32))), .val (.int (p2 &&& (16777215 : Int32))), .val (.ref (own_pick w ((p1 &&& (2147483647 : Int32)) % (19 : Int32)))), .val (.long (own_ofv (own_code ((p1 &&& (2147483647 : Int32)) % (19 : Int32))) (p2 &&& (16777215 : Int32)) p3)), .second, .unset, .unset, .unset, .unset, .unset] [(.int 1)]))
    refine oS (fun t k => XS.istore X2.here hx rfl (hb hby at_41) rfl (l' := #[.val (.int p1), .val (.int p2), .val (.int p3), .val (.int ((p1 &&& (2147483647 : Int32)) % (19 : Int32))), .val (.int (p2 &&& (16777215 : Int32))), .val (.ref (own_pick w ((p1 &&& (2147483647 : Int32)) % (19 : Int32)))), .val (.long (own_ofv (own_code ((p1 &&& (2147483647 : Int32)) % (19 : Int32))) (p2 &&& (16777215 : Int32)) p3)), .second, .val (.int 1), .unset, .unset, .unset, .unset]) rfl k) ?_
    refine oS (fun t k => XS.iloadN X2.here hx rfl (hb hby at_43) rfl k) ?_
    by_cases hc44 : p3 < (0 : Int32)
    · refine oS (fun t k => XS.ifNo X2.here hx rfl (hb hby at_44) rfl ((if0 _ _).trans (tlt hc44).2.1) k) ?_
      show oG _ _ _ _ _ _ _ (T2.setTop (mkF m 47 #[.val (.int p1), .val (.int p2), .val (.int p3), .val (.int ((p1 &&& (2147483647 : Int32)) % (19 : Int32))), .val (.int (p2 &&& (16777215 : Int32))), .val (.ref (own_pick w ((p1 &&& (2147483647 : Int32)) % (19 : Int32)))), .val (.long (own_ofv (own_code ((p1 &&& (2147483647 : Int32)) % (19 : Int32))) (p2 &&& (16777215 : Int32)) p3)), .second, .val (.int 1), .unset, .unset, .unset, .unset] []))
      refine oS (fun t k => XS.iloadN X2.here hx rfl (hb hby at_47) rfl k) ?_
      refine oS (fun t k => XS.i2l X2.here hx rfl (hb hby at_48) rfl k) ?_
      refine oS (fun t k => X2.ldc2Long hx hown (mvT hZ (oW hw 22 rfl)) (g := (mkF m 49 #[.val (.int p1), .val (.int p2), .val (.int p3), .val (.int ((p1 &&& (2147483647 : Int32)) % (19 : Int32))), .val (.int (p2 &&& (16777215 : Int32))), .val (.ref (own_pick w ((p1 &&& (2147483647 : Int32)) % (19 : Int32)))), .val (.long (own_ofv (own_code ((p1 &&& (2147483647 : Int32)) % (19 : Int32))) (p2 &&& (16777215 : Int32)) p3)), .second, .val (.int 1), .unset, .unset, .unset, .unset] [(.long (p3.toInt64))])) rfl (hb hby at_49) t k) ?_
      show oG _ _ _ _ _ _ _ (T2.setTop (mkF m 52 #[.val (.int p1), .val (.int p2), .val (.int p3), .val (.int ((p1 &&& (2147483647 : Int32)) % (19 : Int32))), .val (.int (p2 &&& (16777215 : Int32))), .val (.ref (own_pick w ((p1 &&& (2147483647 : Int32)) % (19 : Int32)))), .val (.long (own_ofv (own_code ((p1 &&& (2147483647 : Int32)) % (19 : Int32))) (p2 &&& (16777215 : Int32)) p3)), .second, .val (.int 1), .unset, .unset, .unset, .unset] [(.long 4294967296), (.long (p3.toInt64))]))
      refine oS (fun t k => XS.ladd X2.here hx rfl (hb hby at_52) rfl k) ?_
      refine oS (fun t k => XS.goto X2.here hx rfl (pc0 := 53) (pc' := 58) rfl (hb hby at_53) (by decide) (by decide) k) ?_
      refine oS (fun t k => XS.lstore X2.here hx rfl (hb hby at_58) rfl (l' := #[.val (.int p1), .val (.int p2), .val (.int p3), .val (.int ((p1 &&& (2147483647 : Int32)) % (19 : Int32))), .val (.int (p2 &&& (16777215 : Int32))), .val (.ref (own_pick w ((p1 &&& (2147483647 : Int32)) % (19 : Int32)))), .val (.long (own_ofv (own_code ((p1 &&& (2147483647 : Int32)) % (19 : Int32))) (p2 &&& (16777215 : Int32)) p3)), .second, .val (.int 1), .val (.long ((p3.toInt64) + (4294967296 : Int64))), .second, .unset, .unset]) rfl k) ?_
      show oG _ _ _ _ _ _ _ (T2.setTop (mkF m 60 #[.val (.int p1), .val (.int p2), .val (.int p3), .val (.int ((p1 &&& (2147483647 : Int32)) % (19 : Int32))), .val (.int (p2 &&& (16777215 : Int32))), .val (.ref (own_pick w ((p1 &&& (2147483647 : Int32)) % (19 : Int32)))), .val (.long (own_ofv (own_code ((p1 &&& (2147483647 : Int32)) % (19 : Int32))) (p2 &&& (16777215 : Int32)) p3)), .second, .val (.int 1), .val (.long ((p3.toInt64) + (4294967296 : Int64))), .second, .unset, .unset] []))
      refine oS (fun t k => X2.ldc2Long hx hown (mvT hZ (oW hw 20 rfl)) (g := (mkF m 60 #[.val (.int p1), .val (.int p2), .val (.int p3), .val (.int ((p1 &&& (2147483647 : Int32)) % (19 : Int32))), .val (.int (p2 &&& (16777215 : Int32))), .val (.ref (own_pick w ((p1 &&& (2147483647 : Int32)) % (19 : Int32)))), .val (.long (own_ofv (own_code ((p1 &&& (2147483647 : Int32)) % (19 : Int32))) (p2 &&& (16777215 : Int32)) p3)), .second, .val (.int 1), .val (.long ((p3.toInt64) + (4294967296 : Int64))), .second, .unset, .unset] [])) rfl (hb hby at_60) t k) ?_
      refine oS (fun t k => XS.iload X2.here hx rfl (hb hby at_63) rfl k) ?_
      refine oS (fun t k => XS.ifNo X2.here hx rfl (hb hby at_65) rfl ((if0 _ _).trans (feq (by decide)).1) k) ?_
      show oG _ _ _ _ _ _ _ (T2.setTop (mkF m 68 #[.val (.int p1), .val (.int p2), .val (.int p3), .val (.int ((p1 &&& (2147483647 : Int32)) % (19 : Int32))), .val (.int (p2 &&& (16777215 : Int32))), .val (.ref (own_pick w ((p1 &&& (2147483647 : Int32)) % (19 : Int32)))), .val (.long (own_ofv (own_code ((p1 &&& (2147483647 : Int32)) % (19 : Int32))) (p2 &&& (16777215 : Int32)) p3)), .second, .val (.int 1), .val (.long ((p3.toInt64) + (4294967296 : Int64))), .second, .unset, .unset] [(.long (-9223372036854775808))]))
      refine oS (fun t k => X2.ldc2Long hx hown (mvT hZ (oW hw 37 rfl)) (g := (mkF m 68 #[.val (.int p1), .val (.int p2), .val (.int p3), .val (.int ((p1 &&& (2147483647 : Int32)) % (19 : Int32))), .val (.int (p2 &&& (16777215 : Int32))), .val (.ref (own_pick w ((p1 &&& (2147483647 : Int32)) % (19 : Int32)))), .val (.long (own_ofv (own_code ((p1 &&& (2147483647 : Int32)) % (19 : Int32))) (p2 &&& (16777215 : Int32)) p3)), .second, .val (.int 1), .val (.long ((p3.toInt64) + (4294967296 : Int64))), .second, .unset, .unset] [(.long (-9223372036854775808))])) rfl (hb hby at_68) t k) ?_
      refine oS (fun t k => XS.goto X2.here hx rfl (pc0 := 71) (pc' := 75) rfl (hb hby at_71) (by decide) (by decide) k) ?_
      refine oS (S' := (T2.setTop (mkF m 76 #[.val (.int p1), .val (.int p2), .val (.int p3), .val (.int ((p1 &&& (2147483647 : Int32)) % (19 : Int32))), .val (.int (p2 &&& (16777215 : Int32))), .val (.ref (own_pick w ((p1 &&& (2147483647 : Int32)) % (19 : Int32)))), .val (.long (own_ofv (own_code ((p1 &&& (2147483647 : Int32)) % (19 : Int32))) (p2 &&& (16777215 : Int32)) p3)), .second, .val (.int 1), .val (.long ((p3.toInt64) + (4294967296 : Int64))), .second, .unset, .unset] [(.long (-4611686018427387904))]))) (fun t k => XS.ladd X2.here hx rfl (hb hby at_75) rfl (by rw [show (-9223372036854775808 : Int64) + (4611686018427387904 : Int64) = (-4611686018427387904 : Int64) from by decide]; exact k)) ?_
      refine oS (fun t k => XS.iloadN X2.here hx rfl (hb hby at_76) rfl k) ?_
      refine oS (fun t k => XS.i2l X2.here hx rfl (hb hby at_77) rfl k) ?_
      refine oS (fun t k => X2.ldc2Long hx hown (mvT hZ (oW hw 21 rfl)) (g := (mkF m 78 #[.val (.int p1), .val (.int p2), .val (.int p3), .val (.int ((p1 &&& (2147483647 : Int32)) % (19 : Int32))), .val (.int (p2 &&& (16777215 : Int32))), .val (.ref (own_pick w ((p1 &&& (2147483647 : Int32)) % (19 : Int32)))), .val (.long (own_ofv (own_code ((p1 &&& (2147483647 : Int32)) % (19 : Int32))) (p2 &&& (16777215 : Int32)) p3)), .second, .val (.int 1), .val (.long ((p3.toInt64) + (4294967296 : Int64))), .second, .unset, .unset] [(.long (((p1 &&& (2147483647 : Int32)) % (19 : Int32)).toInt64)), (.long (-4611686018427387904))])) rfl (hb hby at_78) t k) ?_
      show oG _ _ _ _ _ _ _ (T2.setTop (mkF m 81 #[.val (.int p1), .val (.int p2), .val (.int p3), .val (.int ((p1 &&& (2147483647 : Int32)) % (19 : Int32))), .val (.int (p2 &&& (16777215 : Int32))), .val (.ref (own_pick w ((p1 &&& (2147483647 : Int32)) % (19 : Int32)))), .val (.long (own_ofv (own_code ((p1 &&& (2147483647 : Int32)) % (19 : Int32))) (p2 &&& (16777215 : Int32)) p3)), .second, .val (.int 1), .val (.long ((p3.toInt64) + (4294967296 : Int64))), .second, .unset, .unset] [(.long 72057594037927936), (.long (((p1 &&& (2147483647 : Int32)) % (19 : Int32)).toInt64)), (.long (-4611686018427387904))]))
      refine oS (fun t k => XS.lmul X2.here hx rfl (hb hby at_81) rfl k) ?_
      refine oS (fun t k => XS.ladd X2.here hx rfl (hb hby at_82) rfl k) ?_
      refine oS (fun t k => XS.iload X2.here hx rfl (hb hby at_83) rfl k) ?_
      show oG _ _ _ _ _ _ _ (T2.setTop (mkF m 85 #[.val (.int p1), .val (.int p2), .val (.int p3), .val (.int ((p1 &&& (2147483647 : Int32)) % (19 : Int32))), .val (.int (p2 &&& (16777215 : Int32))), .val (.ref (own_pick w ((p1 &&& (2147483647 : Int32)) % (19 : Int32)))), .val (.long (own_ofv (own_code ((p1 &&& (2147483647 : Int32)) % (19 : Int32))) (p2 &&& (16777215 : Int32)) p3)), .second, .val (.int 1), .val (.long ((p3.toInt64) + (4294967296 : Int64))), .second, .unset, .unset] [(.int (p2 &&& (16777215 : Int32))), (.long ((-4611686018427387904 : Int64) + ((((p1 &&& (2147483647 : Int32)) % (19 : Int32)).toInt64) * (72057594037927936 : Int64))))]))
      refine oS (fun t k => XS.i2l X2.here hx rfl (hb hby at_85) rfl k) ?_
      refine oS (fun t k => X2.ldc2Long hx hown (mvT hZ (oW hw 22 rfl)) (g := (mkF m 86 #[.val (.int p1), .val (.int p2), .val (.int p3), .val (.int ((p1 &&& (2147483647 : Int32)) % (19 : Int32))), .val (.int (p2 &&& (16777215 : Int32))), .val (.ref (own_pick w ((p1 &&& (2147483647 : Int32)) % (19 : Int32)))), .val (.long (own_ofv (own_code ((p1 &&& (2147483647 : Int32)) % (19 : Int32))) (p2 &&& (16777215 : Int32)) p3)), .second, .val (.int 1), .val (.long ((p3.toInt64) + (4294967296 : Int64))), .second, .unset, .unset] [(.long ((p2 &&& (16777215 : Int32)).toInt64)), (.long ((-4611686018427387904 : Int64) + ((((p1 &&& (2147483647 : Int32)) % (19 : Int32)).toInt64) * (72057594037927936 : Int64))))])) rfl (hb hby at_86) t k) ?_
      refine oS (fun t k => XS.lmul X2.here hx rfl (hb hby at_89) rfl k) ?_
      show oG _ _ _ _ _ _ _ (T2.setTop (mkF m 90 #[.val (.int p1), .val (.int p2), .val (.int p3), .val (.int ((p1 &&& (2147483647 : Int32)) % (19 : Int32))), .val (.int (p2 &&& (16777215 : Int32))), .val (.ref (own_pick w ((p1 &&& (2147483647 : Int32)) % (19 : Int32)))), .val (.long (own_ofv (own_code ((p1 &&& (2147483647 : Int32)) % (19 : Int32))) (p2 &&& (16777215 : Int32)) p3)), .second, .val (.int 1), .val (.long ((p3.toInt64) + (4294967296 : Int64))), .second, .unset, .unset] [(.long (((p2 &&& (16777215 : Int32)).toInt64) * (4294967296 : Int64))), (.long ((-4611686018427387904 : Int64) + ((((p1 &&& (2147483647 : Int32)) % (19 : Int32)).toInt64) * (72057594037927936 : Int64))))]))
      refine oS (fun t k => XS.ladd X2.here hx rfl (hb hby at_90) rfl k) ?_
      refine oS (fun t k => XS.lload X2.here hx rfl (hb hby at_91) rfl k) ?_
      refine oS (fun t k => XS.ladd X2.here hx rfl (hb hby at_93) rfl k) ?_
      show oG _ _ _ _ _ _ _ (T2.setTop (mkF m 94 #[.val (.int p1), .val (.int p2), .val (.int p3), .val (.int ((p1 &&& (2147483647 : Int32)) % (19 : Int32))), .val (.int (p2 &&& (16777215 : Int32))), .val (.ref (own_pick w ((p1 &&& (2147483647 : Int32)) % (19 : Int32)))), .val (.long (own_ofv (own_code ((p1 &&& (2147483647 : Int32)) % (19 : Int32))) (p2 &&& (16777215 : Int32)) p3)), .second, .val (.int 1), .val (.long ((p3.toInt64) + (4294967296 : Int64))), .second, .unset, .unset] [(.long ((((-4611686018427387904 : Int64) + ((((p1 &&& (2147483647 : Int32)) % (19 : Int32)).toInt64) * (72057594037927936 : Int64))) + (((p2 &&& (16777215 : Int32)).toInt64) * (4294967296 : Int64))) + ((p3.toInt64) + (4294967296 : Int64))))]))
      refine oS (fun t k => XS.lstore X2.here hx rfl (hb hby at_94) rfl (l' := #[.val (.int p1), .val (.int p2), .val (.int p3), .val (.int ((p1 &&& (2147483647 : Int32)) % (19 : Int32))), .val (.int (p2 &&& (16777215 : Int32))), .val (.ref (own_pick w ((p1 &&& (2147483647 : Int32)) % (19 : Int32)))), .val (.long (own_ofv (own_code ((p1 &&& (2147483647 : Int32)) % (19 : Int32))) (p2 &&& (16777215 : Int32)) p3)), .second, .val (.int 1), .val (.long ((p3.toInt64) + (4294967296 : Int64))), .second, .val (.long ((((-4611686018427387904 : Int64) + ((((p1 &&& (2147483647 : Int32)) % (19 : Int32)).toInt64) * (72057594037927936 : Int64))) + (((p2 &&& (16777215 : Int32)).toInt64) * (4294967296 : Int64))) + ((p3.toInt64) + (4294967296 : Int64)))), .second]) rfl k) ?_
      refine oS (fun t k => XS.lload X2.here hx rfl (hb hby at_96) rfl k) ?_
      refine oS (fun t k => XS.lload X2.here hx rfl (hb hby at_98) rfl k) ?_
      show oG _ _ _ _ _ _ _ (T2.setTop (mkF m 100 #[.val (.int p1), .val (.int p2), .val (.int p3), .val (.int ((p1 &&& (2147483647 : Int32)) % (19 : Int32))), .val (.int (p2 &&& (16777215 : Int32))), .val (.ref (own_pick w ((p1 &&& (2147483647 : Int32)) % (19 : Int32)))), .val (.long (own_ofv (own_code ((p1 &&& (2147483647 : Int32)) % (19 : Int32))) (p2 &&& (16777215 : Int32)) p3)), .second, .val (.int 1), .val (.long ((p3.toInt64) + (4294967296 : Int64))), .second, .val (.long ((((-4611686018427387904 : Int64) + ((((p1 &&& (2147483647 : Int32)) % (19 : Int32)).toInt64) * (72057594037927936 : Int64))) + (((p2 &&& (16777215 : Int32)).toInt64) * (4294967296 : Int64))) + ((p3.toInt64) + (4294967296 : Int64)))), .second] [(.long ((((-4611686018427387904 : Int64) + ((((p1 &&& (2147483647 : Int32)) % (19 : Int32)).toInt64) * (72057594037927936 : Int64))) + (((p2 &&& (16777215 : Int32)).toInt64) * (4294967296 : Int64))) + ((p3.toInt64) + (4294967296 : Int64)))), (.long (own_ofv (own_code ((p1 &&& (2147483647 : Int32)) % (19 : Int32))) (p2 &&& (16777215 : Int32)) p3))]))
      refine oS (fun t k => XS.lcmp X2.here hx rfl (hb hby at_100) rfl k) ?_
      refine oS (fun t k => XS.ifNo X2.here hx rfl (hb hby at_101) rfl ((if0 _ _).trans (teq ((lw_eq (own_ofv (own_code ((p1 &&& (2147483647 : Int32)) % (19 : Int32))) (p2 &&& (16777215 : Int32)) p3) ((((-4611686018427387904 : Int64) + ((((p1 &&& (2147483647 : Int32)) % (19 : Int32)).toInt64) * (72057594037927936 : Int64))) + (((p2 &&& (16777215 : Int32)).toInt64) * (4294967296 : Int64))) + ((p3.toInt64) + (4294967296 : Int64)))).mpr (own_eq_1_0 p1 p2 p3 hc44 hc33))).2) k) ?_
      refine oS (fun t k => XS.lload X2.here hx rfl (hb hby at_104) rfl k) ?_
      show oG _ _ _ _ _ _ _ (T2.setTop (mkF m 106 #[.val (.int p1), .val (.int p2), .val (.int p3), .val (.int ((p1 &&& (2147483647 : Int32)) % (19 : Int32))), .val (.int (p2 &&& (16777215 : Int32))), .val (.ref (own_pick w ((p1 &&& (2147483647 : Int32)) % (19 : Int32)))), .val (.long (own_ofv (own_code ((p1 &&& (2147483647 : Int32)) % (19 : Int32))) (p2 &&& (16777215 : Int32)) p3)), .second, .val (.int 1), .val (.long ((p3.toInt64) + (4294967296 : Int64))), .second, .val (.long ((((-4611686018427387904 : Int64) + ((((p1 &&& (2147483647 : Int32)) % (19 : Int32)).toInt64) * (72057594037927936 : Int64))) + (((p2 &&& (16777215 : Int32)).toInt64) * (4294967296 : Int64))) + ((p3.toInt64) + (4294967296 : Int64)))), .second] [(.long (own_ofv (own_code ((p1 &&& (2147483647 : Int32)) % (19 : Int32))) (p2 &&& (16777215 : Int32)) p3))]))
      refine oS (fun t k => oLc ll_0 X2.here hx rfl (hb hby at_106) k) ?_
      refine oS (fun t k => XS.lcmp X2.here hx rfl (hb hby at_107) rfl k) ?_
      refine oS (fun t k => XS.ifNo X2.here hx rfl (hb hby at_108) rfl ((if0 _ _).trans (tlt ((lw_lt (own_ofv (own_code ((p1 &&& (2147483647 : Int32)) % (19 : Int32))) (p2 &&& (16777215 : Int32)) p3) (0 : Int64)).mpr (own_lt0 p1 p2 p3))).2.1) k) ?_
      show oG _ _ _ _ _ _ _ (T2.setTop (mkF m 111 #[.val (.int p1), .val (.int p2), .val (.int p3), .val (.int ((p1 &&& (2147483647 : Int32)) % (19 : Int32))), .val (.int (p2 &&& (16777215 : Int32))), .val (.ref (own_pick w ((p1 &&& (2147483647 : Int32)) % (19 : Int32)))), .val (.long (own_ofv (own_code ((p1 &&& (2147483647 : Int32)) % (19 : Int32))) (p2 &&& (16777215 : Int32)) p3)), .second, .val (.int 1), .val (.long ((p3.toInt64) + (4294967296 : Int64))), .second, .val (.long ((((-4611686018427387904 : Int64) + ((((p1 &&& (2147483647 : Int32)) % (19 : Int32)).toInt64) * (72057594037927936 : Int64))) + (((p2 &&& (16777215 : Int32)).toInt64) * (4294967296 : Int64))) + ((p3.toInt64) + (4294967296 : Int64)))), .second] []))
      refine oS (fun t k => oIc li_1 X2.here hx rfl (hb hby at_111) k) ?_
      refine oS (fun t k => XS.goto X2.here hx rfl (pc0 := 112) (pc' := 116) rfl (hb hby at_112) (by decide) (by decide) k) ?_
      exact own_ret (v := some (.int 1)) X2 (fun h => by rw [Bd.returns] at h; cases h) Bd.notSynchronized (fun fs hr => retN X2 hx (t := .boolean) Bd.returns (by simp) (hb hby at_116) hr) (by rw [e2]; exact ⟨rfl, N2⟩) (by decide) (by decide)
    · refine oS (fun t k => XS.ifYes X2.here hx rfl (pc0 := 44) (pc' := 56) rfl (hb hby at_44) rfl ((if0 _ _).trans (flt hc44).2.1) (by decide) (by decide) k) ?_
      show oG _ _ _ _ _ _ _ (T2.setTop (mkF m 56 #[.val (.int p1), .val (.int p2), .val (.int p3), .val (.int ((p1 &&& (2147483647 : Int32)) % (19 : Int32))), .val (.int (p2 &&& (16777215 : Int32))), .val (.ref (own_pick w ((p1 &&& (2147483647 : Int32)) % (19 : Int32)))), .val (.long (own_ofv (own_code ((p1 &&& (2147483647 : Int32)) % (19 : Int32))) (p2 &&& (16777215 : Int32)) p3)), .second, .val (.int 1), .unset, .unset, .unset, .unset] []))
      refine oS (fun t k => XS.iloadN X2.here hx rfl (hb hby at_56) rfl k) ?_
      refine oS (fun t k => XS.i2l X2.here hx rfl (hb hby at_57) rfl k) ?_
      refine oS (fun t k => XS.lstore X2.here hx rfl (hb hby at_58) rfl (l' := #[.val (.int p1), .val (.int p2), .val (.int p3), .val (.int ((p1 &&& (2147483647 : Int32)) % (19 : Int32))), .val (.int (p2 &&& (16777215 : Int32))), .val (.ref (own_pick w ((p1 &&& (2147483647 : Int32)) % (19 : Int32)))), .val (.long (own_ofv (own_code ((p1 &&& (2147483647 : Int32)) % (19 : Int32))) (p2 &&& (16777215 : Int32)) p3)), .second, .val (.int 1), .val (.long (p3.toInt64)), .second, .unset, .unset]) rfl k) ?_
      show oG _ _ _ _ _ _ _ (T2.setTop (mkF m 60 #[.val (.int p1), .val (.int p2), .val (.int p3), .val (.int ((p1 &&& (2147483647 : Int32)) % (19 : Int32))), .val (.int (p2 &&& (16777215 : Int32))), .val (.ref (own_pick w ((p1 &&& (2147483647 : Int32)) % (19 : Int32)))), .val (.long (own_ofv (own_code ((p1 &&& (2147483647 : Int32)) % (19 : Int32))) (p2 &&& (16777215 : Int32)) p3)), .second, .val (.int 1), .val (.long (p3.toInt64)), .second, .unset, .unset] []))
      refine oS (fun t k => X2.ldc2Long hx hown (mvT hZ (oW hw 20 rfl)) (g := (mkF m 60 #[.val (.int p1), .val (.int p2), .val (.int p3), .val (.int ((p1 &&& (2147483647 : Int32)) % (19 : Int32))), .val (.int (p2 &&& (16777215 : Int32))), .val (.ref (own_pick w ((p1 &&& (2147483647 : Int32)) % (19 : Int32)))), .val (.long (own_ofv (own_code ((p1 &&& (2147483647 : Int32)) % (19 : Int32))) (p2 &&& (16777215 : Int32)) p3)), .second, .val (.int 1), .val (.long (p3.toInt64)), .second, .unset, .unset] [])) rfl (hb hby at_60) t k) ?_
      refine oS (fun t k => XS.iload X2.here hx rfl (hb hby at_63) rfl k) ?_
      refine oS (fun t k => XS.ifNo X2.here hx rfl (hb hby at_65) rfl ((if0 _ _).trans (feq (by decide)).1) k) ?_
      show oG _ _ _ _ _ _ _ (T2.setTop (mkF m 68 #[.val (.int p1), .val (.int p2), .val (.int p3), .val (.int ((p1 &&& (2147483647 : Int32)) % (19 : Int32))), .val (.int (p2 &&& (16777215 : Int32))), .val (.ref (own_pick w ((p1 &&& (2147483647 : Int32)) % (19 : Int32)))), .val (.long (own_ofv (own_code ((p1 &&& (2147483647 : Int32)) % (19 : Int32))) (p2 &&& (16777215 : Int32)) p3)), .second, .val (.int 1), .val (.long (p3.toInt64)), .second, .unset, .unset] [(.long (-9223372036854775808))]))
      refine oS (fun t k => X2.ldc2Long hx hown (mvT hZ (oW hw 37 rfl)) (g := (mkF m 68 #[.val (.int p1), .val (.int p2), .val (.int p3), .val (.int ((p1 &&& (2147483647 : Int32)) % (19 : Int32))), .val (.int (p2 &&& (16777215 : Int32))), .val (.ref (own_pick w ((p1 &&& (2147483647 : Int32)) % (19 : Int32)))), .val (.long (own_ofv (own_code ((p1 &&& (2147483647 : Int32)) % (19 : Int32))) (p2 &&& (16777215 : Int32)) p3)), .second, .val (.int 1), .val (.long (p3.toInt64)), .second, .unset, .unset] [(.long (-9223372036854775808))])) rfl (hb hby at_68) t k) ?_
      refine oS (fun t k => XS.goto X2.here hx rfl (pc0 := 71) (pc' := 75) rfl (hb hby at_71) (by decide) (by decide) k) ?_
      refine oS (S' := (T2.setTop (mkF m 76 #[.val (.int p1), .val (.int p2), .val (.int p3), .val (.int ((p1 &&& (2147483647 : Int32)) % (19 : Int32))), .val (.int (p2 &&& (16777215 : Int32))), .val (.ref (own_pick w ((p1 &&& (2147483647 : Int32)) % (19 : Int32)))), .val (.long (own_ofv (own_code ((p1 &&& (2147483647 : Int32)) % (19 : Int32))) (p2 &&& (16777215 : Int32)) p3)), .second, .val (.int 1), .val (.long (p3.toInt64)), .second, .unset, .unset] [(.long (-4611686018427387904))]))) (fun t k => XS.ladd X2.here hx rfl (hb hby at_75) rfl (by rw [show (-9223372036854775808 : Int64) + (4611686018427387904 : Int64) = (-4611686018427387904 : Int64) from by decide]; exact k)) ?_
      refine oS (fun t k => XS.iloadN X2.here hx rfl (hb hby at_76) rfl k) ?_
      refine oS (fun t k => XS.i2l X2.here hx rfl (hb hby at_77) rfl k) ?_
      refine oS (fun t k => X2.ldc2Long hx hown (mvT hZ (oW hw 21 rfl)) (g := (mkF m 78 #[.val (.int p1), .val (.int p2), .val (.int p3), .val (.int ((p1 &&& (2147483647 : Int32)) % (19 : Int32))), .val (.int (p2 &&& (16777215 : Int32))), .val (.ref (own_pick w ((p1 &&& (2147483647 : Int32)) % (19 : Int32)))), .val (.long (own_ofv (own_code ((p1 &&& (2147483647 : Int32)) % (19 : Int32))) (p2 &&& (16777215 : Int32)) p3)), .second, .val (.int 1), .val (.long (p3.toInt64)), .second, .unset, .unset] [(.long (((p1 &&& (2147483647 : Int32)) % (19 : Int32)).toInt64)), (.long (-4611686018427387904))])) rfl (hb hby at_78) t k) ?_
      show oG _ _ _ _ _ _ _ (T2.setTop (mkF m 81 #[.val (.int p1), .val (.int p2), .val (.int p3), .val (.int ((p1 &&& (2147483647 : Int32)) % (19 : Int32))), .val (.int (p2 &&& (16777215 : Int32))), .val (.ref (own_pick w ((p1 &&& (2147483647 : Int32)) % (19 : Int32)))), .val (.long (own_ofv (own_code ((p1 &&& (2147483647 : Int32)) % (19 : Int32))) (p2 &&& (16777215 : Int32)) p3)), .second, .val (.int 1), .val (.long (p3.toInt64)), .second, .unset, .unset] [(.long 72057594037927936), (.long (((p1 &&& (2147483647 : Int32)) % (19 : Int32)).toInt64)), (.long (-4611686018427387904))]))
      refine oS (fun t k => XS.lmul X2.here hx rfl (hb hby at_81) rfl k) ?_
      refine oS (fun t k => XS.ladd X2.here hx rfl (hb hby at_82) rfl k) ?_
      refine oS (fun t k => XS.iload X2.here hx rfl (hb hby at_83) rfl k) ?_
      show oG _ _ _ _ _ _ _ (T2.setTop (mkF m 85 #[.val (.int p1), .val (.int p2), .val (.int p3), .val (.int ((p1 &&& (2147483647 : Int32)) % (19 : Int32))), .val (.int (p2 &&& (16777215 : Int32))), .val (.ref (own_pick w ((p1 &&& (2147483647 : Int32)) % (19 : Int32)))), .val (.long (own_ofv (own_code ((p1 &&& (2147483647 : Int32)) % (19 : Int32))) (p2 &&& (16777215 : Int32)) p3)), .second, .val (.int 1), .val (.long (p3.toInt64)), .second, .unset, .unset] [(.int (p2 &&& (16777215 : Int32))), (.long ((-4611686018427387904 : Int64) + ((((p1 &&& (2147483647 : Int32)) % (19 : Int32)).toInt64) * (72057594037927936 : Int64))))]))
      refine oS (fun t k => XS.i2l X2.here hx rfl (hb hby at_85) rfl k) ?_
      refine oS (fun t k => X2.ldc2Long hx hown (mvT hZ (oW hw 22 rfl)) (g := (mkF m 86 #[.val (.int p1), .val (.int p2), .val (.int p3), .val (.int ((p1 &&& (2147483647 : Int32)) % (19 : Int32))), .val (.int (p2 &&& (16777215 : Int32))), .val (.ref (own_pick w ((p1 &&& (2147483647 : Int32)) % (19 : Int32)))), .val (.long (own_ofv (own_code ((p1 &&& (2147483647 : Int32)) % (19 : Int32))) (p2 &&& (16777215 : Int32)) p3)), .second, .val (.int 1), .val (.long (p3.toInt64)), .second, .unset, .unset] [(.long ((p2 &&& (16777215 : Int32)).toInt64)), (.long ((-4611686018427387904 : Int64) + ((((p1 &&& (2147483647 : Int32)) % (19 : Int32)).toInt64) * (72057594037927936 : Int64))))])) rfl (hb hby at_86) t k) ?_
      refine oS (fun t k => XS.lmul X2.here hx rfl (hb hby at_89) rfl k) ?_
      show oG _ _ _ _ _ _ _ (T2.setTop (mkF m 90 #[.val (.int p1), .val (.int p2), .val (.int p3), .val (.int ((p1 &&& (2147483647 : Int32)) % (19 : Int32))), .val (.int (p2 &&& (16777215 : Int32))), .val (.ref (own_pick w ((p1 &&& (2147483647 : Int32)) % (19 : Int32)))), .val (.long (own_ofv (own_code ((p1 &&& (2147483647 : Int32)) % (19 : Int32))) (p2 &&& (16777215 : Int32)) p3)), .second, .val (.int 1), .val (.long (p3.toInt64)), .second, .unset, .unset] [(.long (((p2 &&& (16777215 : Int32)).toInt64) * (4294967296 : Int64))), (.long ((-4611686018427387904 : Int64) + ((((p1 &&& (2147483647 : Int32)) % (19 : Int32)).toInt64) * (72057594037927936 : Int64))))]))
      refine oS (fun t k => XS.ladd X2.here hx rfl (hb hby at_90) rfl k) ?_
      refine oS (fun t k => XS.lload X2.here hx rfl (hb hby at_91) rfl k) ?_
      refine oS (fun t k => XS.ladd X2.here hx rfl (hb hby at_93) rfl k) ?_
      show oG _ _ _ _ _ _ _ (T2.setTop (mkF m 94 #[.val (.int p1), .val (.int p2), .val (.int p3), .val (.int ((p1 &&& (2147483647 : Int32)) % (19 : Int32))), .val (.int (p2 &&& (16777215 : Int32))), .val (.ref (own_pick w ((p1 &&& (2147483647 : Int32)) % (19 : Int32)))), .val (.long (own_ofv (own_code ((p1 &&& (2147483647 : Int32)) % (19 : Int32))) (p2 &&& (16777215 : Int32)) p3)), .second, .val (.int 1), .val (.long (p3.toInt64)), .second, .unset, .unset] [(.long ((((-4611686018427387904 : Int64) + ((((p1 &&& (2147483647 : Int32)) % (19 : Int32)).toInt64) * (72057594037927936 : Int64))) + (((p2 &&& (16777215 : Int32)).toInt64) * (4294967296 : Int64))) + (p3.toInt64)))]))
      refine oS (fun t k => XS.lstore X2.here hx rfl (hb hby at_94) rfl (l' := #[.val (.int p1), .val (.int p2), .val (.int p3), .val (.int ((p1 &&& (2147483647 : Int32)) % (19 : Int32))), .val (.int (p2 &&& (16777215 : Int32))), .val (.ref (own_pick w ((p1 &&& (2147483647 : Int32)) % (19 : Int32)))), .val (.long (own_ofv (own_code ((p1 &&& (2147483647 : Int32)) % (19 : Int32))) (p2 &&& (16777215 : Int32)) p3)), .second, .val (.int 1), .val (.long (p3.toInt64)), .second, .val (.long ((((-4611686018427387904 : Int64) + ((((p1 &&& (2147483647 : Int32)) % (19 : Int32)).toInt64) * (72057594037927936 : Int64))) + (((p2 &&& (16777215 : Int32)).toInt64) * (4294967296 : Int64))) + (p3.toInt64))), .second]) rfl k) ?_
      refine oS (fun t k => XS.lload X2.here hx rfl (hb hby at_96) rfl k) ?_
      refine oS (fun t k => XS.lload X2.here hx rfl (hb hby at_98) rfl k) ?_
      show oG _ _ _ _ _ _ _ (T2.setTop (mkF m 100 #[.val (.int p1), .val (.int p2), .val (.int p3), .val (.int ((p1 &&& (2147483647 : Int32)) % (19 : Int32))), .val (.int (p2 &&& (16777215 : Int32))), .val (.ref (own_pick w ((p1 &&& (2147483647 : Int32)) % (19 : Int32)))), .val (.long (own_ofv (own_code ((p1 &&& (2147483647 : Int32)) % (19 : Int32))) (p2 &&& (16777215 : Int32)) p3)), .second, .val (.int 1), .val (.long (p3.toInt64)), .second, .val (.long ((((-4611686018427387904 : Int64) + ((((p1 &&& (2147483647 : Int32)) % (19 : Int32)).toInt64) * (72057594037927936 : Int64))) + (((p2 &&& (16777215 : Int32)).toInt64) * (4294967296 : Int64))) + (p3.toInt64))), .second] [(.long ((((-4611686018427387904 : Int64) + ((((p1 &&& (2147483647 : Int32)) % (19 : Int32)).toInt64) * (72057594037927936 : Int64))) + (((p2 &&& (16777215 : Int32)).toInt64) * (4294967296 : Int64))) + (p3.toInt64))), (.long (own_ofv (own_code ((p1 &&& (2147483647 : Int32)) % (19 : Int32))) (p2 &&& (16777215 : Int32)) p3))]))
      refine oS (fun t k => XS.lcmp X2.here hx rfl (hb hby at_100) rfl k) ?_
      refine oS (fun t k => XS.ifNo X2.here hx rfl (hb hby at_101) rfl ((if0 _ _).trans (teq ((lw_eq (own_ofv (own_code ((p1 &&& (2147483647 : Int32)) % (19 : Int32))) (p2 &&& (16777215 : Int32)) p3) ((((-4611686018427387904 : Int64) + ((((p1 &&& (2147483647 : Int32)) % (19 : Int32)).toInt64) * (72057594037927936 : Int64))) + (((p2 &&& (16777215 : Int32)).toInt64) * (4294967296 : Int64))) + (p3.toInt64))).mpr (own_eq_0_0 p1 p2 p3 hc44 hc33))).2) k) ?_
      refine oS (fun t k => XS.lload X2.here hx rfl (hb hby at_104) rfl k) ?_
      show oG _ _ _ _ _ _ _ (T2.setTop (mkF m 106 #[.val (.int p1), .val (.int p2), .val (.int p3), .val (.int ((p1 &&& (2147483647 : Int32)) % (19 : Int32))), .val (.int (p2 &&& (16777215 : Int32))), .val (.ref (own_pick w ((p1 &&& (2147483647 : Int32)) % (19 : Int32)))), .val (.long (own_ofv (own_code ((p1 &&& (2147483647 : Int32)) % (19 : Int32))) (p2 &&& (16777215 : Int32)) p3)), .second, .val (.int 1), .val (.long (p3.toInt64)), .second, .val (.long ((((-4611686018427387904 : Int64) + ((((p1 &&& (2147483647 : Int32)) % (19 : Int32)).toInt64) * (72057594037927936 : Int64))) + (((p2 &&& (16777215 : Int32)).toInt64) * (4294967296 : Int64))) + (p3.toInt64))), .second] [(.long (own_ofv (own_code ((p1 &&& (2147483647 : Int32)) % (19 : Int32))) (p2 &&& (16777215 : Int32)) p3))]))
      refine oS (fun t k => oLc ll_0 X2.here hx rfl (hb hby at_106) k) ?_
      refine oS (fun t k => XS.lcmp X2.here hx rfl (hb hby at_107) rfl k) ?_
      refine oS (fun t k => XS.ifNo X2.here hx rfl (hb hby at_108) rfl ((if0 _ _).trans (tlt ((lw_lt (own_ofv (own_code ((p1 &&& (2147483647 : Int32)) % (19 : Int32))) (p2 &&& (16777215 : Int32)) p3) (0 : Int64)).mpr (own_lt0 p1 p2 p3))).2.1) k) ?_
      show oG _ _ _ _ _ _ _ (T2.setTop (mkF m 111 #[.val (.int p1), .val (.int p2), .val (.int p3), .val (.int ((p1 &&& (2147483647 : Int32)) % (19 : Int32))), .val (.int (p2 &&& (16777215 : Int32))), .val (.ref (own_pick w ((p1 &&& (2147483647 : Int32)) % (19 : Int32)))), .val (.long (own_ofv (own_code ((p1 &&& (2147483647 : Int32)) % (19 : Int32))) (p2 &&& (16777215 : Int32)) p3)), .second, .val (.int 1), .val (.long (p3.toInt64)), .second, .val (.long ((((-4611686018427387904 : Int64) + ((((p1 &&& (2147483647 : Int32)) % (19 : Int32)).toInt64) * (72057594037927936 : Int64))) + (((p2 &&& (16777215 : Int32)).toInt64) * (4294967296 : Int64))) + (p3.toInt64))), .second] []))
      refine oS (fun t k => oIc li_1 X2.here hx rfl (hb hby at_111) k) ?_
      refine oS (fun t k => XS.goto X2.here hx rfl (pc0 := 112) (pc' := 116) rfl (hb hby at_112) (by decide) (by decide) k) ?_
      exact own_ret (v := some (.int 1)) X2 (fun h => by rw [Bd.returns] at h; cases h) Bd.notSynchronized (fun fs hr => retN X2 hx (t := .boolean) Bd.returns (by simp) (hb hby at_116) hr) (by rw [e2]; exact ⟨rfl, N2⟩) (by decide) (by decide)
set_option maxRecDepth 65536 in
set_option maxHeartbeats 40000000 in
theorem comes_1 {Post : Tables → Env → Array Value → State → Outcome → State → Prop} (hpost : ∀ tb e args s v u, (limb_1_1.after args s (.returned v) u = true ∧ limb_1_2.after args s (.returned v) u = true ∧ True) → FrameEnd s (.returned v) u (Jvm.fieldLocs frame_1_writes args s ++ Jvm.arrayLocs frame_1_arrays args s ++ Jvm.staticLocs frame_1_statics s) 0 0 → Post tb e args s (.returned v) u) :
    ArmFor flags0 classFile x code maxLocals ret World_1 tables_1 room_1 Calls_1 rest_1 Pre_1 Post := by
  intro l hfl _ _ p e ha hc hk s m args below hf hA hF happ hP
  obtain ⟨hcalls, hrest, hpre⟩ := hP
  obtain ⟨-, -, -, hnamed, -, -, -, hat⟩ := (Spec.applies_iff hf).mp happ
  obtain ⟨hg, hn⟩ := and_e (Cond.before_iff.mp (show (Jvm.Cond.and given_1 narrow_1).before args s = true from hpre))
  obtain ⟨g0, g1⟩ := and_e hg
  obtain ⟨g2, g3⟩ := and_e g1
  obtain ⟨g4, g5⟩ := and_e g3
  obtain ⟨w0, w1, w2, rfl⟩ : ∃ w0 w1 w2 : Value, args = #[w0, w1, w2] := by
    have hs : args.size = 3 := by simpa [Cond.value, given_1] using g0
    obtain ⟨L⟩ := args
    match L, hs with
    | [w0, w1, w2], _ => exact ⟨w0, w1, w2, rfl⟩
  have hw := fun d (hd : d ∈ tables_1) => atoms_spec (ws := Jvm.Cond.code x code maxLocals ret :: tables_1) hat d (List.mem_cons_of_mem _ hd)
  have hfit : Fit s := fun {y c} hc i hi => by
    obtain ⟨ha, rfl⟩ := Array.getElem?_eq_some_iff.mp hc
    have q := List.all_eq_true.mp ((Array.all_eq_true_iff_forall_mem.mp hF) _ (Array.getElem_mem ha)) i (List.mem_range.mpr hi)
    simpa [Array.getElem?_eq_getElem hi] using q
  obtain ⟨i0, ei0⟩ := is_v g2
  obtain rfl : w0 = (.int i0) := Option.some.inj ei0
  obtain ⟨i1, ei1⟩ := is_v g4
  obtain rfl : w1 = (.int i1) := Option.some.inj ei1
  obtain ⟨i2, ei2⟩ := is_v g5
  obtain rfl : w2 = (.int i2) := Option.some.inj ei2
  obtain ⟨w, W⟩ := own_world hw hfit hn
  obtain ⟨n, o, h1, h2, h3, _, L, rfl, ⟨rfl, N⟩, hq⟩ := rm_law l s _ hw tables_1 i0 i1 i2 w s.heap s.heap.size (Old.start s) W  p e ha hc hk s m _ below hf ((Spec.applies_iff_loose hf).mp happ).1 ⟨rfl, State.Warmed39.refl s, rfl⟩ trivial
  refine ⟨n, _, h1, h2, h3, hpost _ _ _ _ _ _ ⟨Cond.after_iff.mpr rfl, Cond.after_iff.mpr (eq_i res_at (Term.int_eval (1)) rfl), trivial⟩ ⟨hq.1, hq.2.1, (hq.2.2.sift fun y hy => Or.inr (N y hy)).mono (by decide) (by decide)⟩⟩
theorem main_1_1 : Claimed_1_1 := comes_1 fun _ _ _ _ _ _ h hF => ⟨h.1, hF⟩
theorem main_1_2 : Claimed_1_2 := comes_1 fun _ _ _ _ _ _ h hF => ⟨h.2.1, hF⟩
end Jvm.Pilot.@@N@@
namespace Jvm.Pilot.@@N@@
open Jvm Jvm.ClassFile Sem Op Lib Jvm.Free Jvm.Stand Jvm.Pilot.@@N@@.Jvm.D
/-! MADE BY PROGRAM (witnessworld.py) out of the Statement's table words and the real class files: 12 classes; the members and pool entries that the words name. The judged class is class 1, her method 2. -/
namespace start1
open Jvm.ClassFile
def u (s : String) : CpInfo := .utf8 (stringToUtf16 s)
/-- a pool by its gaps: so many unusable entries, then the entry; so many at the end -/
def gap : Nat → List CpInfo → List CpInfo
  | 0, r => r
  | n + 1, r => .unusable :: gap n r
def poolList (es : List (Nat × CpInfo)) (last : Nat) : List CpInfo := es.foldr (fun e r => gap e.1 (e.2 :: r)) (gap last [])
def pool (es : List (Nat × CpInfo)) (last : Nat) : Array CpInfo := ⟨poolList es last⟩
def fileOf (pool : Array CpInfo) (this : Nat) (attrs : Array Attribute := #[]) (ms : Array MethodInfo := #[]) (fl : Nat := 33) (sup : Nat := 0) (ifs : Array Nat := #[]) (fds : Array FieldInfo := #[]) : ClassFile where
  minorVersion := 0
  majorVersion := 65
  constantPool := pool
  accessFlags := fl
  thisClass := this
  superClass := sup
  interfaces := ifs
  fields := fds
  methods := ms
  attributes := attrs
def plain (name : String) (sup : Option ClassId) : Class where
  name := name
  kind := .ordinary
  loader := none
  accessFlags := 33
  super := sup
  interfaces := #[]
  cf := none
  fields := #[]
  methods := #[]
  instanceTypes := #[]
  staticTypes := #[]
  resolved := #[]
  callSites := []
  init := .initialized
  statics := none
  mirror := none

def pool0 : Array CpInfo := pool [(5, u "<init>"), (0, u "()V"), (1, .class_ 10), (1, u "java/lang/Object")] 113

def k0m0 : Method := { name := "<init>", desc := "()V", sig := { parameters := [], returnType := none }, accessFlags := 1, code := none }
/-- java/lang/Object -/
def k0 : Class := { plain "java/lang/Object" none with
  accessFlags := 33
  interfaces := #[]
  cf := some (fileOf pool0 8 #[] #[{ accessFlags := 1, nameIndex := 5, descriptorIndex := 6, attributes := #[] }] 33 0 #[] #[])
  fields := #[]
  methods := #[k0m0]
  instanceTypes := #[]
  staticTypes := #[]
  resolved := Array.replicate 124 none
  statics := none }

def pool1 : Array CpInfo := pool [(2, .class_ 4), (1, u "java/lang/Object"), (0, u "<init>"), (0, u "()V"), (0, .fieldref 8 9), (0, .class_ 10), (0, .nameAndType 11 12), (0, u "com/example/loudline/loudline/packet/Refusal"), (0, u "FRAME_TOO_SHORT"), (0, u "Lcom/example/loudline/loudline/packet/Refusal;"), (0, .fieldref 8 14), (0, .nameAndType 15 12), (0, u "NOT_IPV4"), (0, .fieldref 8 17), (0, .nameAndType 18 12), (0, u "NOT_IP_VERSION_4"), (0, .fieldref 8 20), (0, .nameAndType 21 12), (0, u "IPV4_HEADER_TOO_SHORT"), (0, .fieldref 8 23), (0, .nameAndType 24 12), (0, u "NOT_UDP"), (0, .fieldref 8 26), (0, .nameAndType 27 12), (0, u "FRAGMENT"), (0, .fieldref 8 29), (0, .nameAndType 30 12), (0, u "NO_UDP_HEADER"), (0, .fieldref 8 32), (0, .nameAndType 33 12), (0, u "UDP_LENGTH_TOO_SHORT"), (0, .fieldref 8 35), (0, .nameAndType 36 12), (0, u "UDP_LENGTH_PAST_IPV4"), (0, .fieldref 8 38), (0, .nameAndType 39 12), (0, u "IPV4_PAST_FRAME"), (0, .fieldref 8 41), (0, .nameAndType 42 12), (0, u "EMPTY_DATAGRAM"), (0, .fieldref 8 44), (0, .nameAndType 45 12), (0, u "NOT_RTP_VERSION"), (0, .fieldref 8 47), (0, .nameAndType 48 12), (0, u "RTCP"), (0, .fieldref 8 50), (0, .nameAndType 51 12), (0, u "HEADER_NOT_CAPTURED"), (0, .fieldref 8 53), (0, .nameAndType 54 12), (0, u "SHORTER_THAN_HEADER"), (0, .fieldref 8 56), (0, .nameAndType 57 12), (0, u "CSRC_LIST_PAST_DATAGRAM"), (0, .fieldref 8 59), (0, .nameAndType 60 12), (0, u "BLOCK_HEADER_PAST_DATAGRAM"), (0, .fieldref 8 62), (0, .nameAndType 63 12), (0, u "BLOCK_PAST_DATAGRAM"), (0, .fieldref 8 65), (0, .nameAndType 66 12), (0, u "PADDING_COUNT"), (0, .integer 2147483647), (0, .integer 16777215), (0, .methodref 70 71), (0, .class_ 72), (0, .nameAndType 73 74), (0, u "com/example/loudline/loudline/packet/RefusalOfPinLaw"), (0, u "pick"), (0, u "(I)Lcom/example/loudline/loudline/packet/Refusal;"), (0, .methodref 8 76), (0, .nameAndType 77 78), (0, u "of"), (0, u "(II)J"), (0, .long 4294967296), (3, .long 9223372036854775808), (1, .long 4611686018427387904), (1, .long 72057594037927936), (4, u "law"), (0, u "(III)Z")] 2

def k1m0 : Method := { name := "<init>", desc := "()V", sig := { parameters := [], returnType := none }, accessFlags := 1, code := none }
def k1c1 : Code := { maxStack := 2, maxLocals := 1, code := method_2_code, exceptionTable := #[], attributes := #[] }
def k1m1 : Method := { name := "pick", desc := "(I)Lcom/example/loudline/loudline/packet/Refusal;", sig := { parameters := [.int], returnType := some (.object "com/example/loudline/loudline/packet/Refusal") }, accessFlags := 10, code := some k1c1 }
def k1c2 : Code := { maxStack := 6, maxLocals := 13, code := code, exceptionTable := #[], attributes := #[] }
def k1m2 : Method := { name := "law", desc := "(III)Z", sig := { parameters := [.int, .int, .int], returnType := some .boolean }, accessFlags := 9, code := some k1c2 }
/-- com/example/loudline/loudline/packet/RefusalOfPinLaw -/
def k1 : Class := { plain "com/example/loudline/loudline/packet/RefusalOfPinLaw" (some 0) with
  accessFlags := 49
  interfaces := #[]
  cf := some (fileOf pool1 70 #[] #[{ accessFlags := 1, nameIndex := 5, descriptorIndex := 6, attributes := #[] }, { accessFlags := 10, nameIndex := 73, descriptorIndex := 74, attributes := #[] }, { accessFlags := 9, nameIndex := 92, descriptorIndex := 93, attributes := #[] }] 49 2 #[] #[])
  fields := #[]
  methods := #[k1m0, k1m1, k1m2]
  instanceTypes := #[]
  staticTypes := #[]
  resolved := Array.replicate 96 none
  statics := none }

def pool2 : Array CpInfo := pool [(1, .class_ 2), (0, u "java/lang/constant/Constable"), (0, .class_ 4), (0, u "java/lang/Object")] 6

/-- java/lang/constant/Constable -/
def k2 : Class := { plain "java/lang/constant/Constable" (some 0) with
  accessFlags := 1537
  interfaces := #[]
  cf := some (fileOf pool2 1 #[] #[] 1537 3 #[] #[])
  fields := #[]
  methods := #[]
  instanceTypes := #[]
  staticTypes := #[]
  resolved := Array.replicate 11 none
  statics := none }

def pool3 : Array CpInfo := pool [(1, .class_ 2), (0, u "java/lang/Comparable"), (0, .class_ 4), (0, u "java/lang/Object")] 7

/-- java/lang/Comparable -/
def k3 : Class := { plain "java/lang/Comparable" (some 0) with
  accessFlags := 1537
  interfaces := #[]
  cf := some (fileOf pool3 1 #[] #[] 1537 3 #[] #[])
  fields := #[]
  methods := #[]
  instanceTypes := #[]
  staticTypes := #[]
  resolved := Array.replicate 12 none
  statics := none }

def pool4 : Array CpInfo := pool [(1, .class_ 2), (0, u "java/io/Serializable"), (0, .class_ 4), (0, u "java/lang/Object")] 2

/-- java/io/Serializable -/
def k4 : Class := { plain "java/io/Serializable" (some 0) with
  accessFlags := 1537
  interfaces := #[]
  cf := some (fileOf pool4 1 #[] #[] 1537 3 #[] #[])
  fields := #[]
  methods := #[]
  instanceTypes := #[]
  staticTypes := #[]
  resolved := Array.replicate 7 none
  statics := none }

def pool5 : Array CpInfo := pool [(2, .class_ 4), (1, u "java/lang/Enum"), (0, u "name"), (0, u "Ljava/lang/String;"), (2, u "ordinal"), (0, u "I"), (1, .class_ 14), (1, u "java/lang/Object"), (4, u "hash"), (86, .class_ 108), (1, u "java/lang/Enum$EnumDesc"), (2, .class_ 112), (0, u "java/lang/constant/Constable"), (0, .class_ 114), (0, u "java/lang/Comparable"), (0, .class_ 116), (0, u "java/io/Serializable")] 87

/-- java/lang/Enum -/
def k5 : Class := { plain "java/lang/Enum" (some 0) with
  accessFlags := 1057
  interfaces := #[2, 3, 4]
  cf := some (fileOf pool5 2 #[.nestMembers #[106]] #[] 1057 12 #[111, 113, 115] #[{ accessFlags := 18, nameIndex := 5, descriptorIndex := 6, attributes := #[] }, { accessFlags := 18, nameIndex := 9, descriptorIndex := 10, attributes := #[] }, { accessFlags := 2, nameIndex := 19, descriptorIndex := 10, attributes := #[] }])
  fields := #[{ name := "name", type := (.object "java/lang/String"), accessFlags := 18, slot := 0, constantValue := 0 }, { name := "ordinal", type := .int, accessFlags := 18, slot := 1, constantValue := 0 }, { name := "hash", type := .int, accessFlags := 2, slot := 2, constantValue := 0 }]
  methods := #[]
  instanceTypes := #[(.object "java/lang/String"), .int, .int]
  staticTypes := #[]
  resolved := Array.replicate 204 none
  statics := none }

def pool6 : Array CpInfo := pool [(1, .class_ 2), (0, u "com/example/loudline/loudline/packet/Refusal"), (2, u "FRAME_TOO_SHORT"), (0, u "Lcom/example/loudline/loudline/packet/Refusal;"), (2, u "NOT_IPV4"), (2, u "NOT_IP_VERSION_4"), (2, u "IPV4_HEADER_TOO_SHORT"), (2, u "NOT_UDP"), (2, u "FRAGMENT"), (2, u "NO_UDP_HEADER"), (2, u "UDP_LENGTH_TOO_SHORT"), (2, u "UDP_LENGTH_PAST_IPV4"), (2, u "IPV4_PAST_FRAME"), (2, u "EMPTY_DATAGRAM"), (2, u "NOT_RTP_VERSION"), (2, u "RTCP"), (2, u "HEADER_NOT_CAPTURED"), (2, u "SHORTER_THAN_HEADER"), (2, u "CSRC_LIST_PAST_DATAGRAM"), (2, u "BLOCK_HEADER_PAST_DATAGRAM"), (2, u "BLOCK_PAST_DATAGRAM"), (2, u "PADDING_COUNT"), (2, u "$VALUES"), (0, u "[Lcom/example/loudline/loudline/packet/Refusal;"), (6, .class_ 73), (1, u "java/lang/Enum"), (8, u "format"), (0, u "Ljava/lang/String;"), (6, .fieldref 1 91), (0, .nameAndType 92 93), (0, u "code"), (0, u "J"), (0, .integer 16777215), (0, .long 4294967295), (3, .long 9223372036854775808), (1, .long 9223372036854775807), (3, u "of"), (0, u "(II)J"), (2, u "VALUES"), (67, u "MALFORMED_BIT"), (1, u "ORDINAL_SHIFT"), (0, u "I"), (1, u "ORDINAL_BITS"), (1, u "FIRST_SHIFT"), (1, u "FIRST_BITS")] 24

def k6c0 : Code := { maxStack := 6, maxLocals := 5, code := prog_61_method_4_code, exceptionTable := #[], attributes := #[] }
def k6m0 : Method := { name := "of", desc := "(II)J", sig := { parameters := [.int, .int], returnType := some .long }, accessFlags := 0, code := some k6c0 }
/-- com/example/loudline/loudline/packet/Refusal -/
def k6 : Class := { plain "com/example/loudline/loudline/packet/Refusal" (some 5) with
  accessFlags := 16432
  interfaces := #[]
  cf := some (fileOf pool6 1 #[] #[{ accessFlags := 0, nameIndex := 105, descriptorIndex := 106, attributes := #[] }] 16432 71 #[] #[{ accessFlags := 16409, nameIndex := 5, descriptorIndex := 6, attributes := #[] }, { accessFlags := 16409, nameIndex := 9, descriptorIndex := 6, attributes := #[] }, { accessFlags := 16409, nameIndex := 12, descriptorIndex := 6, attributes := #[] }, { accessFlags := 16409, nameIndex := 15, descriptorIndex := 6, attributes := #[] }, { accessFlags := 16409, nameIndex := 18, descriptorIndex := 6, attributes := #[] }, { accessFlags := 16409, nameIndex := 21, descriptorIndex := 6, attributes := #[] }, { accessFlags := 16409, nameIndex := 24, descriptorIndex := 6, attributes := #[] }, { accessFlags := 16409, nameIndex := 27, descriptorIndex := 6, attributes := #[] }, { accessFlags := 16409, nameIndex := 30, descriptorIndex := 6, attributes := #[] }, { accessFlags := 16409, nameIndex := 33, descriptorIndex := 6, attributes := #[] }, { accessFlags := 16409, nameIndex := 36, descriptorIndex := 6, attributes := #[] }, { accessFlags := 16409, nameIndex := 39, descriptorIndex := 6, attributes := #[] }, { accessFlags := 16409, nameIndex := 42, descriptorIndex := 6, attributes := #[] }, { accessFlags := 16409, nameIndex := 45, descriptorIndex := 6, attributes := #[] }, { accessFlags := 16409, nameIndex := 48, descriptorIndex := 6, attributes := #[] }, { accessFlags := 16409, nameIndex := 51, descriptorIndex := 6, attributes := #[] }, { accessFlags := 16409, nameIndex := 54, descriptorIndex := 6, attributes := #[] }, { accessFlags := 16409, nameIndex := 57, descriptorIndex := 6, attributes := #[] }, { accessFlags := 16409, nameIndex := 60, descriptorIndex := 6, attributes := #[] }, { accessFlags := 26, nameIndex := 109, descriptorIndex := 64, attributes := #[] }, { accessFlags := 26, nameIndex := 177, descriptorIndex := 93, attributes := #[] }, { accessFlags := 26, nameIndex := 179, descriptorIndex := 180, attributes := #[] }, { accessFlags := 26, nameIndex := 182, descriptorIndex := 180, attributes := #[] }, { accessFlags := 26, nameIndex := 184, descriptorIndex := 180, attributes := #[] }, { accessFlags := 26, nameIndex := 186, descriptorIndex := 180, attributes := #[] }, { accessFlags := 18, nameIndex := 82, descriptorIndex := 83, attributes := #[] }, { accessFlags := 18, nameIndex := 92, descriptorIndex := 93, attributes := #[] }, { accessFlags := 4122, nameIndex := 63, descriptorIndex := 64, attributes := #[] }])
  fields := #[{ name := "FRAME_TOO_SHORT", type := (.object "com/example/loudline/loudline/packet/Refusal"), accessFlags := 16409, slot := 0, constantValue := 0 }, { name := "NOT_IPV4", type := (.object "com/example/loudline/loudline/packet/Refusal"), accessFlags := 16409, slot := 1, constantValue := 0 }, { name := "NOT_IP_VERSION_4", type := (.object "com/example/loudline/loudline/packet/Refusal"), accessFlags := 16409, slot := 2, constantValue := 0 }, { name := "IPV4_HEADER_TOO_SHORT", type := (.object "com/example/loudline/loudline/packet/Refusal"), accessFlags := 16409, slot := 3, constantValue := 0 }, { name := "NOT_UDP", type := (.object "com/example/loudline/loudline/packet/Refusal"), accessFlags := 16409, slot := 4, constantValue := 0 }, { name := "FRAGMENT", type := (.object "com/example/loudline/loudline/packet/Refusal"), accessFlags := 16409, slot := 5, constantValue := 0 }, { name := "NO_UDP_HEADER", type := (.object "com/example/loudline/loudline/packet/Refusal"), accessFlags := 16409, slot := 6, constantValue := 0 }, { name := "UDP_LENGTH_TOO_SHORT", type := (.object "com/example/loudline/loudline/packet/Refusal"), accessFlags := 16409, slot := 7, constantValue := 0 }, { name := "UDP_LENGTH_PAST_IPV4", type := (.object "com/example/loudline/loudline/packet/Refusal"), accessFlags := 16409, slot := 8, constantValue := 0 }, { name := "IPV4_PAST_FRAME", type := (.object "com/example/loudline/loudline/packet/Refusal"), accessFlags := 16409, slot := 9, constantValue := 0 }, { name := "EMPTY_DATAGRAM", type := (.object "com/example/loudline/loudline/packet/Refusal"), accessFlags := 16409, slot := 10, constantValue := 0 }, { name := "NOT_RTP_VERSION", type := (.object "com/example/loudline/loudline/packet/Refusal"), accessFlags := 16409, slot := 11, constantValue := 0 }, { name := "RTCP", type := (.object "com/example/loudline/loudline/packet/Refusal"), accessFlags := 16409, slot := 12, constantValue := 0 }, { name := "HEADER_NOT_CAPTURED", type := (.object "com/example/loudline/loudline/packet/Refusal"), accessFlags := 16409, slot := 13, constantValue := 0 }, { name := "SHORTER_THAN_HEADER", type := (.object "com/example/loudline/loudline/packet/Refusal"), accessFlags := 16409, slot := 14, constantValue := 0 }, { name := "CSRC_LIST_PAST_DATAGRAM", type := (.object "com/example/loudline/loudline/packet/Refusal"), accessFlags := 16409, slot := 15, constantValue := 0 }, { name := "BLOCK_HEADER_PAST_DATAGRAM", type := (.object "com/example/loudline/loudline/packet/Refusal"), accessFlags := 16409, slot := 16, constantValue := 0 }, { name := "BLOCK_PAST_DATAGRAM", type := (.object "com/example/loudline/loudline/packet/Refusal"), accessFlags := 16409, slot := 17, constantValue := 0 }, { name := "PADDING_COUNT", type := (.object "com/example/loudline/loudline/packet/Refusal"), accessFlags := 16409, slot := 18, constantValue := 0 }, { name := "VALUES", type := (.array (.object "com/example/loudline/loudline/packet/Refusal")), accessFlags := 26, slot := 19, constantValue := 0 }, { name := "MALFORMED_BIT", type := .long, accessFlags := 26, slot := 20, constantValue := 0 }, { name := "ORDINAL_SHIFT", type := .int, accessFlags := 26, slot := 21, constantValue := 0 }, { name := "ORDINAL_BITS", type := .int, accessFlags := 26, slot := 22, constantValue := 0 }, { name := "FIRST_SHIFT", type := .int, accessFlags := 26, slot := 23, constantValue := 0 }, { name := "FIRST_BITS", type := .int, accessFlags := 26, slot := 24, constantValue := 0 }, { name := "format", type := (.object "java/lang/String"), accessFlags := 18, slot := 3, constantValue := 0 }, { name := "code", type := .long, accessFlags := 18, slot := 4, constantValue := 0 }, { name := "$VALUES", type := (.array (.object "com/example/loudline/loudline/packet/Refusal")), accessFlags := 4122, slot := 25, constantValue := 0 }]
  methods := #[k6m0]
  instanceTypes := #[(.object "java/lang/String"), .int, .int, (.object "java/lang/String"), .long]
  staticTypes := #[(.object "com/example/loudline/loudline/packet/Refusal"), (.object "com/example/loudline/loudline/packet/Refusal"), (.object "com/example/loudline/loudline/packet/Refusal"), (.object "com/example/loudline/loudline/packet/Refusal"), (.object "com/example/loudline/loudline/packet/Refusal"), (.object "com/example/loudline/loudline/packet/Refusal"), (.object "com/example/loudline/loudline/packet/Refusal"), (.object "com/example/loudline/loudline/packet/Refusal"), (.object "com/example/loudline/loudline/packet/Refusal"), (.object "com/example/loudline/loudline/packet/Refusal"), (.object "com/example/loudline/loudline/packet/Refusal"), (.object "com/example/loudline/loudline/packet/Refusal"), (.object "com/example/loudline/loudline/packet/Refusal"), (.object "com/example/loudline/loudline/packet/Refusal"), (.object "com/example/loudline/loudline/packet/Refusal"), (.object "com/example/loudline/loudline/packet/Refusal"), (.object "com/example/loudline/loudline/packet/Refusal"), (.object "com/example/loudline/loudline/packet/Refusal"), (.object "com/example/loudline/loudline/packet/Refusal"), (.array (.object "com/example/loudline/loudline/packet/Refusal")), .long, .int, .int, .int, .int, (.array (.object "com/example/loudline/loudline/packet/Refusal"))]
  resolved := Array.replicate 211 none
  statics := some 0 }

def pool7 : Array CpInfo := pool [(1, u "java/lang/Cloneable"), (0, .class_ 1), (0, u "java/lang/Object"), (0, .class_ 3)] 3

/-- java/lang/Cloneable -/
def k7 : Class := { plain "java/lang/Cloneable" (some 0) with
  accessFlags := 1537
  interfaces := #[]
  cf := some (fileOf pool7 2 #[] #[] 1537 4 #[] #[])
  fields := #[]
  methods := #[]
  instanceTypes := #[]
  staticTypes := #[]
  resolved := Array.replicate 8 none
  statics := none }

/-- the primitive byte -/
def k8 : Class := { plain "byte" none with kind := .primitive 'B', accessFlags := 0x411 }
/-- [B -/
def k9 : Class := { plain "[B" (some 0) with kind := .array 8 .byte, interfaces := #[7, 4], accessFlags := 1041 }

/-- the primitive int -/
def k10 : Class := { plain "int" none with kind := .primitive 'I', accessFlags := 0x411 }
/-- [I -/
def k11 : Class := { plain "[I" (some 0) with kind := .array 10 .int, interfaces := #[7, 4], accessFlags := 1041 }

def heap : Heap := #[{ cls := 6, slots := #[.ref 1, .ref 2, .ref 10, .ref 6, .ref 18, .ref 14, .ref 17, .ref 12, .ref 5, .ref 15, .ref 7, .ref 4, .ref 3, .ref 13, .ref 11, .ref 16, .ref 8, .ref 9, .ref 19, .null, .long 0, .int 0, .int 0, .int 0, .int 0, .null], vm := .statics 6 },
  { cls := 6, slots := #[.null, .int 0, .int 0, .null, .long 0], vm := .none },
  { cls := 6, slots := #[.null, .int 0, .int 0, .null, .long 72057594037927936], vm := .none },
  { cls := 6, slots := #[.null, .int 0, .int 0, .null, .long 864691128455135232], vm := .none },
  { cls := 6, slots := #[.null, .int 0, .int 0, .null, .long 792633534417207296], vm := .none },
  { cls := 6, slots := #[.null, .int 0, .int 0, .null, .long 576460752303423488], vm := .none },
  { cls := 6, slots := #[.null, .int 0, .int 0, .null, .long 216172782113783808], vm := .none },
  { cls := 6, slots := #[.null, .int 0, .int 0, .null, .long 720575940379279360], vm := .none },
  { cls := 6, slots := #[.null, .int 0, .int 0, .null, .long 5764607523034234880], vm := .none },
  { cls := 6, slots := #[.null, .int 0, .int 0, .null, .long 5836665117072162816], vm := .none },
  { cls := 6, slots := #[.null, .int 0, .int 0, .null, .long 144115188075855872], vm := .none },
  { cls := 6, slots := #[.null, .int 0, .int 0, .null, .long 5620492334958379008], vm := .none },
  { cls := 6, slots := #[.null, .int 0, .int 0, .null, .long 504403158265495552], vm := .none },
  { cls := 6, slots := #[.null, .int 0, .int 0, .null, .long 936748722493063168], vm := .none },
  { cls := 6, slots := #[.null, .int 0, .int 0, .null, .long 360287970189639680], vm := .none },
  { cls := 6, slots := #[.null, .int 0, .int 0, .null, .long 648518346341351424], vm := .none },
  { cls := 6, slots := #[.null, .int 0, .int 0, .null, .long 5692549928996306944], vm := .none },
  { cls := 6, slots := #[.null, .int 0, .int 0, .null, .long 432345564227567616], vm := .none },
  { cls := 6, slots := #[.null, .int 0, .int 0, .null, .long 288230376151711744], vm := .none },
  { cls := 6, slots := #[.null, .int 0, .int 0, .null, .long 5908722711110090752], vm := .none }]
def classes : Array Class := #[k0, k1, k2, k3, k4, k5, k6, k7, k8, k9, k10, k11]
def interned : List (Array UInt16 × Addr) := []
def slotsUsed : Nat := 121
def theMethod : MethodId := ⟨1, 2⟩
def args0 : Array Value := #[.int 5, .int 1, .int 2]
def aboutOver (below : List Frame) : State where
  vm := { classes := classes, interned := interned.toArray }
  heap := heap
  slotsUsed := slotsUsed
  threads := #[{ frames := .invoking theMethod args0 :: below }]
def below0 : List Frame := [.native { method := ⟨0, 0⟩, args := #[] }]
def about1 : State := aboutOver below0
def p0 : Program := .bare "" "" ""
def e0 : Env := launch0.env 0 0 0
theorem w_frames : about1.frames = Frame.invoking theMethod args0 :: below0 := rfl
set_option maxRecDepth 65536 in
theorem w_args : argsFit about1.vm theMethod args0 = true := by decide +kernel
set_option maxRecDepth 65536 in
theorem w_heap : heapFits about1 = true := by decide +kernel
set_option maxRecDepth 65536 in
theorem w_runnable : about1.curStatus? = some .runnable := by decide +kernel
set_option maxRecDepth 65536 in
theorem w_alone : about1.alone = true := by decide +kernel
set_option maxRecDepth 65536 in
theorem w_named : about1.methodNamed? x = some theMethod := by decide +kernel
set_option maxRecDepth 65536 in
theorem w_hears : about1.hears theMethod below0 = true := by decide +kernel
set_option maxRecDepth 65536 in
theorem w_ripe : about1.ripe theMethod args0 below0 = true := by decide +kernel
theorem w_running : about1.status = .running := rfl
set_option maxRecDepth 65536 in
theorem w_room : about1.hasRoom e0.platform room_1 = true :=
  launch0.hasRoom_least _ room_1 (by decide +kernel) (by decide +kernel) (by decide +kernel) (by decide +kernel) (by decide +kernel) (by decide +kernel)
theorem allAtoms_all (ts : List Jvm.Cond) (a : Array Jvm.Value) (st : Jvm.State) : (allAtoms ts).before a st = ts.all (fun c => c.before a st) := by
  induction ts with
  | nil => rfl
  | cons c t ih =>
    show (Jvm.Cond.and c (allAtoms t)).before a st = _
    rw [Jvm.Cond.before_and, ih, List.all_cons]
def words1 : List Jvm.Cond := Jvm.Cond.code x code maxLocals ret :: tables_1
/-- a 'code' word, met by the world's own term for the bytes: nothing is compared byte by byte -/
theorem code_word {y : MethodName} {bytes : ByteArray} {mx : Nat} {rt : Option FieldType} {a : Array Value} {s : State} {m : MethodId} {meth : Method} {c : Code} (h1 : s.methodNamed? y = some m) (h2 : s.vm.method? m = some meth) (h3 : meth.code = some c) (h4 : c.code = bytes)
    (h5 : (c.maxLocals == mx && c.exceptionTable.isEmpty && decide (c.maxStack ≤ mostOperands) && decide (meth.sig.returnType = rt) && !meth.locks && decide (parseMethodDescriptor y.desc = some meth.sig)) = true) : (Jvm.Cond.code y bytes mx rt).before a s = true := by
  simp only [Bool.and_eq_true, beq_iff_eq, Bool.not_eq_true', decide_eq_true_eq] at h5
  obtain ⟨⟨⟨⟨⟨g1, g2⟩, g3⟩, g4⟩, g5⟩, g6⟩ := h5
  simp [Cond.before, Cond.holds, Cond.value, h1, h2, h3, h4, g1, g2, g3, g4, g5, g6]
def isCode : Jvm.Cond → Bool
  | .code _ _ _ _ => true
  | _ => false
theorem all_split {L : List Jvm.Cond} {P : Jvm.Cond → Bool} (h1 : L.all (fun c => isCode c || P c) = true) (h2 : ∀ c ∈ L.filter isCode, P c = true) : L.all P = true := by
  refine List.all_eq_true.mpr fun c hc => ?_
  have h := List.all_eq_true.mp h1 c hc
  rcases Bool.eq_false_or_eq_true (isCode c) with hi | hi
  · exact h2 c (List.mem_filter.mpr ⟨hc, hi⟩)
  · simpa [hi] using h
set_option maxRecDepth 65536 in
theorem w_c0 : (Jvm.Cond.code x code maxLocals ret).before args0 about1 = true := code_word (m := ⟨1, 2⟩) (meth := k1m2) (c := k1c2) (by decide +kernel) rfl rfl rfl (by decide +kernel)
set_option maxRecDepth 65536 in
theorem w_c1 : (Jvm.Cond.code ({ cls := "com/example/loudline/loudline/packet/RefusalOfPinLaw", name := "pick", desc := "(I)Lcom/example/loudline/loudline/packet/Refusal;" } : Jvm.MethodName) method_2_code (1 : Nat) (Option.some (Jvm.ClassFile.FieldType.object "com/example/loudline/loudline/packet/Refusal"))).before args0 about1 = true := code_word (m := ⟨1, 1⟩) (meth := k1m1) (c := k1c1) (by decide +kernel) rfl rfl rfl (by decide +kernel)
set_option maxRecDepth 65536 in
theorem w_c2 : (Jvm.Cond.code ({ cls := "com/example/loudline/loudline/packet/Refusal", name := "of", desc := "(II)J" } : Jvm.MethodName) prog_61_method_4_code (5 : Nat) (Option.some Jvm.ClassFile.FieldType.long)).before args0 about1 = true := code_word (m := ⟨6, 0⟩) (meth := k6m0) (c := k6c0) (by decide +kernel) rfl rfl rfl (by decide +kernel)
def codes1 : List Jvm.Cond := [Jvm.Cond.code x code maxLocals ret, Jvm.Cond.code ({ cls := "com/example/loudline/loudline/packet/RefusalOfPinLaw", name := "pick", desc := "(I)Lcom/example/loudline/loudline/packet/Refusal;" } : Jvm.MethodName) method_2_code (1 : Nat) (Option.some (Jvm.ClassFile.FieldType.object "com/example/loudline/loudline/packet/Refusal")), Jvm.Cond.code ({ cls := "com/example/loudline/loudline/packet/Refusal", name := "of", desc := "(II)J" } : Jvm.MethodName) prog_61_method_4_code (5 : Nat) (Option.some Jvm.ClassFile.FieldType.long)]
set_option maxRecDepth 65536 in
theorem codes_eq : words1.filter isCode = codes1 := rfl
theorem w_codes : ∀ c ∈ words1.filter isCode, c.before args0 about1 = true := by
  rw [codes_eq]
  intro c hc
  simp only [codes1, List.mem_cons, List.not_mem_nil, or_false] at hc
  rcases hc with rfl | rfl | rfl
  · exact w_c0
  · exact w_c1
  · exact w_c2
set_option maxRecDepth 65536 in
theorem w_t1 : (words1.take 24).all (fun c => isCode c || c.before args0 about1) = true := by decide +kernel
set_option maxRecDepth 65536 in
theorem w_t2 : ((words1.drop 24).take 24).all (fun c => isCode c || c.before args0 about1) = true := by decide +kernel
set_option maxRecDepth 65536 in
theorem w_t3 : ((words1.drop 24).drop 24).all (fun c => isCode c || c.before args0 about1) = true := by decide +kernel
theorem w_tables : (allAtoms (Jvm.Cond.code x code maxLocals ret :: tables_1)).before args0 about1 = true := by
  rw [allAtoms_all]
  show words1.all (fun c => c.before args0 about1) = true
  refine all_split ?_ w_codes
  rw [← List.take_append_drop 24 words1, List.all_append, w_t1, ← List.take_append_drop 24 (words1.drop 24), List.all_append, w_t2, w_t3]
  rfl
set_option maxRecDepth 65536 in
theorem w_case : (Jvm.Cond.and given_1 narrow_1).before args0 about1 = true := by decide +kernel
theorem w_applies : (headSpec (Jvm.Cond.code x code maxLocals ret :: tables_1) room_1).applies x e0.platform about1 = true :=
  (Spec.applies_iff w_frames).mpr ⟨w_running, w_runnable, w_alone, w_named, w_hears, w_ripe, w_room, w_tables⟩
theorem atStart : AtStart classFile x code maxLocals ret World_1 tables_1 room_1 Calls_1 rest_1 Pre_1 launch0 p0 e0 about1 theMethod args0 below0 :=
  ⟨lists_1, trivial, launch0.admits_env _ _ _, launch0.least_env, fairChoices_fair.cas, fairChoices_fair.clock, w_frames, w_args, w_heap, w_applies, trivial, trivial, w_case⟩
end start1
theorem witness_1 : WitnessClaimed_1 := ⟨start1.p0, start1.e0, start1.about1, start1.theMethod, start1.args0, start1.below0, start1.atStart⟩
end Jvm.Pilot.@@N@@
