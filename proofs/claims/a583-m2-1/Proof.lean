import JvmDerived
import JvmDerived.Pilot.@@N@@Statement
import JvmDerived.Pilot.@@N@@Code
set_option linter.unusedVariables false
set_option linter.unusedSimpArgs false
set_option maxRecDepth 65536
set_option maxHeartbeats 40000000
namespace Jvm.Pilot.@@N@@
open Jvm Jvm.ClassFile Sem Op Lib Jvm.Free Jvm.Stand Jvm.LawKit Jvm.RoadKit Bundle Jvm.Pilot.@@N@@.Jvm.D
/-! what is left of a run: it comes to its end, and there Q holds -/
def oG (p : Program) (e : Env) (below : List Frame) (s : State) (Q : Option Value → Heap → List Loc → Prop) (rc rs : Nat) (S : State) : Prop :=
  ∃ s₂ o, Steps p.tables e below S s₂ ∧ s₂.status = .running ∧ Ended s₂ below o ∧ ∃ v L, o = .returned v ∧ Q v s₂.heap L ∧ FrameEnd s o s₂ L rc rs
theorem oS {p : Program} {e : Env} {below : List Frame} {s : State} {Q : Option Value → Heap → List Loc → Prop} {rc rs : Nat} {S S' : State} (k : ∀ t, Steps p.tables e below S' t → Steps p.tables e below S t) (g : oG p e below s Q rc rs S') : oG p e below s Q rc rs S := by
  obtain ⟨s₂, o, h1, h2⟩ := g
  exact ⟨s₂, o, k _ h1, h2⟩
theorem own_ret {p : Program} {l : Launch} {e : Env} {R : Room} {s : State} {m : MethodId} {args : Array Value} {below : List Frame} {meth : Method} {c : Code} {T : State} {locs : List Loc} {cells slots : Nat} {Q : Option Value → Heap → List Loc → Prop} {rc rs : Nat} {S : State} {v : Option Value} (X : Stand p l e R s m args below meth c T locs cells slots) (hv : meth.sig.returnType = none → v = none) (hlocks : meth.locks = false)
    (st : ∀ fs, (∀ (f : JFrame) (acts : List Action), f.method = m → f.locked = none → f.entered = [] → (doReturn e (T.setTop f) acts v).1 = T.setFrames fs) → Steps p.tables e below S (T.setFrames fs)) (q : Q v T.heap locs) (hc : cells ≤ rc) (hs : slots ≤ rs) : oG p e below s Q rc rs S := by
  obtain ⟨fs, hr, hrun, hended, hW, hsame⟩ := X.leave hv hlocks
  exact ⟨_, _, st fs hr, hrun, hended, _, _, rfl, q, ⟨_, rfl⟩, hW, hsame.mono hc hs⟩
theorem oIc {tb : Tables} [Ours tb] {e : Env} {below : List Frame} {T target : State} {m : MethodId} {c : Code} {g : JFrame} {i : Int} {z : Int32} (hz : Int32.ofInt i = z) (h : At T m c below) (hx : tb.exec = Jvm.exec) (hg : g.method = m) (hd : decode c.code g.pc = .ok (.iconst i, 1)) (hr : Steps tb e below (T.setTop { g with pc := g.pc + 1, stack := .int z :: g.stack }) target) : Steps tb e below (T.setTop g) target := XS.iconst h hx hg hd (by rw [hz]; exact hr)
theorem oBp {tb : Tables} [Ours tb] {e : Env} {below : List Frame} {T target : State} {m : MethodId} {c : Code} {g : JFrame} {i : Int} {z : Int32} (hz : (Int8.ofInt i).toInt32 = z) (h : At T m c below) (hx : tb.exec = Jvm.exec) (hg : g.method = m) (hd : decode c.code g.pc = .ok (.bipush i, 2)) (hr : Steps tb e below (T.setTop { g with pc := g.pc + 2, stack := .int z :: g.stack }) target) : Steps tb e below (T.setTop g) target := XS.bipush h hx hg hd (by rw [hz]; exact hr)
theorem oSp {tb : Tables} [Ours tb] {e : Env} {below : List Frame} {T target : State} {m : MethodId} {c : Code} {g : JFrame} {i : Int} {z : Int32} (hz : (Int16.ofInt i).toInt32 = z) (h : At T m c below) (hx : tb.exec = Jvm.exec) (hg : g.method = m) (hd : decode c.code g.pc = .ok (.sipush i, 3)) (hr : Steps tb e below (T.setTop { g with pc := g.pc + 3, stack := .int z :: g.stack }) target) : Steps tb e below (T.setTop g) target := XS.sipush h hx hg hd (by rw [hz]; exact hr)
theorem oLc {tb : Tables} [Ours tb] {e : Env} {below : List Frame} {T target : State} {m : MethodId} {c : Code} {g : JFrame} {i : Fin 2} {z : Int64} (hz : Int64.ofNat i = z) (h : At T m c below) (hx : tb.exec = Jvm.exec) (hg : g.method = m) (hd : decode c.code g.pc = .ok (.lconst i, 1)) (hr : Steps tb e below (T.setTop { g with pc := g.pc + 1, stack := .long z :: g.stack }) target) : Steps tb e below (T.setTop g) target := XS.lconst h hx hg hd (by rw [hz]; exact hr)
theorem oW {a0 : Array Value} {Z : State} (hw : ∀ d ∈ tables_1, d.before a0 Z = true) (i : Nat) {d : Jvm.Cond} (h : tables_1[i]? = some d) : d.before a0 Z = true := hw _ (List.mem_of_getElem? h)
theorem own_eqv {args : Array Value} {s : State} {a b : Term} {v : Value} (h : (Jvm.Cond.eq a b).value args s none s [] = some true) (hb : b.eval args s none [] s = some v) : a.eval args s none [] s = some v := by
  obtain ⟨x, y, ha, hb', -, -⟩ := cmp_v (Or.inl h)
  cases hb.symm.trans hb'
  rw [ha]
  cases x <;> cases v <;> simp [Cond.value, ha, hb] at h ⊢ <;> exact h
theorem own_len {args : Array Value} {s : State} {t : Term} {a : Addr} {cl : Cell} {ty : FieldType} {z : Int32} (h : (Term.length t).eval args s none [] s = some (.int z)) (ht : t.eval args s none [] s = some (.ref a)) (A : Arr s s.heap a cl ty) : cl.slots.size < 2 ^ 31 ∧ cl.slots.size.toInt32 = z := by
  have hA := A.fin (Vm.Alike.refl _)
  obtain ⟨a', cell, h1, h2, h3⟩ := Term.length_spec h
  cases ht.symm.trans h1
  cases hA.symm.trans h2
  refine ⟨?_, (Value.int.inj h3).symm⟩
  simp only [Term.eval, ht, hA, Option.bind_eq_bind, Option.bind_some] at h
  split at h
  · assumption
  · cases h
theorem own_sz {n : Nat} {z : Int32} (h1 : n < 2 ^ 31) (h2 : n.toInt32 = z) : n = z.toNatClampNeg := by
  rw [← h2]; simp only [Int32.toNatClampNeg, len_toInt h1]; rfl
theorem own_box {args : Array Value} {s : State} {t : Term} {a : Addr} {c : Cell} {K : String} {G : Jvm.Cond} (et : ∀ idx, t.eval args s none idx s = some (.ref a)) (A : Arr s s.heap a c (.object K)) (h : (Jvm.Cond.all t (.and (.exactly (.elem t (.index 0)) K) G)).value args s none s [] = some true) :
    ∀ j : Int32, ¬ (j < 0 ∨ c.slots.size ≤ j.toNatClampNeg) → ∃ b : Addr, c.slots[j.toNatClampNeg]? = some (.ref b) ∧ Exa s s.heap b K := fun j hj => by
  have nn : ¬ j < 0 := fun x => hj (Or.inl x)
  obtain ⟨u1, -⟩ := and_e (Cond.all_elim (et []) (A.fin (Vm.Alike.refl _)) h j.toNatClampNeg (Nat.lt_of_not_le fun x => hj (Or.inr x)))
  obtain ⟨b, eb⟩ := exa_v u1
  exact ⟨b, (elem_f (et _) (idx_at nn) (A.fin (Vm.Alike.refl _)) nn).symm.trans eb, exa_at eb u1⟩
theorem own_neI {Z : State} {h : Heap} {a b : Addr} {C n d : String} {x y : Int32} (F : Fld Z h a C n d (.int x)) (G : Fld Z h b C n d (.int y)) (hn : x ≠ y) : ¬ a = b := fun e => by
  subst e
  obtain ⟨c1, cf1, k1, i1, f1, a1, a2, -, -, -, -, a7⟩ := F
  obtain ⟨c2, cf2, k2, i2, f2, b1, b2, -, -, -, -, b7⟩ := G
  cases a1.symm.trans b1
  cases a2.symm.trans b2
  cases a7.symm.trans b7
  exact hn rfl
theorem own_neJ {Z : State} {h : Heap} {a b : Addr} {C n d : String} {x y : Int64} (F : Fld Z h a C n d (.long x)) (G : Fld Z h b C n d (.long y)) (hn : x ≠ y) : ¬ a = b := fun e => by
  subst e
  obtain ⟨c1, cf1, k1, i1, f1, a1, a2, -, -, -, -, a7⟩ := F
  obtain ⟨c2, cf2, k2, i2, f2, b1, b2, -, -, -, -, b7⟩ := G
  cases a1.symm.trans b1
  cases a2.symm.trans b2
  cases a7.symm.trans b7
  exact hn rfl
theorem oM {a0 args : Array Value} {s Z : State} {d : Jvm.Cond} (hZ : Z.Warmed39 s.vm) (hw : ∀ d ∈ tables_1, d.before a0 Z = true) (i : Nat) (h : tables_1[i]? = some d) (hd : (d.onTables && d.keepsFace) = true := by first | rfl | simp [Cond.onTables, Cond.keepsFace, Cond.keeps, Cond.steady]) : d.before args s = true := mvT hZ (oW hw i h) hd
def own_NI (Z : State) (K : String) : Prop := ∃ t kt, Z.vm.findClass K = some t ∧ Z.vm.classes[t]? = some kt ∧ kt.isInterface = false
theorem own_NI.inst {Z : State} {a0 : Array Value} {K : String} {n : Nat} (wi : (Jvm.Cond.instantiable K n).before a0 Z = true) : own_NI Z K := by
  obtain ⟨t, k, g1, g2, -, g4, -⟩ := Cond.instantiable_spec wi
  simp only [Bool.or_eq_false_iff] at g4
  exact ⟨t, k, g1, g2, g4.1⟩
theorem own_NI.sel {Z : State} {a0 : Array Value} {C : String} {x y : MethodName} (w : (Jvm.Cond.selects C x y).before a0 Z = true) : own_NI Z y.cls := by
  obtain ⟨c, r, m, -, -, h3, -, mk, h5, h6⟩ := Cond.selects_spec w
  exact ⟨_, mk, findClass_of_methodNamed h3, h5, h6⟩
theorem own_root {Z : State} {a0 : Array Value} {O K : String} (w : (Jvm.Cond.noSuperclass O).before a0 Z = true) (wi : own_NI Z K) (hn : O ≠ K) : NS Z O K := by
  obtain ⟨c, k, h1, h2, h3, -, -⟩ := Cond.noSuperclass_spec w
  obtain ⟨t, k2, g1, -⟩ := wi
  have ne := ids_ne h1 g1 hn
  refine ⟨c, t, h1, g1, fun fuel => ?_⟩
  cases fuel with
  | zero => rfl
  | succ f => simp [Vm.isSubclassAux, ne, h2, h3]
theorem own_no {Z : State} {a0 : Array Value} {C S K : String} (w : (Jvm.Cond.superclass C S).before a0 Z = true) (wi : own_NI Z K) (m : NS Z C K) (hn : C ≠ K) : ∃ c t, Z.vm.findClass C = some c ∧ Z.vm.findClass K = some t ∧ Z.vm.assignable c t = false := by
  obtain ⟨c, t, h0, g0, n3⟩ := m
  obtain ⟨p, k, kp, h1, h2, h3, h4, h5, -, h7⟩ := Cond.superclass_spec h0 w
  obtain ⟨t', k2, g1, g2, g4⟩ := wi
  cases g0.symm.trans g1
  have ne := ids_ne h0 g0 hn
  refine ⟨c, t, h0, g0, ?_⟩
  show Z.vm.assignableAux (255 + 1) c t = false
  cases hk : k2.kind <;> simp [Vm.assignableAux, ne, h2, g2, h5, hk, g4, Vm.isSubclass, n3]
theorem own_ldcM {p : Program} {l : Launch} {e : Env} {R : Room} {s : State} {m : MethodId} {args : Array Value} {below : List Frame} {meth : Method} {c : Code} {T : State} {locs : List Loc} {cells slots : Nat} {Z : State} {a0 : Array Value} {h : Heap} {mr : Addr} (X : Stand p l e R s m args below meth c T locs cells slots) (hx : p.tables.exec = Jvm.exec) (hZ : Z.Warmed39 s.vm) {own C : String} {index : Nat} (hown : s.vm.findClass own = some m.cls)
    (w : (Jvm.Cond.classLink own index C).before a0 Z = true) (M : Mir Z C mr) (eT : T.heap = h) {g : JFrame} (hg : g.method = m) (hd : decode c.code g.pc = .ok (.ldc index, 2)) :
    ∃ T', Stand p l e R s m args below meth c T' locs cells slots ∧ T'.heap = h ∧ ∀ target, Steps p.tables e below (T'.setTop { g with pc := g.pc + 2, stack := .ref mr :: g.stack }) target → Steps p.tables e below (T.setTop g) target := by
  obtain ⟨cc, kc, m1, m2, m3, -⟩ := M
  obtain ⟨k', q, ek⟩ := hZ.alike.2.2 _ _ m2
  have m1' : s.vm.findClass C = some cc := by rw [hZ.alike.findClass]; exact m1
  have m3' : k'.mirror = some mr := by rw [ek]; exact m3
  obtain ⟨vm', X', st⟩ := X.ldcMirror hx (a := mr) hown (mv hZ w) (by simp [Term.eval, m1', q, m3']) hg hd
  exact ⟨_, X', eT, st⟩
theorem own_arrayClass {Z : State} {a0 : Array Value} {t : FieldType} (w : (Jvm.Cond.arrayOver (.array t)).before a0 Z = true) : (Jvm.Cond.arrayClass (.array t)).before a0 Z = true := by
  obtain ⟨comp, c, k, -, -, h3, h4, h5⟩ := arrayOver_specB w
  simp [Cond.before, Cond.holds, Cond.value, h5, h3, h4]
theorem own_ovrA {Z : State} {h : Heap} {a0 : Array Value} {x : Addr} {comp : ClassId} {k : Int32} {ty t : FieldType} {C D : String} (A : Arr Z h x (newA comp ty k) ty) (E : Exa Z h x D) (w : (Jvm.Cond.arrayOver (.array t)).before a0 Z = true) (hC : (FieldType.array t).toString = C := by decide) (hD : "[" ++ C = D := by decide) : OvrA Z comp t C := by
  subst hC; subst hD
  obtain ⟨cc, c, kk, h1, -, h3, h4, h5⟩ := arrayOver_specB w
  obtain ⟨cell, k', e1, e2, -⟩ := E
  cases e1.symm.trans A.1
  cases h5.symm.trans e2
  exact ⟨kk, cc, h3, h4, h1⟩
section
variable {Z : State} {h h' : Heap} {a b : Addr} {k : ClassId} {n : Int32} {f g : Nat → Int64} {ws : List Addr} {sl : Nat} {v : Value}
def own_Arf (Z : State) (h : Heap) (a : Addr) (k : ClassId) (n : Int32) (f : Nat → Int64) : Prop := ∃ c : Cell, Arr Z h a c .long ∧ c.cls = k ∧ c.slots.size = n.toNatClampNeg ∧ ¬ n < 0 ∧ ∀ i, i < c.slots.size → c.slots[i]? = some (.long (f i))
theorem own_Arf.lt (F : own_Arf Z h a k n f) : a < h.size := by obtain ⟨c, A, -⟩ := F; exact A.lt
theorem own_Arf.ext (F : own_Arf Z h a k n f) (E : Ext h h') : own_Arf Z h' a k n f := by obtain ⟨c, A, r⟩ := F; exact ⟨c, A.ext E, r⟩
theorem own_Arf.other (F : own_Arf Z h b k n f) (W : Wr h h' a sl v) (q : b ≠ a) : own_Arf Z h' b k n f := by obtain ⟨c, A, r⟩ := F; exact ⟨c, A.other W q, r⟩
theorem own_Arf.keep (F : own_Arf Z h a k n f) (K : Keep h h' ws) (q : a ∉ ws) : own_Arf Z h' a k n f := by obtain ⟨c, A, r⟩ := F; exact ⟨c, ⟨K.2.1 a c A.1 q, A.2⟩, r⟩
theorem own_Arf.of {vs : List Value} {dv : Value} (F : Arv Z h a k .long n vs dv) (q : ∀ i, vs.getD i dv = .long (f i)) : own_Arf Z h a k n f := by
  obtain ⟨c, A, r1, r2, r3, H, -⟩ := F
  exact ⟨c, A, r1, r2, r3, fun i hi => by rw [← q i]; exact H i hi⟩
theorem own_Arf.fn (F : own_Arf Z h a k n f) (q : ∀ i, i < n.toNatClampNeg → f i = g i) : own_Arf Z h a k n g := by
  obtain ⟨c, A, r1, r2, r3, H⟩ := F
  exact ⟨c, A, r1, r2, r3, fun i hi => by rw [← q i (r2 ▸ hi)]; exact H i hi⟩
theorem own_Arf.set {c : Cell} {j : Int32} {x : Int64} (A : Arr Z h a c .long) (q1 : c.cls = k) (S : c.slots.size = n.toNatClampNeg) (q3 : ¬ n < 0) (H : ∀ i, i < c.slots.size → c.slots[i]? = some (.long (f i))) (W : Wr h h' a j.toNatClampNeg (.long x)) (hj : ¬ (j < 0 ∨ c.slots.size ≤ j.toNatClampNeg)) : own_Arf Z h' a k n (fun i => if i = j.toNatClampNeg then x else f i) := by
  refine ⟨_, A.same W, q1, by rw [sz_set]; exact S, q3, fun i hi => ?_⟩
  rw [sz_set] at hi
  by_cases e : i = j.toNatClampNeg
  · subst e; simp [Cell.setSlot, hi]
  · simp only [Cell.setSlot, if_neg e]; rw [Array.getElem?_setIfInBounds_ne (fun q => e q.symm)]; exact H i hi
end
theorem own_rep (z : Value) : ∀ i : Nat, ([z, z, z, z, z, z] : List Value).getD i z = z
  | 0 => rfl
  | 1 => rfl
  | 2 => rfl
  | 3 => rfl
  | 4 => rfl
  | 5 => rfl
  | _ + 6 => rfl
def own_hi (F : Nat → Int64) (i : Nat) : Int64 := F (6 + i)
def own_st (F : Nat → Int64) (p j w : Int32) (i : Nat) : Int64 := if i = (p.toInt * 6).toNat + j.toNatClampNeg then F i + w.toInt64 else F i
def own_on1 (F : Nat → Int64) (p d s w c : Int32) : Nat → Int64 := if c = (s + (1 : Int32)) then F else own_st F p ((d * (3 : Int32)) + c) w
def own_all (p d s w p2 d2 s2 w2 : Int32) : Nat → Int64 := own_st (own_on1 (own_on1 (own_on1 (fun _ => (0 : Int64)) p d s w (0 : Int32)) p d s w (1 : Int32)) p d s w (2 : Int32)) p2 (((d2 * (3 : Int32)) + s2) + (1 : Int32)) w2
theorem own_inb {d c : Int32} {n : Nat} (hd : d = (0 : Int32) ∨ d = (1 : Int32)) (hc : c = (0 : Int32) ∨ c = (1 : Int32) ∨ c = (2 : Int32)) (S : n = (6 : Int32).toNatClampNeg) : ¬ (((d * (3 : Int32)) + c) < 0 ∨ n ≤ ((d * (3 : Int32)) + c).toNatClampNeg) := by
  subst S; rcases hd with rfl | rfl <;> rcases hc with rfl | rfl | rfl <;> decide
theorem own_inb2 {d c : Int32} {n : Nat} (hd : d = (0 : Int32) ∨ d = (1 : Int32)) (hc : c = (0 : Int32) ∨ c = (1 : Int32)) (S : n = (6 : Int32).toNatClampNeg) : ¬ ((((d * (3 : Int32)) + c) + (1 : Int32)) < 0 ∨ n ≤ (((d * (3 : Int32)) + c) + (1 : Int32)).toNatClampNeg) := by
  subst S; rcases hd with rfl | rfl <;> rcases hc with rfl | rfl <;> decide
theorem own_inb3 {d c : Int32} {n : Nat} (hd : d = (0 : Int32) ∨ d = (1 : Int32)) (hc : c = (-1 : Int32) ∨ c = (0 : Int32) ∨ c = (1 : Int32)) (S : n = (6 : Int32).toNatClampNeg) : ¬ ((((d * (3 : Int32)) + c) + (1 : Int32)) < 0 ∨ n ≤ (((d * (3 : Int32)) + c) + (1 : Int32)).toNatClampNeg) := by
  subst S; rcases hd with rfl | rfl <;> rcases hc with rfl | rfl | rfl <;> decide
theorem own_lt6 {j : Int32} (h : ¬ (j < 0 ∨ (6 : Int32).toNatClampNeg ≤ j.toNatClampNeg)) : j.toNatClampNeg < 6 := Nat.lt_of_not_le fun q => h (Or.inr q)
theorem own_stb0 {F : Nat → Int64} {p j w : Int32} (hp : p = (0 : Int32)) (i : Nat) (hi : i < (6 : Int32).toNatClampNeg) : (fun i => if i = j.toNatClampNeg then F j.toNatClampNeg + w.toInt64 else F i) i = own_st F p j w i := by
  subst hp; show (if i = j.toNatClampNeg then F j.toNatClampNeg + w.toInt64 else F i) = if i = 0 + j.toNatClampNeg then F i + w.toInt64 else F i
  rw [Nat.zero_add]; by_cases e : i = j.toNatClampNeg
  · rw [if_pos e, if_pos e, e]
  · rw [if_neg e, if_neg e]
theorem own_stc0 {F : Nat → Int64} {p j w : Int32} (hp : p = (0 : Int32)) (hj : j.toNatClampNeg < 6) (i : Nat) (hi : i < (6 : Int32).toNatClampNeg) : own_hi F i = own_hi (own_st F p j w) i := by
  subst hp; show F (6 + i) = if 6 + i = 0 + j.toNatClampNeg then F (6 + i) + w.toInt64 else F (6 + i)
  rw [if_neg (by omega)]
theorem own_stb1 {F : Nat → Int64} {p j w : Int32} (hp : p = (1 : Int32)) (i : Nat) (hi : i < (6 : Int32).toNatClampNeg) : F i = own_st F p j w i := by
  subst hp; show F i = if i = 6 + j.toNatClampNeg then F i + w.toInt64 else F i
  have : i < 6 := hi
  rw [if_neg (by omega)]
theorem own_stc1 {F : Nat → Int64} {p j w : Int32} (hp : p = (1 : Int32)) (i : Nat) (hi : i < (6 : Int32).toNatClampNeg) : (fun i => if i = j.toNatClampNeg then own_hi F j.toNatClampNeg + w.toInt64 else own_hi F i) i = own_hi (own_st F p j w) i := by
  subst hp; show (if i = j.toNatClampNeg then F (6 + j.toNatClampNeg) + w.toInt64 else F (6 + i)) = if 6 + i = 6 + j.toNatClampNeg then F (6 + i) + w.toInt64 else F (6 + i)
  by_cases e : i = j.toNatClampNeg
  · rw [if_pos e, if_pos (by omega), e]
  · rw [if_neg e, if_neg (by omega)]
def own_at (f : Nat → Int64) (p j : Int32) : Int64 := f ((p.toInt * 6).toNat + j.toNatClampNeg)
theorem own_at0 (f : Nat → Int64) (j : Int32) : some (Value.long (f j.toNatClampNeg)) = some (.long (own_at f (0 : Int32) j)) := by
  show _ = some (Value.long (f (0 + j.toNatClampNeg))); rw [Nat.zero_add]
theorem own_at1 (f : Nat → Int64) (j : Int32) : some (Value.long ((own_hi f) j.toNatClampNeg)) = some (.long (own_at f (1 : Int32) j)) := rfl
abbrev own_C (p d s c : Int32) (N : Nat) : Prop := ¬ (c = (s + (1 : Int32))) ∧ N = (p.toInt * 6).toNat + ((d * (3 : Int32)) + c).toNatClampNeg
theorem own_on1_at (F : Nat → Int64) (p d s w c : Int32) (N : Nat) : own_on1 F p d s w c N = if own_C p d s c N then F N + w.toInt64 else F N := by
  unfold own_on1
  by_cases h : c = (s + (1 : Int32))
  · rw [if_pos h, if_neg (fun q : own_C p d s c N => q.1 h)]
  · rw [if_neg h]; unfold own_st
    by_cases e : N = (p.toInt * 6).toNat + ((d * (3 : Int32)) + c).toNatClampNeg
    · rw [if_pos e, if_pos (show own_C p d s c N from ⟨h, e⟩)]
    · rw [if_neg e, if_neg (fun q : own_C p d s c N => e q.2)]
section
variable {P D S p d s : Int32}
theorem own_key (hP : P = (0 : Int32) ∨ P = (1 : Int32)) (hD : D = (0 : Int32) ∨ D = (1 : Int32)) (hS : S = (-1 : Int32) ∨ S = (0 : Int32) ∨ S = (1 : Int32)) (hp : p = (0 : Int32) ∨ p = (1 : Int32)) (hd : d = (0 : Int32) ∨ d = (1 : Int32)) (hs : s = (0 : Int32) ∨ s = (1 : Int32)) {N : Nat} (hN : N = (P.toInt * 6).toNat + (((D * (3 : Int32)) + S) + (1 : Int32)).toNatClampNeg) :
    ((own_C p d s 0 N ∨ own_C p d s 1 N ∨ own_C p d s 2 N) ↔ (P = p ∧ D = d ∧ ¬ S = s)) ∧ ¬ (own_C p d s 0 N ∧ own_C p d s 1 N) ∧ ¬ (own_C p d s 0 N ∧ own_C p d s 2 N) ∧ ¬ (own_C p d s 1 N ∧ own_C p d s 2 N) := by
  subst hN; rcases hP with rfl | rfl <;> rcases hD with rfl | rfl <;> rcases hS with rfl | rfl | rfl <;> rcases hp with rfl | rfl <;> rcases hd with rfl | rfl <;> rcases hs with rfl | rfl <;> decide
theorem own_key2 (hP : P = (0 : Int32) ∨ P = (1 : Int32)) (hD : D = (0 : Int32) ∨ D = (1 : Int32)) (hS : S = (-1 : Int32) ∨ S = (0 : Int32) ∨ S = (1 : Int32)) (hp : p = (0 : Int32) ∨ p = (1 : Int32)) (hd : d = (0 : Int32) ∨ d = (1 : Int32)) (hs : s = (0 : Int32) ∨ s = (1 : Int32)) {N : Nat} (hN : N = (P.toInt * 6).toNat + (((D * (3 : Int32)) + S) + (1 : Int32)).toNatClampNeg) :
    N = (p.toInt * 6).toNat + (((d * (3 : Int32)) + s) + (1 : Int32)).toNatClampNeg ↔ (P = p ∧ D = d ∧ S = s) := by
  subst hN; rcases hP with rfl | rfl <;> rcases hD with rfl | rfl <;> rcases hS with rfl | rfl | rfl <;> rcases hp with rfl | rfl <;> rcases hd with rfl | rfl <;> rcases hs with rfl | rfl <;> decide
def own_e1 (P D S p d s w : Int32) : Int64 := if (P = p ∧ D = d ∧ ¬ S = s) then (0 : Int64) + w.toInt64 else 0
theorem own_onA {w : Int32} (hP : P = (0 : Int32) ∨ P = (1 : Int32)) (hD : D = (0 : Int32) ∨ D = (1 : Int32)) (hS : S = (-1 : Int32) ∨ S = (0 : Int32) ∨ S = (1 : Int32)) (hp : p = (0 : Int32) ∨ p = (1 : Int32)) (hd : d = (0 : Int32) ∨ d = (1 : Int32)) (hs : s = (0 : Int32) ∨ s = (1 : Int32)) {N : Nat} (hN : N = (P.toInt * 6).toNat + (((D * (3 : Int32)) + S) + (1 : Int32)).toNatClampNeg) :
    own_on1 (own_on1 (own_on1 (fun _ => (0 : Int64)) p d s w (0 : Int32)) p d s w (1 : Int32)) p d s w (2 : Int32) N = own_e1 P D S p d s w := by
  show _ = if (P = p ∧ D = d ∧ ¬ S = s) then (0 : Int64) + w.toInt64 else 0
  obtain ⟨k0, k1, k2, k3⟩ := own_key hP hD hS hp hd hs hN
  rw [own_on1_at, own_on1_at, own_on1_at]
  by_cases c2 : own_C p d s 2 N
  · rw [if_pos c2, if_neg (fun q => k3 ⟨q, c2⟩), if_neg (fun q => k2 ⟨q, c2⟩), if_pos (k0.mp (Or.inr (Or.inr c2)))]
  · rw [if_neg c2]
    by_cases c1 : own_C p d s 1 N
    · rw [if_pos c1, if_neg (fun q => k1 ⟨q, c1⟩), if_pos (k0.mp (Or.inr (Or.inl c1)))]
    · rw [if_neg c1]
      by_cases c0 : own_C p d s 0 N
      · rw [if_pos c0, if_pos (k0.mp (Or.inl c0))]
      · rw [if_neg c0, if_neg (fun q => (k0.mpr q).elim c0 (fun z => z.elim c1 c2))]
end
theorem own_fin {f : Nat → Int64} {P D S p d s w p2 d2 s2 w2 : Int32} (hf : f = own_all p d s w p2 d2 s2 w2) (hP : P = (0 : Int32) ∨ P = (1 : Int32)) (hD : D = (0 : Int32) ∨ D = (1 : Int32)) (hS : S = (-1 : Int32) ∨ S = (0 : Int32) ∨ S = (1 : Int32)) (hp : p = (0 : Int32) ∨ p = (1 : Int32)) (hd : d = (0 : Int32) ∨ d = (1 : Int32)) (hs : s = (0 : Int32) ∨ s = (1 : Int32)) (hp2 : p2 = (0 : Int32) ∨ p2 = (1 : Int32)) (hd2 : d2 = (0 : Int32) ∨ d2 = (1 : Int32)) (hs2 : s2 = (0 : Int32) ∨ s2 = (1 : Int32)) :
    own_at f P (((D * (3 : Int32)) + S) + (1 : Int32)) = if (P = p2 ∧ D = d2 ∧ S = s2) then own_e1 P D S p d s w + w2.toInt64 else own_e1 P D S p d s w := by
  subst hf
  have hN : (P.toInt * 6).toNat + (((D * (3 : Int32)) + S) + (1 : Int32)).toNatClampNeg = (P.toInt * 6).toNat + (((D * (3 : Int32)) + S) + (1 : Int32)).toNatClampNeg := rfl
  have a := own_onA (w := w) hP hD hS hp hd hs hN
  have b := own_key2 hP hD hS hp2 hd2 hs2 hN
  show own_st _ _ _ _ ((P.toInt * 6).toNat + (((D * (3 : Int32)) + S) + (1 : Int32)).toNatClampNeg) = _
  unfold own_st
  rw [a]
  by_cases c : (P = p2 ∧ D = d2 ∧ S = s2)
  · rw [if_pos (b.mpr c), if_pos c]
  · rw [if_neg (fun q => c (b.mp q)), if_neg c]
theorem own_bit (p : Int32) : (p &&& (1 : Int32)) = (0 : Int32) ∨ (p &&& (1 : Int32)) = (1 : Int32) := by
  have h0 : (p &&& (1 : Int32)).toInt = p.toInt % 2 := c_mask p 1 1 (by decide) (by decide)
  generalize (p &&& (1 : Int32)) = z at *
  have e0 : (0 : Int32).toInt = 0 := rfl
  have e1 : (1 : Int32).toInt = 1 := rfl
  simp only [← Int32.toInt_inj, e0, e1]
  omega
theorem own_four (p : Int32) : (p &&& (3 : Int32)) = (0 : Int32) ∨ (p &&& (3 : Int32)) = (1 : Int32) ∨ (p &&& (3 : Int32)) = (2 : Int32) ∨ (p &&& (3 : Int32)) = (3 : Int32) := by
  have h0 : (p &&& (3 : Int32)).toInt = p.toInt % 4 := c_mask p 3 2 (by decide) (by decide)
  generalize (p &&& (3 : Int32)) = z at *
  have e0 : (0 : Int32).toInt = 0 := rfl
  have e1 : (1 : Int32).toInt = 1 := rfl
  have e2 : (2 : Int32).toInt = 2 := rfl
  have e3 : (3 : Int32).toInt = 3 := rfl
  simp only [← Int32.toInt_inj, e0, e1, e2, e3]
  omega
theorem own_sh (x : Int32) : (((x &&& (3 : Int32)) % (3 : Int32)) - (1 : Int32)) = (-1 : Int32) ∨ (((x &&& (3 : Int32)) % (3 : Int32)) - (1 : Int32)) = (0 : Int32) ∨ (((x &&& (3 : Int32)) % (3 : Int32)) - (1 : Int32)) = (1 : Int32) := by
  rcases own_four x with h | h | h | h <;> rw [h] <;> decide

def own_World (Z : State) (w : Nat → Addr) : Prop := Sta Z Z.heap "java/util/ArrayList" "EMPTY_ELEMENTDATA" "[Ljava/lang/Object;" (.ref (w 0)) ∧ Exa Z Z.heap (w 0) "[Ljava/lang/Object;" ∧ Sta Z Z.heap "java/util/ArrayList" "DEFAULTCAPACITY_EMPTY_ELEMENTDATA" "[Ljava/lang/Object;" (.ref (w 1)) ∧ Exa Z Z.heap (w 1) "[Ljava/lang/Object;" ∧ Sta Z Z.heap "java/lang/Integer$IntegerCache" "cache" "[Ljava/lang/Integer;" (.ref (w 2)) ∧ Exa Z Z.heap (w 2) "[Ljava/lang/Integer;" ∧ Sta Z Z.heap "java/util/ImmutableCollections" "EMPTY" "Ljava/lang/Object;" (.ref (w 3)) ∧ Exa Z Z.heap (w 3) "java/lang/Object" ∧ Sta Z Z.heap "java/util/ImmutableCollections" "EMPTY_LIST" "Ljava/util/ImmutableCollections$ListN;" (.ref (w 4)) ∧ Exa Z Z.heap (w 4) "java/util/ImmutableCollections$ListN" ∧ Fld Z Z.heap (w 4) "java/util/ImmutableCollections$ListN" "elements" "[Ljava/lang/Object;" (.ref (w 5)) ∧ Exa Z Z.heap (w 5) "[Ljava/lang/Object;" ∧ Arv Z Z.heap (w 0) (w 100) (.object "java/lang/Object") (0 : Int32) [] .null ∧ Arv Z Z.heap (w 1) (w 101) (.object "java/lang/Object") (0 : Int32) [] .null ∧ Arv Z Z.heap (w 5) (w 102) (.object "java/lang/Object") (0 : Int32) [] .null ∧ (∃ c : Cell, Arr Z Z.heap (w 2) c (.object "java/lang/Integer") ∧ c.slots.size = 256 ∧ ∀ j : Int32, ¬ (j < 0 ∨ c.slots.size ≤ j.toNatClampNeg) → ∃ b : Addr, c.slots[j.toNatClampNeg]? = some (.ref b) ∧ Exa Z Z.heap b "java/lang/Integer") ∧ Sta Z Z.heap "java/lang/Integer$IntegerCache" "high" "I" (.int (127 : Int32)) ∧ Sta Z Z.heap "java/util/ImmutableCollections" "$assertionsDisabled" "Z" (.int (1 : Int32)) ∧ Fld Z Z.heap (w 4) "java/util/ImmutableCollections$ListN" "allowNulls" "Z" (.int 0) ∧ Mir Z "[Ljava/lang/Object;" (w 103)
theorem own_world {args : Array Value} {s : State} (hw : ∀ d ∈ tables_1, d.before args s = true) (hfit : Fit s)  (hmir : MirrorMade s "[Ljava/lang/Object;") (hs : ∀ d ∈ jdkStatics_1, d.before args s = true) (hn : narrow_1.value args s none s [] = some true) : ∃ w : Nat → Addr, own_World s w := by
  have hj3 := Cond.before_iff.mp (hs _ (List.mem_of_getElem? (i := 3) rfl))
  have hj4 := Cond.before_iff.mp (hs _ (List.mem_of_getElem? (i := 4) rfl))
  have hj5 := Cond.before_iff.mp (hs _ (List.mem_of_getElem? (i := 5) rfl))
  have hj6 := Cond.before_iff.mp (hs _ (List.mem_of_getElem? (i := 6) rfl))
  have hj7 := Cond.before_iff.mp (hs _ (List.mem_of_getElem? (i := 7) rfl))
  have hj8 := Cond.before_iff.mp (hs _ (List.mem_of_getElem? (i := 8) rfl))
  have hj12 := Cond.before_iff.mp (hs _ (List.mem_of_getElem? (i := 12) rfl))
  have hj13 := Cond.before_iff.mp (hs _ (List.mem_of_getElem? (i := 13) rfl))
  have hj14 := Cond.before_iff.mp (hs _ (List.mem_of_getElem? (i := 14) rfl))
  have hj15 := Cond.before_iff.mp (hs _ (List.mem_of_getElem? (i := 15) rfl))
  have hj16 := Cond.before_iff.mp (hs _ (List.mem_of_getElem? (i := 16) rfl))
  have hj19 := Cond.before_iff.mp (hs _ (List.mem_of_getElem? (i := 19) rfl))
  have hj22 := Cond.before_iff.mp (hs _ (List.mem_of_getElem? (i := 22) rfl))
  have hj25 := Cond.before_iff.mp (hs _ (List.mem_of_getElem? (i := 25) rfl))
  have hj28 := Cond.before_iff.mp (hs _ (List.mem_of_getElem? (i := 28) rfl))
  have hj29 := Cond.before_iff.mp (hs _ (List.mem_of_getElem? (i := 29) rfl))
  have hj30 := Cond.before_iff.mp (hs _ (List.mem_of_getElem? (i := 30) rfl))
  have hj31 := Cond.before_iff.mp (hs _ (List.mem_of_getElem? (i := 31) rfl))
  have hj32 := Cond.before_iff.mp (hs _ (List.mem_of_getElem? (i := 32) rfl))
  obtain ⟨c0, e0⟩ := arr_v hj3
  obtain ⟨c1, e1⟩ := arr_v hj6
  obtain ⟨c2, e2⟩ := arr_v hj13
  obtain ⟨c3, e3⟩ := exa_v hj19
  obtain ⟨c4, e4⟩ := exa_v hj25
  obtain ⟨c5, e5⟩ := arr_v hj29
  obtain ⟨cl0, A0⟩ := Arr.start e0 hj3
  have L0 := own_len (own_eqv hj5 rfl) e0 A0
  obtain ⟨cl1, A1⟩ := Arr.start e1 hj6
  have L1 := own_len (own_eqv hj8 rfl) e1 A1
  obtain ⟨cl5, A5⟩ := Arr.start e5 hj29
  have L5 := own_len (own_eqv hj31 rfl) e5 A5
  obtain ⟨cl2, A2⟩ := Arr.start e2 hj13
  have L2 := own_len (own_eqv hj15 rfl) e2 A2
  obtain ⟨cm, km, mm, hm1, hm2, hm3⟩ := hmir
  exact ⟨fun n => if n < 100 then ([c0, c1, c2, c3, c4, c5] : List Nat).getD n 0 else ([cl0.cls, cl1.cls, cl5.cls, mm] : List Nat).getD (n - 100) 0, Sta.start e0 (Or.inl (hs _ (List.mem_of_getElem? (i := 1) rfl))), Exa.start e0 hj4, Sta.start e1 (Or.inr ⟨(oW hw 3 rfl), (hs _ (List.mem_of_getElem? (i := 2) rfl))⟩), Exa.start e1 hj7, Sta.start e2 (Or.inr ⟨(oW hw 32 rfl), (hs _ (List.mem_of_getElem? (i := 11) rfl))⟩), Exa.start e2 hj14, Sta.start e3 (Or.inl (hs _ (List.mem_of_getElem? (i := 18) rfl))), Exa.start e3 hj19, Sta.start e4 (Or.inl (hs _ (List.mem_of_getElem? (i := 24) rfl))), Exa.start e4 hj25, Fld.start ((fld_at e4).symm.trans e5), Exa.start e5 hj30, Arv.start hfit A0 L0.1 L0.2 (by decide) rfl trivial, Arv.start hfit A1 L1.1 L1.2 (by decide) rfl trivial, Arv.start hfit A5 L5.1 L5.2 (by decide) rfl trivial, ⟨cl2, A2, own_sz L2.1 L2.2, own_box (fun _ => e2) A2 hj16⟩, Sta.start (own_eqv hj12 rfl) (Or.inl (hs _ (List.mem_of_getElem? (i := 10) rfl))), Sta.start (own_eqv hj22 rfl) (Or.inl (hs _ (List.mem_of_getElem? (i := 21) rfl))), Fld.start ((fld_at e4).symm.trans (own_eqv hj32 rfl)), ⟨cm, km, hm1, hm2, hm3⟩⟩
theorem wS0 {Z : State} {w : Nat → Addr} (W : own_World Z w) : Sta Z Z.heap "java/util/ArrayList" "EMPTY_ELEMENTDATA" "[Ljava/lang/Object;" (.ref (w 0)) := W.1
theorem wE0 {Z : State} {w : Nat → Addr} (W : own_World Z w) : Exa Z Z.heap (w 0) "[Ljava/lang/Object;" := W.2.1
theorem wS1 {Z : State} {w : Nat → Addr} (W : own_World Z w) : Sta Z Z.heap "java/util/ArrayList" "DEFAULTCAPACITY_EMPTY_ELEMENTDATA" "[Ljava/lang/Object;" (.ref (w 1)) := W.2.2.1
theorem wE1 {Z : State} {w : Nat → Addr} (W : own_World Z w) : Exa Z Z.heap (w 1) "[Ljava/lang/Object;" := W.2.2.2.1
theorem wS2 {Z : State} {w : Nat → Addr} (W : own_World Z w) : Sta Z Z.heap "java/lang/Integer$IntegerCache" "cache" "[Ljava/lang/Integer;" (.ref (w 2)) := W.2.2.2.2.1
theorem wE2 {Z : State} {w : Nat → Addr} (W : own_World Z w) : Exa Z Z.heap (w 2) "[Ljava/lang/Integer;" := W.2.2.2.2.2.1
theorem wS3 {Z : State} {w : Nat → Addr} (W : own_World Z w) : Sta Z Z.heap "java/util/ImmutableCollections" "EMPTY" "Ljava/lang/Object;" (.ref (w 3)) := W.2.2.2.2.2.2.1
theorem wE3 {Z : State} {w : Nat → Addr} (W : own_World Z w) : Exa Z Z.heap (w 3) "java/lang/Object" := W.2.2.2.2.2.2.2.1
theorem wS4 {Z : State} {w : Nat → Addr} (W : own_World Z w) : Sta Z Z.heap "java/util/ImmutableCollections" "EMPTY_LIST" "Ljava/util/ImmutableCollections$ListN;" (.ref (w 4)) := W.2.2.2.2.2.2.2.2.1
theorem wE4 {Z : State} {w : Nat → Addr} (W : own_World Z w) : Exa Z Z.heap (w 4) "java/util/ImmutableCollections$ListN" := W.2.2.2.2.2.2.2.2.2.1
theorem wG5 {Z : State} {w : Nat → Addr} (W : own_World Z w) : Fld Z Z.heap (w 4) "java/util/ImmutableCollections$ListN" "elements" "[Ljava/lang/Object;" (.ref (w 5)) := W.2.2.2.2.2.2.2.2.2.2.1
theorem wE5 {Z : State} {w : Nat → Addr} (W : own_World Z w) : Exa Z Z.heap (w 5) "[Ljava/lang/Object;" := W.2.2.2.2.2.2.2.2.2.2.2.1
theorem wV0 {Z : State} {w : Nat → Addr} (W : own_World Z w) : Arv Z Z.heap (w 0) (w 100) (.object "java/lang/Object") (0 : Int32) [] .null := W.2.2.2.2.2.2.2.2.2.2.2.2.1
theorem wV1 {Z : State} {w : Nat → Addr} (W : own_World Z w) : Arv Z Z.heap (w 1) (w 101) (.object "java/lang/Object") (0 : Int32) [] .null := W.2.2.2.2.2.2.2.2.2.2.2.2.2.1
theorem wV5 {Z : State} {w : Nat → Addr} (W : own_World Z w) : Arv Z Z.heap (w 5) (w 102) (.object "java/lang/Object") (0 : Int32) [] .null := W.2.2.2.2.2.2.2.2.2.2.2.2.2.2.1
theorem wB2 {Z : State} {w : Nat → Addr} (W : own_World Z w) : (∃ c : Cell, Arr Z Z.heap (w 2) c (.object "java/lang/Integer") ∧ c.slots.size = 256 ∧ ∀ j : Int32, ¬ (j < 0 ∨ c.slots.size ≤ j.toNatClampNeg) → ∃ b : Addr, c.slots[j.toNatClampNeg]? = some (.ref b) ∧ Exa Z Z.heap b "java/lang/Integer") := W.2.2.2.2.2.2.2.2.2.2.2.2.2.2.2.1
theorem wI16 {Z : State} {w : Nat → Addr} (W : own_World Z w) : Sta Z Z.heap "java/lang/Integer$IntegerCache" "high" "I" (.int (127 : Int32)) := W.2.2.2.2.2.2.2.2.2.2.2.2.2.2.2.2.1
theorem wI17 {Z : State} {w : Nat → Addr} (W : own_World Z w) : Sta Z Z.heap "java/util/ImmutableCollections" "$assertionsDisabled" "Z" (.int (1 : Int32)) := W.2.2.2.2.2.2.2.2.2.2.2.2.2.2.2.2.2.1
theorem wF4_allowNulls {Z : State} {w : Nat → Addr} (W : own_World Z w) : Fld Z Z.heap (w 4) "java/util/ImmutableCollections$ListN" "allowNulls" "Z" (.int 0) := W.2.2.2.2.2.2.2.2.2.2.2.2.2.2.2.2.2.2.1
theorem wM {Z : State} {w : Nat → Addr} (W : own_World Z w) : Mir Z "[Ljava/lang/Object;" (w 103) := W.2.2.2.2.2.2.2.2.2.2.2.2.2.2.2.2.2.2.2
theorem d3_0 : decode jdk_22_method_1_code 0 = .ok (.aload_n 0, 1) := by decide +kernel
theorem d3_1 : decode jdk_22_method_1_code 1 = .ok (.invokespecial 1, 3) := by decide +kernel
theorem d3_4 : decode jdk_22_method_1_code 4 = .ok (.return_, 1) := by decide +kernel
abbrev mY0 : MethodName := (⟨"java/util/AbstractCollection", "<init>", "()V"⟩ : MethodName)
theorem ef_3_r (m : MethodId) (x0 : Addr) : entryFrame m #[(.ref x0)] 1 = mkF m 0 #[.val (.ref x0)] [] := by first | (simp [entryFrame, mkF, argsToLocals, Value.category]; done) | rfl
theorem pn_0 : plainName "java/util/AbstractCollection" = true := by first | (simp [plainName, overriddenIn]; done) | decide +kernel
abbrev R_0 : Room := { frames := 1, cells := 0, slots := 0, locals := 12 }
def Q_acinit (Z : State) (a1 : Addr) (h0 : Heap) (n0 : Nat) (v : Option Value) (h : Heap) (L : List Loc) : Prop := v = none ∧ Fr n0 L ∧ h = h0
theorem rm_acinit (l : Launch) (Z : State) (a0 : Array Value) (hw : ∀ d ∈ tables_1, d.before a0 Z = true) (ws : List Jvm.Cond) (a1 : Addr) (h0 : Heap) (n0 : Nat) (O0 : Old Z n0 h0) :
    MetFree l mY0 (head1 (Jvm.Cond.code mY0 jdk_22_method_1_code 1 none :: ws) R_0) (fun a U => a = #[(.ref a1)] ∧ Z.Warmed39 U.vm ∧ U.heap = h0) (fun _ _ _ _ _ => True) (fun _ U o U' => ∃ v L, o = .returned v ∧ Q_acinit Z a1 h0 n0 v U'.heap L ∧ FrameEnd U o U' L R_0.cells R_0.slots) := by
  refine MetFree.of_bodySF (plainFor_of_name pn_0) hisR ?_
  intro p e s m args below meth c s₁ Bd hml0 hP hK
  obtain ⟨rfl, hZ, hh⟩ := hP
  have hx := Bd.exec
  have hby := Bd.bytes
  have hml : c.maxLocals = 1 := hml0
  have hown : s.vm.findClass "java/util/AbstractCollection" = some m.cls := findClass_of_methodNamed Bd.named
  have hnm := (name_of_methodNamed Bd.named Bd.method).1
  have X0 : Stand p l e R_0 s m #[(.ref a1)] below meth c s₁ [] 0 0 := Stand.of_body Bd
  have e0 : s₁.heap = h0 := by rw [← hh, Bd.state]; rfl
  have N0 := Fr.nil n0
  show oG p e below s (Q_acinit Z a1 h0 n0) R_0.cells R_0.slots _
  refine oS (fun t k => castTop (ef_3_r m a1) k) ?_
  show oG _ _ _ _ _ _ _ (s₁.setTop (mkF m 0 #[.val (.ref a1)] []))
  refine oS (fun t k => XS.aloadN X0.here hx rfl (hb hby d3_0) rfl rfl k) ?_
  obtain ⟨T1, X1, e1, st1⟩ := initO X0 hx hZ hown (oW hw 19 rfl) (oW hw 20 rfl) (oW hw 21 rfl) e0 (g := (mkF m 1 #[.val (.ref a1)] [(.ref a1)])) rfl (by rw [hml]; rfl) rfl (hb hby d3_1) (by decide) (W := 0) (by show 2 * 0 + _ ≤ _; exact Nat.le_of_eq rfl) (by decide)
  refine oS (fun t k => st1 t k) ?_
  exact own_ret (v := none) X1 (fun _ => rfl) Bd.notSynchronized (fun fs hr => X1.returnOut hx Bd.returns (hb hby d3_4) hr) (by rw [e1]; exact ⟨rfl, N0, rfl⟩) (by decide) (by decide)
theorem d12_0 : decode jdk_30_method_1_code 0 = .ok (.aload_n 0, 1) := by decide +kernel
theorem d12_1 : decode jdk_30_method_1_code 1 = .ok (.invokespecial 1, 3) := by decide +kernel
theorem d12_4 : decode jdk_30_method_1_code 4 = .ok (.return_, 1) := by decide +kernel
abbrev mY1 : MethodName := (⟨"java/lang/Record", "<init>", "()V"⟩ : MethodName)
theorem ef_12_r (m : MethodId) (x0 : Addr) : entryFrame m #[(.ref x0)] 1 = mkF m 0 #[.val (.ref x0)] [] := by first | (simp [entryFrame, mkF, argsToLocals, Value.category]; done) | rfl
theorem pn_1 : plainName "java/lang/Record" = true := by first | (simp [plainName, overriddenIn]; done) | decide +kernel
def Q_rec (Z : State) (a1 : Addr) (h0 : Heap) (n0 : Nat) (v : Option Value) (h : Heap) (L : List Loc) : Prop := v = none ∧ Fr n0 L ∧ h = h0
theorem rm_rec (l : Launch) (Z : State) (a0 : Array Value) (hw : ∀ d ∈ tables_1, d.before a0 Z = true) (ws : List Jvm.Cond) (a1 : Addr) (h0 : Heap) (n0 : Nat) (O0 : Old Z n0 h0) :
    MetFree l mY1 (head1 (Jvm.Cond.code mY1 jdk_30_method_1_code 1 none :: ws) R_0) (fun a U => a = #[(.ref a1)] ∧ Z.Warmed39 U.vm ∧ U.heap = h0) (fun _ _ _ _ _ => True) (fun _ U o U' => ∃ v L, o = .returned v ∧ Q_rec Z a1 h0 n0 v U'.heap L ∧ FrameEnd U o U' L R_0.cells R_0.slots) := by
  refine MetFree.of_bodySF (plainFor_of_name pn_1) hisR ?_
  intro p e s m args below meth c s₁ Bd hml0 hP hK
  obtain ⟨rfl, hZ, hh⟩ := hP
  have hx := Bd.exec
  have hby := Bd.bytes
  have hml : c.maxLocals = 1 := hml0
  have hown : s.vm.findClass "java/lang/Record" = some m.cls := findClass_of_methodNamed Bd.named
  have hnm := (name_of_methodNamed Bd.named Bd.method).1
  have X0 : Stand p l e R_0 s m #[(.ref a1)] below meth c s₁ [] 0 0 := Stand.of_body Bd
  have e0 : s₁.heap = h0 := by rw [← hh, Bd.state]; rfl
  have N0 := Fr.nil n0
  show oG p e below s (Q_rec Z a1 h0 n0) R_0.cells R_0.slots _
  refine oS (fun t k => castTop (ef_12_r m a1) k) ?_
  show oG _ _ _ _ _ _ _ (s₁.setTop (mkF m 0 #[.val (.ref a1)] []))
  refine oS (fun t k => XS.aloadN X0.here hx rfl (hb hby d12_0) rfl rfl k) ?_
  obtain ⟨T1, X1, e1, st1⟩ := initO X0 hx hZ hown (oW hw 76 rfl) (oW hw 20 rfl) (oW hw 21 rfl) e0 (g := (mkF m 1 #[.val (.ref a1)] [(.ref a1)])) rfl (by rw [hml]; rfl) rfl (hb hby d12_1) (by decide) (W := 0) (by show 2 * 0 + _ ≤ _; exact Nat.le_of_eq rfl) (by decide)
  refine oS (fun t k => st1 t k) ?_
  exact own_ret (v := none) X1 (fun _ => rfl) Bd.notSynchronized (fun fs hr => X1.returnOut hx Bd.returns (hb hby d12_4) hr) (by rw [e1]; exact ⟨rfl, N0, rfl⟩) (by decide) (by decide)
theorem d24_0 : decode jdk_47_method_1_code 0 = .ok (.aload_n 0, 1) := by decide +kernel
theorem d24_1 : decode jdk_47_method_1_code 1 = .ok (.invokespecial 1, 3) := by decide +kernel
theorem pd_0 : parseMethodDescriptor "()V" = some ⟨[], none⟩ := by decide +kernel
theorem d24_4 : decode jdk_47_method_1_code 4 = .ok (.return_, 1) := by decide +kernel
abbrev mY2 : MethodName := (⟨"java/util/ImmutableCollections$AbstractImmutableCollection", "<init>", "()V"⟩ : MethodName)
theorem ef_24_r (m : MethodId) (x0 : Addr) : entryFrame m #[(.ref x0)] 1 = mkF m 0 #[.val (.ref x0)] [] := by first | (simp [entryFrame, mkF, argsToLocals, Value.category]; done) | rfl
theorem pn_2 : plainName "java/util/ImmutableCollections$AbstractImmutableCollection" = true := by first | (simp [plainName, overriddenIn]; done) | decide +kernel
abbrev R_1 : Room := { frames := 2, cells := 0, slots := 0, locals := 24 }
def Q_aicinit (Z : State) (a1 : Addr) (h0 : Heap) (n0 : Nat) (v : Option Value) (h : Heap) (L : List Loc) : Prop := v = none ∧ Fr n0 L ∧ h = h0
theorem rm_aicinit (l : Launch) (Z : State) (a0 : Array Value) (hw : ∀ d ∈ tables_1, d.before a0 Z = true) (ws : List Jvm.Cond) (a1 : Addr) (h0 : Heap) (n0 : Nat) (O0 : Old Z n0 h0) :
    MetFree l mY2 (head1 (Jvm.Cond.code mY2 jdk_47_method_1_code 1 none :: ws) R_1) (fun a U => a = #[(.ref a1)] ∧ Z.Warmed39 U.vm ∧ U.heap = h0) (fun _ _ _ _ _ => True) (fun _ U o U' => ∃ v L, o = .returned v ∧ Q_aicinit Z a1 h0 n0 v U'.heap L ∧ FrameEnd U o U' L R_1.cells R_1.slots) := by
  refine MetFree.of_bodySF (plainFor_of_name pn_2) hisR ?_
  intro p e s m args below meth c s₁ Bd hml0 hP hK
  obtain ⟨rfl, hZ, hh⟩ := hP
  have hx := Bd.exec
  have hby := Bd.bytes
  have hml : c.maxLocals = 1 := hml0
  have hown : s.vm.findClass "java/util/ImmutableCollections$AbstractImmutableCollection" = some m.cls := findClass_of_methodNamed Bd.named
  have hnm := (name_of_methodNamed Bd.named Bd.method).1
  have X0 : Stand p l e R_1 s m #[(.ref a1)] below meth c s₁ [] 0 0 := Stand.of_body Bd
  have e0 : s₁.heap = h0 := by rw [← hh, Bd.state]; rfl
  have N0 := Fr.nil n0
  show oG p e below s (Q_aicinit Z a1 h0 n0) R_1.cells R_1.slots _
  refine oS (fun t k => castTop (ef_24_r m a1) k) ?_
  show oG _ _ _ _ _ _ _ (s₁.setTop (mkF m 0 #[.val (.ref a1)] []))
  refine oS (fun t k => XS.aloadN X0.here hx rfl (hb hby d24_0) rfl rfl k) ?_
  obtain ⟨_, _, ⟨T1, L1, k1, n1⟩, -, X1, ⟨Lc1, hQ1, l1, y1, z1⟩, st1⟩ := X0.specialBack hx (y := mY0) rfl hown (oM hZ hw 168 rfl) (oM hZ hw 14 rfl) (oM hZ hw 18 rfl) (by decide) (backOf (W := 0) (rm_acinit l Z a0 hw [] a1  h0 n0 O0  ) hZ (oW hw 18 rfl) (oW hw 17 rfl) (by decide) (by decide)) (g := (mkF m 1 #[.val (.ref a1)] [(.ref a1)])) rfl (by rw [hml]; rfl) (Steps.refl _) (a := a1) (argsL := []) (rest := []) (lenOf pd_0 rfl) rfl (by show 2 * 0 + _ ≤ _; exact Nat.le_of_eq rfl) (hb hby d24_1) (fun _ _ => ⟨rfl, e0, (by decide : 0 + 0 ≤ _), (by decide : 0 + 0 ≤ _)⟩)
  dsimp only [Pt.U, Pt.locs, Pt.cells, Pt.slots] at X1 l1 y1 z1 st1 hQ1
  rw [l1, y1, z1] at X1
  clear l1 y1 z1
  obtain ⟨rfl, Nq1, e1⟩ := hQ1
  have N1 := Fr.app N0 Nq1
  refine oS (fun t k => st1.trans k) ?_
  show oG _ _ _ _ _ _ _ (T1.setTop (mkF m 4 #[.val (.ref a1)] []))
  try clear st1
  exact own_ret (v := none) X1 (fun _ => rfl) Bd.notSynchronized (fun fs hr => X1.returnOut hx Bd.returns (hb hby d24_4) hr) (by rw [e1]; exact ⟨rfl, N1, rfl⟩) (by decide) (by decide)
theorem d23_0 : decode jdk_46_method_1_code 0 = .ok (.aload_n 0, 1) := by decide +kernel
theorem d23_1 : decode jdk_46_method_1_code 1 = .ok (.invokespecial 1, 3) := by decide +kernel
theorem d23_4 : decode jdk_46_method_1_code 4 = .ok (.return_, 1) := by decide +kernel
abbrev mY3 : MethodName := (⟨"java/util/ImmutableCollections$AbstractImmutableList", "<init>", "()V"⟩ : MethodName)
theorem ef_23_r (m : MethodId) (x0 : Addr) : entryFrame m #[(.ref x0)] 1 = mkF m 0 #[.val (.ref x0)] [] := by first | (simp [entryFrame, mkF, argsToLocals, Value.category]; done) | rfl
theorem pn_3 : plainName "java/util/ImmutableCollections$AbstractImmutableList" = true := by first | (simp [plainName, overriddenIn]; done) | decide +kernel
abbrev R_2 : Room := { frames := 3, cells := 0, slots := 0, locals := 36 }
def Q_ailinit (Z : State) (a1 : Addr) (h0 : Heap) (n0 : Nat) (v : Option Value) (h : Heap) (L : List Loc) : Prop := v = none ∧ Fr n0 L ∧ h = h0
theorem rm_ailinit (l : Launch) (Z : State) (a0 : Array Value) (hw : ∀ d ∈ tables_1, d.before a0 Z = true) (ws : List Jvm.Cond) (a1 : Addr) (h0 : Heap) (n0 : Nat) (O0 : Old Z n0 h0) :
    MetFree l mY3 (head1 (Jvm.Cond.code mY3 jdk_46_method_1_code 1 none :: ws) R_2) (fun a U => a = #[(.ref a1)] ∧ Z.Warmed39 U.vm ∧ U.heap = h0) (fun _ _ _ _ _ => True) (fun _ U o U' => ∃ v L, o = .returned v ∧ Q_ailinit Z a1 h0 n0 v U'.heap L ∧ FrameEnd U o U' L R_2.cells R_2.slots) := by
  refine MetFree.of_bodySF (plainFor_of_name pn_3) hisR ?_
  intro p e s m args below meth c s₁ Bd hml0 hP hK
  obtain ⟨rfl, hZ, hh⟩ := hP
  have hx := Bd.exec
  have hby := Bd.bytes
  have hml : c.maxLocals = 1 := hml0
  have hown : s.vm.findClass "java/util/ImmutableCollections$AbstractImmutableList" = some m.cls := findClass_of_methodNamed Bd.named
  have hnm := (name_of_methodNamed Bd.named Bd.method).1
  have X0 : Stand p l e R_2 s m #[(.ref a1)] below meth c s₁ [] 0 0 := Stand.of_body Bd
  have e0 : s₁.heap = h0 := by rw [← hh, Bd.state]; rfl
  have N0 := Fr.nil n0
  show oG p e below s (Q_ailinit Z a1 h0 n0) R_2.cells R_2.slots _
  refine oS (fun t k => castTop (ef_23_r m a1) k) ?_
  show oG _ _ _ _ _ _ _ (s₁.setTop (mkF m 0 #[.val (.ref a1)] []))
  refine oS (fun t k => XS.aloadN X0.here hx rfl (hb hby d23_0) rfl rfl k) ?_
  obtain ⟨_, _, ⟨T1, L1, k1, n1⟩, -, X1, ⟨Lc1, hQ1, l1, y1, z1⟩, st1⟩ := X0.specialBack hx (y := mY2) rfl hown (oM hZ hw 162 rfl) (oM hZ hw 163 rfl) (oM hZ hw 167 rfl) (by decide) (backOf (W := 0) (rm_aicinit l Z a0 hw [] a1  h0 n0 O0  ) hZ (oW hw 167 rfl) (oW hw 166 rfl) (by decide) (by decide)) (g := (mkF m 1 #[.val (.ref a1)] [(.ref a1)])) rfl (by rw [hml]; rfl) (Steps.refl _) (a := a1) (argsL := []) (rest := []) (lenOf pd_0 rfl) rfl (by show 2 * 0 + _ ≤ _; exact Nat.le_of_eq rfl) (hb hby d23_1) (fun _ _ => ⟨rfl, e0, (by decide : 0 + 0 ≤ _), (by decide : 0 + 0 ≤ _)⟩)
  dsimp only [Pt.U, Pt.locs, Pt.cells, Pt.slots] at X1 l1 y1 z1 st1 hQ1
  rw [l1, y1, z1] at X1
  clear l1 y1 z1
  obtain ⟨rfl, Nq1, e1⟩ := hQ1
  have N1 := Fr.app N0 Nq1
  refine oS (fun t k => st1.trans k) ?_
  show oG _ _ _ _ _ _ _ (T1.setTop (mkF m 4 #[.val (.ref a1)] []))
  try clear st1
  exact own_ret (v := none) X1 (fun _ => rfl) Bd.notSynchronized (fun fs hr => X1.returnOut hx Bd.returns (hb hby d23_4) hr) (by rw [e1]; exact ⟨rfl, N1, rfl⟩) (by decide) (by decide)
theorem d2_0 : decode jdk_39_method_1_code 0 = .ok (.aload_n 0, 1) := by decide +kernel
theorem d2_1 : decode jdk_39_method_1_code 1 = .ok (.invokespecial 1, 3) := by decide +kernel
theorem d2_4 : decode jdk_39_method_1_code 4 = .ok (.aload_n 0, 1) := by decide +kernel
theorem d2_5 : decode jdk_39_method_1_code 5 = .ok (.iconst 0, 1) := by decide +kernel
theorem li_0 : Int32.ofInt (0) = (0 : Int32) := by decide
theorem d2_6 : decode jdk_39_method_1_code 6 = .ok (.putfield 7, 3) := by decide +kernel
theorem d2_9 : decode jdk_39_method_1_code 9 = .ok (.return_, 1) := by decide +kernel
abbrev mY4 : MethodName := (⟨"java/util/AbstractList", "<init>", "()V"⟩ : MethodName)
theorem ef_2_r (m : MethodId) (x0 : Addr) : entryFrame m #[(.ref x0)] 1 = mkF m 0 #[.val (.ref x0)] [] := by first | (simp [entryFrame, mkF, argsToLocals, Value.category]; done) | rfl
theorem pn_4 : plainName "java/util/AbstractList" = true := by first | (simp [plainName, overriddenIn]; done) | decide +kernel
def Q_ablinit (Z : State) (a1 : Addr) (h0 : Heap) (n0 : Nat) (v : Option Value) (h : Heap) (L : List Loc) : Prop := v = none ∧ Fr n0 L ∧ Keep h0 h [a1] ∧ Fld Z h a1 "java/util/AbstractList" "modCount" "I" (.int 0) ∧ Fld Z h a1 "java/util/ArrayList" "elementData" "[Ljava/lang/Object;" .null ∧ Fld Z h a1 "java/util/ArrayList" "size" "I" (.int 0)
theorem rm_ablinit (l : Launch) (Z : State) (a0 : Array Value) (hw : ∀ d ∈ tables_1, d.before a0 Z = true) (ws : List Jvm.Cond) (a1 : Addr) (h0 : Heap) (n0 : Nat) (O0 : Old Z n0 h0) (E_a1 : Exa Z h0 a1 "java/util/ArrayList") (g_a1 : n0 ≤ a1) (F_modCount_a1 : Fld Z h0 a1 "java/util/AbstractList" "modCount" "I" (.int 0)) (F_elementData_a1 : Fld Z h0 a1 "java/util/ArrayList" "elementData" "[Ljava/lang/Object;" .null) (F_size_a1 : Fld Z h0 a1 "java/util/ArrayList" "size" "I" (.int 0)) :
    MetFree l mY4 (head1 (Jvm.Cond.code mY4 jdk_39_method_1_code 1 none :: ws) R_1) (fun a U => a = #[(.ref a1)] ∧ Z.Warmed39 U.vm ∧ U.heap = h0) (fun _ _ _ _ _ => True) (fun _ U o U' => ∃ v L, o = .returned v ∧ Q_ablinit Z a1 h0 n0 v U'.heap L ∧ FrameEnd U o U' L R_1.cells R_1.slots) := by
  refine MetFree.of_bodySF (plainFor_of_name pn_4) hisR ?_
  intro p e s m args below meth c s₁ Bd hml0 hP hK
  obtain ⟨rfl, hZ, hh⟩ := hP
  have hx := Bd.exec
  have hby := Bd.bytes
  have hml : c.maxLocals = 1 := hml0
  have hown : s.vm.findClass "java/util/AbstractList" = some m.cls := findClass_of_methodNamed Bd.named
  have hnm := (name_of_methodNamed Bd.named Bd.method).1
  have X0 : Stand p l e R_1 s m #[(.ref a1)] below meth c s₁ [] 0 0 := Stand.of_body Bd
  have e0 : s₁.heap = h0 := by rw [← hh, Bd.state]; rfl
  have N0 := Fr.nil n0
  show oG p e below s (Q_ablinit Z a1 h0 n0) R_1.cells R_1.slots _
  refine oS (fun t k => castTop (ef_2_r m a1) k) ?_
  show oG _ _ _ _ _ _ _ (s₁.setTop (mkF m 0 #[.val (.ref a1)] []))
  refine oS (fun t k => XS.aloadN X0.here hx rfl (hb hby d2_0) rfl rfl k) ?_
  obtain ⟨_, _, ⟨T1, L1, k1, n1⟩, -, X1, ⟨Lc1, hQ1, l1, y1, z1⟩, st1⟩ := X0.specialBack hx (y := mY0) rfl hown (oM hZ hw 13 rfl) (oM hZ hw 14 rfl) (oM hZ hw 18 rfl) (by decide) (backOf (W := 0) (rm_acinit l Z a0 hw [] a1  h0 n0 O0  ) hZ (oW hw 18 rfl) (oW hw 17 rfl) (by decide) (by decide)) (g := (mkF m 1 #[.val (.ref a1)] [(.ref a1)])) rfl (by rw [hml]; rfl) (Steps.refl _) (a := a1) (argsL := []) (rest := []) (lenOf pd_0 rfl) rfl (by show 2 * 0 + _ ≤ _; exact Nat.le_of_eq rfl) (hb hby d2_1) (fun _ _ => ⟨rfl, e0, (by decide : 0 + 0 ≤ _), (by decide : 0 + 0 ≤ _)⟩)
  dsimp only [Pt.U, Pt.locs, Pt.cells, Pt.slots] at X1 l1 y1 z1 st1 hQ1
  rw [l1, y1, z1] at X1
  clear l1 y1 z1
  obtain ⟨rfl, Nq1, e1⟩ := hQ1
  have N1 := Fr.app N0 Nq1
  refine oS (fun t k => st1.trans k) ?_
  show oG _ _ _ _ _ _ _ (T1.setTop (mkF m 4 #[.val (.ref a1)] []))
  try clear st1
  refine oS (fun t k => XS.aloadN X1.here hx rfl (hb hby d2_4) rfl rfl k) ?_
  refine oS (fun t k => oIc li_0 X1.here hx rfl (hb hby d2_5) k) ?_
  obtain ⟨T2, h2, X2, e2, W2, st2⟩ := putF X1 hx hZ hown (host := "") (Or.inl (oW hw 22 rfl)) Via.refl e1 F_modCount_a1 E_a1 (Or.inl (oW hw 23 rfl)) (oW hw 2 rfl) (ty := .int) (by decide) rfl rfl (g := (mkF m 6 #[.val (.ref a1)] [(.int 0), (.ref a1)])) rfl rfl (hb hby d2_6)
  have O2 := O0.wr W2 g_a1
  have N2 := Fr.snoc X2 N1 g_a1
  have Kp2 : Keep h0 h2 [a1] := (Keep.refl h0 [a1]).wr W2 (Or.inl (List.mem_of_getElem? (i := 0) rfl))
  have Fw2 := F_modCount_a1.same W2
  refine oS (fun t k => st2 t k) ?_
  try clear st2 X1 e1
  exact own_ret (v := none) X2 (fun _ => rfl) Bd.notSynchronized (fun fs hr => X2.returnOut hx Bd.returns (hb hby d2_9) hr) (by rw [e2]; exact ⟨rfl, N2, Kp2, Fw2, (F_elementData_a1.other W2 (Or.inr (slot_ne (Or.inl (oW hw 26 rfl)) (Or.inl (oW hw 23 rfl)) (by decide) (t := (.array (.object "java/lang/Object"))) (t' := .int) (by decide) (by decide)))), (F_size_a1.other W2 (Or.inr (slot_ne (Or.inl (oW hw 42 rfl)) (Or.inl (oW hw 23 rfl)) (by decide) (t := .int) (t' := .int) (by decide) (by decide))))⟩) (by decide) (by decide)
theorem d1_0 : decode jdk_38_method_2_code 0 = .ok (.aload_n 0, 1) := by decide +kernel
theorem d1_1 : decode jdk_38_method_2_code 1 = .ok (.invokespecial 1, 3) := by decide +kernel
theorem d1_4 : decode jdk_38_method_2_code 4 = .ok (.aload_n 0, 1) := by decide +kernel
theorem d1_5 : decode jdk_38_method_2_code 5 = .ok (.getstatic 39, 3) := by decide +kernel
theorem d1_8 : decode jdk_38_method_2_code 8 = .ok (.putfield 9, 3) := by decide +kernel
theorem d1_11 : decode jdk_38_method_2_code 11 = .ok (.return_, 1) := by decide +kernel
abbrev mY5 : MethodName := (⟨"java/util/ArrayList", "<init>", "()V"⟩ : MethodName)
theorem ef_1_r (m : MethodId) (x0 : Addr) : entryFrame m #[(.ref x0)] 1 = mkF m 0 #[.val (.ref x0)] [] := by first | (simp [entryFrame, mkF, argsToLocals, Value.category]; done) | rfl
theorem pn_5 : plainName "java/util/ArrayList" = true := by first | (simp [plainName, overriddenIn]; done) | decide +kernel
def Q_alinit (Z : State) (a1 : Addr) (w : Nat → Addr) (h0 : Heap) (n0 : Nat) (v : Option Value) (h : Heap) (L : List Loc) : Prop := v = none ∧ Fr n0 L ∧ Keep h0 h [a1] ∧ Fld Z h a1 "java/util/AbstractList" "modCount" "I" (.int 0) ∧ Fld Z h a1 "java/util/ArrayList" "elementData" "[Ljava/lang/Object;" (.ref (w 1)) ∧ Fld Z h a1 "java/util/ArrayList" "size" "I" (.int 0)
theorem rm_alinit (l : Launch) (Z : State) (a0 : Array Value) (hw : ∀ d ∈ tables_1, d.before a0 Z = true) (ws : List Jvm.Cond) (a1 : Addr) (w : Nat → Addr) (h0 : Heap) (n0 : Nat) (O0 : Old Z n0 h0) (W : own_World Z w) (E_a1 : Exa Z h0 a1 "java/util/ArrayList") (g_a1 : n0 ≤ a1) (F_modCount_a1 : Fld Z h0 a1 "java/util/AbstractList" "modCount" "I" (.int 0)) (F_elementData_a1 : Fld Z h0 a1 "java/util/ArrayList" "elementData" "[Ljava/lang/Object;" .null) (F_size_a1 : Fld Z h0 a1 "java/util/ArrayList" "size" "I" (.int 0)) :
    MetFree l mY5 (head1 (Jvm.Cond.code mY5 jdk_38_method_2_code 1 none :: ws) R_2) (fun a U => a = #[(.ref a1)] ∧ Z.Warmed39 U.vm ∧ U.heap = h0) (fun _ _ _ _ _ => True) (fun _ U o U' => ∃ v L, o = .returned v ∧ Q_alinit Z a1 w h0 n0 v U'.heap L ∧ FrameEnd U o U' L R_2.cells R_2.slots) := by
  refine MetFree.of_bodySF (plainFor_of_name pn_5) hisR ?_
  intro p e s m args below meth c s₁ Bd hml0 hP hK
  obtain ⟨rfl, hZ, hh⟩ := hP
  have hx := Bd.exec
  have hby := Bd.bytes
  have hml : c.maxLocals = 1 := hml0
  have hown : s.vm.findClass "java/util/ArrayList" = some m.cls := findClass_of_methodNamed Bd.named
  have hnm := (name_of_methodNamed Bd.named Bd.method).1
  have X0 : Stand p l e R_2 s m #[(.ref a1)] below meth c s₁ [] 0 0 := Stand.of_body Bd
  have e0 : s₁.heap = h0 := by rw [← hh, Bd.state]; rfl
  have N0 := Fr.nil n0
  show oG p e below s (Q_alinit Z a1 w h0 n0) R_2.cells R_2.slots _
  refine oS (fun t k => castTop (ef_1_r m a1) k) ?_
  show oG _ _ _ _ _ _ _ (s₁.setTop (mkF m 0 #[.val (.ref a1)] []))
  refine oS (fun t k => XS.aloadN X0.here hx rfl (hb hby d1_0) rfl rfl k) ?_
  obtain ⟨_, _, ⟨T1, L1, k1, n1⟩, -, X1, ⟨Lc1, hQ1, l1, y1, z1⟩, st1⟩ := X0.specialBack hx (y := mY4) rfl hown (oM hZ hw 7 rfl) (oM hZ hw 8 rfl) (oM hZ hw 12 rfl) (by decide) (backOf (W := 0) (rm_ablinit l Z a0 hw [] a1  h0 n0 O0  E_a1 g_a1 F_modCount_a1 F_elementData_a1 F_size_a1) hZ (oW hw 12 rfl) (oW hw 11 rfl) (by decide) (by decide)) (g := (mkF m 1 #[.val (.ref a1)] [(.ref a1)])) rfl (by rw [hml]; rfl) (Steps.refl _) (a := a1) (argsL := []) (rest := []) (lenOf pd_0 rfl) rfl (by show 2 * 0 + _ ≤ _; exact Nat.le_of_eq rfl) (hb hby d1_1) (fun _ _ => ⟨rfl, e0, (by decide : 0 + 0 ≤ _), (by decide : 0 + 0 ≤ _)⟩)
  dsimp only [Pt.U, Pt.locs, Pt.cells, Pt.slots] at X1 l1 y1 z1 st1 hQ1
  rw [l1, y1, z1] at X1
  clear l1 y1 z1
  obtain ⟨rfl, Nq1, K1, P1_0, P1_1, P1_2⟩ := hQ1
  have N1 := Fr.app N0 Nq1
  have O1 := O0.keep K1 (allS g_a1 all0)
  have Kp1 : Keep h0 T1.heap [a1] := (Keep.refl h0 [a1]).trans K1 (allS (Or.inl (List.mem_of_getElem? (i := 0) rfl)) all0)
  refine oS (fun t k => st1.trans k) ?_
  show oG _ _ _ _ _ _ _ (T1.setTop (mkF m 4 #[.val (.ref a1)] []))
  try clear st1
  refine oS (fun t k => XS.aloadN X1.here hx rfl (hb hby d1_4) rfl rfl k) ?_
  obtain ⟨T2, X2, e2, st2⟩ := getS2 X1 hx hZ hown (host := "") (Or.inl (oW hw 24 rfl)) Via.refl rfl ((wS1 W).ext O1.2) (g := (mkF m 5 #[.val (.ref a1)] [(.ref a1)])) rfl (hb hby d1_5)
  refine oS (fun t k => st2 t k) ?_
  try clear st2 X1 e1
  obtain ⟨T3, h3, X3, e3, W3, st3⟩ := putF X2 hx hZ hown (host := "") (Or.inl (oW hw 25 rfl)) Via.refl e2 P1_1 (E_a1.keep K1) (Or.inl (oW hw 26 rfl)) (oW hw 2 rfl) (ty := (.array (.object "java/lang/Object"))) (by decide) rfl rfl (g := (mkF m 8 #[.val (.ref a1)] [(.ref (w 1)), (.ref a1)])) rfl rfl (hb hby d1_8)
  have O3 := O1.wr W3 g_a1
  have N3 := Fr.snoc X3 N1 g_a1
  have Kp3 : Keep h0 h3 [a1] := Kp1.wr W3 (Or.inl (List.mem_of_getElem? (i := 0) rfl))
  have Fw3 := P1_1.same W3
  refine oS (fun t k => st3 t k) ?_
  try clear st3 X2 e2
  try clear T2
  exact own_ret (v := none) X3 (fun _ => rfl) Bd.notSynchronized (fun fs hr => X3.returnOut hx Bd.returns (hb hby d1_11) hr) (by rw [e3]; exact ⟨rfl, N3, Kp3, (P1_0.other W3 (Or.inr (slot_ne (Or.inl (oW hw 23 rfl)) (Or.inl (oW hw 26 rfl)) (by decide) (t := .int) (t' := (.array (.object "java/lang/Object"))) (by decide) (by decide)))), Fw3, (P1_2.other W3 (Or.inr (slot_ne (Or.inl (oW hw 42 rfl)) (Or.inl (oW hw 26 rfl)) (by decide) (t := .int) (t' := (.array (.object "java/lang/Object"))) (by decide) (by decide))))⟩) (by decide) (by decide)
theorem d10_0 : decode jdk_29_method_65_code 0 = .ok (.iload_n 0, 1) := by decide +kernel
theorem d10_1 : decode jdk_29_method_65_code 1 = .ok (.iload_n 1, 1) := by decide +kernel
theorem d10_2 : decode jdk_29_method_65_code 2 = .ok (.if_icmp .lt 7, 3) := by decide +kernel
theorem d10_5 : decode jdk_29_method_65_code 5 = .ok (.iload_n 0, 1) := by decide +kernel
theorem d10_6 : decode jdk_29_method_65_code 6 = .ok (.goto 4, 3) := by decide +kernel
theorem d10_10 : decode jdk_29_method_65_code 10 = .ok (.ireturn, 1) := by decide +kernel
abbrev mY6 : MethodName := (⟨"java/lang/Math", "max", "(II)I"⟩ : MethodName)
theorem ef_10_ii_10_1 (m : MethodId)  : entryFrame m #[(.int 10), (.int 1)] 2 = mkF m 0 #[.val (.int 10), .val (.int 1)] [] := by first | (simp [entryFrame, mkF, argsToLocals, Value.category]; done) | rfl
abbrev R_3 : Room := { frames := 0, cells := 0, slots := 0, locals := 0 }
def Q_max10 (Z : State)  (h0 : Heap) (n0 : Nat) (v : Option Value) (h : Heap) (L : List Loc) : Prop := v = some (.int 10) ∧ Fr n0 L ∧ h = h0
theorem rm_max10 (l : Launch) (Z : State) (a0 : Array Value) (hw : ∀ d ∈ tables_1, d.before a0 Z = true) (ws : List Jvm.Cond)  (h0 : Heap) (n0 : Nat) (O0 : Old Z n0 h0) :
    MetFree l mY6 (head1 (Jvm.Cond.code mY6 jdk_29_method_65_code 2 (some .int) :: ws) R_3) (fun a U => a = #[(.int 10), (.int 1)] ∧ Z.Warmed39 U.vm ∧ U.heap = h0) (fun _ _ _ _ _ => True) (fun _ U o U' => ∃ v L, o = .returned v ∧ Q_max10 Z  h0 n0 v U'.heap L ∧ FrameEnd U o U' L R_3.cells R_3.slots) := by
  refine MetFree.of_bodySF (Jvm.Free.JP.mathPlain rfl (by decide +kernel)) hisR ?_
  intro p e s m args below meth c s₁ Bd hml0 hP hK
  obtain ⟨rfl, hZ, hh⟩ := hP
  have hx := Bd.exec
  have hby := Bd.bytes
  have hml : c.maxLocals = 2 := hml0
  have hown : s.vm.findClass "java/lang/Math" = some m.cls := findClass_of_methodNamed Bd.named
  have hnm := (name_of_methodNamed Bd.named Bd.method).1
  have X0 : Stand p l e R_3 s m #[(.int 10), (.int 1)] below meth c s₁ [] 0 0 := Stand.of_body Bd
  have e0 : s₁.heap = h0 := by rw [← hh, Bd.state]; rfl
  have N0 := Fr.nil n0
  show oG p e below s (Q_max10 Z  h0 n0) R_3.cells R_3.slots _
  refine oS (fun t k => castTop (ef_10_ii_10_1 m ) k) ?_
  show oG _ _ _ _ _ _ _ (s₁.setTop (mkF m 0 #[.val (.int 10), .val (.int 1)] []))
  refine oS (fun t k => XS.iloadN X0.here hx rfl (hb hby d10_0) rfl k) ?_
  refine oS (fun t k => XS.iloadN X0.here hx rfl (hb hby d10_1) rfl k) ?_
  refine oS (fun t k => XS.icmpNo X0.here hx rfl (hb hby d10_2) rfl (flt (by decide)).1 k) ?_
  refine oS (fun t k => XS.iloadN X0.here hx rfl (hb hby d10_5) rfl k) ?_
  refine oS (fun t k => XS.goto X0.here hx rfl (pc0 := 6) (pc' := 10) rfl (hb hby d10_6) (by decide) (by decide) k) ?_
  exact own_ret (v := some (.int 10)) X0 (fun h => by rw [Bd.returns] at h; cases h) Bd.notSynchronized (fun fs hr => retOut X0 hx (t := .int) Bd.returns rfl (Or.inl ⟨rfl, Or.inl rfl, _, rfl⟩) (hb hby d10_10) hr) (by rw [e0]; exact ⟨rfl, N0, rfl⟩) (by decide) (by decide)
theorem d9_0 : decode jdk_38_method_6_code 0 = .ok (.aload_n 0, 1) := by decide +kernel
theorem d9_1 : decode jdk_38_method_6_code 1 = .ok (.getfield 9, 3) := by decide +kernel
theorem d9_4 : decode jdk_38_method_6_code 4 = .ok (.arraylength, 1) := by decide +kernel
theorem d9_5 : decode jdk_38_method_6_code 5 = .ok (.istore_n 2, 1) := by decide +kernel
theorem d9_6 : decode jdk_38_method_6_code 6 = .ok (.iload_n 2, 1) := by decide +kernel
theorem d9_7 : decode jdk_38_method_6_code 7 = .ok (.ifCond .gt 13, 3) := by decide +kernel
theorem d9_10 : decode jdk_38_method_6_code 10 = .ok (.aload_n 0, 1) := by decide +kernel
theorem d9_11 : decode jdk_38_method_6_code 11 = .ok (.getfield 9, 3) := by decide +kernel
theorem d9_14 : decode jdk_38_method_6_code 14 = .ok (.getstatic 39, 3) := by decide +kernel
theorem d9_17 : decode jdk_38_method_6_code 17 = .ok (.if_acmp .eq 28, 3) := by decide +kernel
theorem d9_45 : decode jdk_38_method_6_code 45 = .ok (.aload_n 0, 1) := by decide +kernel
theorem d9_46 : decode jdk_38_method_6_code 46 = .ok (.bipush 10, 2) := by decide +kernel
theorem lb_10 : (Int8.ofInt (10)).toInt32 = (10 : Int32) := by decide
theorem d9_48 : decode jdk_38_method_6_code 48 = .ok (.iload_n 1, 1) := by decide +kernel
theorem d9_49 : decode jdk_38_method_6_code 49 = .ok (.invokestatic 79, 3) := by decide +kernel
theorem pd_1 : parseMethodDescriptor "(II)I" = some ⟨[.int, .int], some .int⟩ := by decide +kernel
theorem d9_52 : decode jdk_38_method_6_code 52 = .ok (.anewarray 7, 3) := by decide +kernel
theorem d9_55 : decode jdk_38_method_6_code 55 = .ok (.dup_x1, 1) := by decide +kernel
theorem d9_56 : decode jdk_38_method_6_code 56 = .ok (.putfield 9, 3) := by decide +kernel
theorem d9_59 : decode jdk_38_method_6_code 59 = .ok (.areturn, 1) := by decide +kernel
abbrev mY7 : MethodName := (⟨"java/util/ArrayList", "grow", "(I)[Ljava/lang/Object;"⟩ : MethodName)
theorem ef_9_ri_1 (m : MethodId) (x0 : Addr) : entryFrame m #[(.ref x0), (.int 1)] 4 = mkF m 0 #[.val (.ref x0), .val (.int 1), .unset, .unset] [] := by first | (simp [entryFrame, mkF, argsToLocals, Value.category]; done) | rfl
abbrev R_4 : Room := { frames := 1, cells := 1, slots := 10, locals := 14 }
def Q_growI (Z : State) (a1 : Addr) (p9 : Int32) (w : Nat → Addr) (h0 : Heap) (n0 : Nat) (v : Option Value) (h : Heap) (L : List Loc) : Prop := ∃ (r : Addr) (k : ClassId), v = some (.ref r) ∧ Fr n0 L ∧ Keep h0 h [a1] ∧ h0.size ≤ r ∧ Fld Z h a1 "java/util/AbstractList" "modCount" "I" (.int p9) ∧ Fld Z h a1 "java/util/ArrayList" "elementData" "[Ljava/lang/Object;" (.ref r) ∧ Fld Z h a1 "java/util/ArrayList" "size" "I" (.int 0) ∧ Arv Z h r k (.object "java/lang/Object") (10 : Int32) [.null, .null, .null, .null, .null, .null, .null, .null, .null, .null] .null ∧ Ovr Z k "java/lang/Object" ∧ Exa Z h r "[Ljava/lang/Object;"
theorem rm_growI (l : Launch) (Z : State) (a0 : Array Value) (hw : ∀ d ∈ tables_1, d.before a0 Z = true) (ws : List Jvm.Cond) (a1 : Addr) (p9 : Int32) (w : Nat → Addr) (h0 : Heap) (n0 : Nat) (O0 : Old Z n0 h0) (W : own_World Z w) (E_a1 : Exa Z h0 a1 "java/util/ArrayList") (g_a1 : n0 ≤ a1) (F_modCount_a1 : Fld Z h0 a1 "java/util/AbstractList" "modCount" "I" (.int p9)) (F_elementData_a1 : Fld Z h0 a1 "java/util/ArrayList" "elementData" "[Ljava/lang/Object;" (.ref (w 1))) (F_size_a1 : Fld Z h0 a1 "java/util/ArrayList" "size" "I" (.int 0)) :
    MetFree l mY7 (head1 (Jvm.Cond.code mY7 jdk_38_method_6_code 4 (some (.array (.object "java/lang/Object"))) :: ws) R_4) (fun a U => a = #[(.ref a1), (.int 1)] ∧ Z.Warmed39 U.vm ∧ U.heap = h0) (fun _ _ _ _ _ => True) (fun _ U o U' => ∃ v L, o = .returned v ∧ Q_growI Z a1 p9 w h0 n0 v U'.heap L ∧ FrameEnd U o U' L R_4.cells R_4.slots) := by
  refine MetFree.of_bodySF (plainFor_of_name pn_5) hisR ?_
  intro p e s m args below meth c s₁ Bd hml0 hP hK
  obtain ⟨rfl, hZ, hh⟩ := hP
  have hx := Bd.exec
  have hby := Bd.bytes
  have hml : c.maxLocals = 4 := hml0
  have hown : s.vm.findClass "java/util/ArrayList" = some m.cls := findClass_of_methodNamed Bd.named
  have hnm := (name_of_methodNamed Bd.named Bd.method).1
  have X0 : Stand p l e R_4 s m #[(.ref a1), (.int 1)] below meth c s₁ [] 0 0 := Stand.of_body Bd
  have e0 : s₁.heap = h0 := by rw [← hh, Bd.state]; rfl
  have N0 := Fr.nil n0
  show oG p e below s (Q_growI Z a1 p9 w h0 n0) R_4.cells R_4.slots _
  refine oS (fun t k => castTop (ef_9_ri_1 m a1) k) ?_
  show oG _ _ _ _ _ _ _ (s₁.setTop (mkF m 0 #[.val (.ref a1), .val (.int 1), .unset, .unset] []))
  refine oS (fun t k => XS.aloadN X0.here hx rfl (hb hby d9_0) rfl rfl k) ?_
  obtain ⟨T1, X1, e1, st1⟩ := getF X0 hx hZ hown (host := "") (Or.inl (oW hw 25 rfl)) Via.refl e0 F_elementData_a1 (g := (mkF m 1 #[.val (.ref a1), .val (.int 1), .unset, .unset] [(.ref a1)])) rfl rfl (hb hby d9_1)
  refine oS (fun t k => st1 t k) ?_
  try clear st1
  obtain ⟨cl2, Ar2, -, Sz2, Ng2, -, -⟩ := id ((wV1 W).ext O0.2)
  refine oS (S' := (T1.setTop (mkF m 5 #[.val (.ref a1), .val (.int 1), .unset, .unset] [(.int 0)]))) (fun t k => X1.arraylength hx (by rw [e1]; exact Ar2.1) (State.isArrayOf_alike hZ.alike Ar2.2.1) (g := (mkF m 4 #[.val (.ref a1), .val (.int 1), .unset, .unset] [(.ref (w 1))])) rfl rfl (hb hby d9_4) t (by rw [len_of Sz2 Ng2]; exact k)) ?_
  refine oS (fun t k => XS.istoreN X1.here hx rfl (hb hby d9_5) rfl (l' := #[.val (.ref a1), .val (.int 1), .val (.int 0), .unset]) rfl k) ?_
  refine oS (fun t k => XS.iloadN X1.here hx rfl (hb hby d9_6) rfl k) ?_
  refine oS (fun t k => XS.ifNo X1.here hx rfl (hb hby d9_7) rfl ((if0 _ _).trans (flt (by decide)).2.2.1) k) ?_
  refine oS (fun t k => XS.aloadN X1.here hx rfl (hb hby d9_10) rfl rfl k) ?_
  show oG _ _ _ _ _ _ _ (T1.setTop (mkF m 11 #[.val (.ref a1), .val (.int 1), .val (.int 0), .unset] [(.ref a1)]))
  obtain ⟨T3, X3, e3, st3⟩ := getF X1 hx hZ hown (host := "") (Or.inl (oW hw 25 rfl)) Via.refl e1 F_elementData_a1 (g := (mkF m 11 #[.val (.ref a1), .val (.int 1), .val (.int 0), .unset] [(.ref a1)])) rfl rfl (hb hby d9_11)
  refine oS (fun t k => st3 t k) ?_
  try clear st3 X1 e1
  try clear T1
  obtain ⟨T4, X4, e4, st4⟩ := getS2 X3 hx hZ hown (host := "") (Or.inl (oW hw 24 rfl)) Via.refl e3 ((wS1 W).ext O0.2) (g := (mkF m 14 #[.val (.ref a1), .val (.int 1), .val (.int 0), .unset] [(.ref (w 1))])) rfl (hb hby d9_14)
  refine oS (fun t k => st4 t k) ?_
  try clear st4 X3 e3
  try clear T3
  refine oS (fun t k => Jvm.RoadKit.acmp (g := (mkF m 17 #[.val (.ref a1), .val (.int 1), .val (.int 0), .unset] [(.ref (w 1)), (.ref (w 1))])) X4 hx rfl rfl rfl (pc0 := 17) (pc' := 45) (same := true) rfl (hb hby d9_17) rfl (decide_eq_true rfl) (by decide) (by decide) k) ?_
  refine oS (fun t k => XS.aloadN X4.here hx rfl (hb hby d9_45) rfl rfl k) ?_
  refine oS (fun t k => oBp lb_10 X4.here hx rfl (hb hby d9_46) k) ?_
  refine oS (fun t k => XS.iloadN X4.here hx rfl (hb hby d9_48) rfl k) ?_
  obtain ⟨_, _, ⟨T5, L5, k5, n5⟩, -, X5, ⟨Lc5, hQ5, l5, y5, z5⟩, st5⟩ := Jvm.LawKit.callS X4 hx (y := mY6) hown (oM hZ hw 58 rfl) (oM hZ hw 59 rfl) (oM hZ hw 60 rfl) (oM hZ hw 61 rfl) (by decide) (backOf (W := 1) (rm_max10 l Z a0 hw []   h0 n0 O0  ) hZ (oW hw 61 rfl) (oW hw 60 rfl) (by decide) (by decide)) (g := (mkF m 49 #[.val (.ref a1), .val (.int 1), .val (.int 0), .unset] [(.int 1), (.int 10), (.ref a1)])) rfl (by rw [hml]; rfl) (argsL := [(.int 10), (.int 1)]) (rest := [(.ref a1)]) (lenOf pd_1 rfl) rfl (by show 2 * 0 + _ ≤ _; exact Nat.le_of_eq rfl) (hb hby d9_49) (fun _ _ => ⟨rfl, e4, (by decide : 0 + 0 ≤ _), (by decide : 0 + 0 ≤ _)⟩)
  dsimp only [Pt.U, Pt.locs, Pt.cells, Pt.slots] at X5 l5 y5 z5 st5 hQ5
  rw [l5, y5, z5] at X5
  clear l5 y5 z5
  obtain ⟨rfl, Nq5, e5⟩ := hQ5
  have N5 := Fr.app N0 Nq5
  refine oS (fun t k => st5 t k) ?_
  show oG _ _ _ _ _ _ _ (T5.setTop (mkF m 52 #[.val (.ref a1), .val (.int 1), .val (.int 0), .unset] [(.int 10), (.ref a1)]))
  try clear st5 X4 e4
  try clear T4
  obtain ⟨T6, h6, k6, X6, e6, E6, A6, Ex6, O6v, st6⟩ := newRE X5 hx hZ hown (oW hw 62 rfl) (oW hw 63 rfl) e5 (g := (mkF m 52 #[.val (.ref a1), .val (.int 1), .val (.int 0), .unset] [(.int 10), (.ref a1)])) rfl (hb hby d9_52) rfl (by decide) (cap := 10) (by decide) (by decide) (by decide) (by decide) (ad := "[Ljava/lang/Object;") (by decide)
  obtain ⟨b6, g6⟩ : ∃ z, z = h0.size := ⟨_, rfl⟩
  rw [← g6] at A6 Ex6 st6
  have V6 : Arv Z h6 b6 k6 (.object "java/lang/Object") (10 : Int32) [.null, .null, .null, .null, .null, .null, .null, .null, .null, .null] .null := (Arv.new A6 (by decide)).pad (pad_rep [] .null 10)
  have gx6 : n0 ≤ b6 := Nat.le_trans (O0.1 ▸ O0.2.1) (Nat.le_of_eq g6.symm)
  have sz6 : h0.size ≤ b6 := Nat.le_trans (Nat.le_refl _) (Nat.le_of_eq g6.symm)
  have ne_a1_b6 : a1 ≠ b6 := Nat.ne_of_lt (Nat.lt_of_lt_of_le E_a1.lt (Nat.le_of_eq g6.symm))
  have O6 := O0.ext E6
  have Kp6 : Keep h0 h6 [a1] := (Keep.refl h0 [a1]).ext E6
  refine oS (fun t k => st6 t k) ?_
  try clear st6 X5 e5
  refine oS (fun t k => XS.dupX1 X6.here hx rfl (hb hby d9_55) rfl rfl rfl k) ?_
  obtain ⟨T7, h7, X7, e7, W7, st7⟩ := putF X6 hx hZ hown (host := "") (Or.inl (oW hw 25 rfl)) Via.refl e6 (F_elementData_a1.ext E6) (E_a1.ext E6) (Or.inl (oW hw 26 rfl)) (oW hw 2 rfl) (ty := (.array (.object "java/lang/Object"))) (by decide) rfl rfl (g := (mkF m 56 #[.val (.ref a1), .val (.int 1), .val (.int 0), .unset] [(.ref b6), (.ref a1), (.ref b6)])) rfl rfl (hb hby d9_56)
  have O7 := O6.wr W7 g_a1
  have N7 := Fr.snoc X7 N5 g_a1
  have Kp7 : Keep h0 h7 [a1] := Kp6.wr W7 (Or.inl (List.mem_of_getElem? (i := 0) rfl))
  have Fw7 := (F_elementData_a1.ext E6).same W7
  refine oS (fun t k => st7 t k) ?_
  try clear st7 X6 e6
  try clear T6
  exact own_ret (v := some (.ref b6)) X7 (fun h => by rw [Bd.returns] at h; cases h) Bd.notSynchronized (fun fs hr => retOut X7 hx (t := (.array (.object "java/lang/Object"))) Bd.returns rfl (Or.inr (Or.inr (Or.inr (Or.inr ⟨rfl, rfl, rfl⟩)))) (hb hby d9_59) hr) (by rw [e7]; exact ⟨b6, k6, rfl, N7, Kp7, sz6, ((F_modCount_a1.ext E6).other W7 (Or.inr (slot_ne (Or.inl (oW hw 23 rfl)) (Or.inl (oW hw 26 rfl)) (by decide) (t := .int) (t' := (.array (.object "java/lang/Object"))) (by decide) (by decide)))), Fw7, ((F_size_a1.ext E6).other W7 (Or.inr (slot_ne (Or.inl (oW hw 42 rfl)) (Or.inl (oW hw 26 rfl)) (by decide) (t := .int) (t' := (.array (.object "java/lang/Object"))) (by decide) (by decide)))), (V6.other W7 (Ne.symm ne_a1_b6)), O6v, (Ex6.wr W7)⟩) (by decide) (by decide)
theorem d8_0 : decode jdk_38_method_7_code 0 = .ok (.aload_n 0, 1) := by decide +kernel
theorem d8_1 : decode jdk_38_method_7_code 1 = .ok (.aload_n 0, 1) := by decide +kernel
theorem d8_2 : decode jdk_38_method_7_code 2 = .ok (.getfield 48, 3) := by decide +kernel
theorem d8_5 : decode jdk_38_method_7_code 5 = .ok (.iconst 1, 1) := by decide +kernel
theorem li_1 : Int32.ofInt (1) = (1 : Int32) := by decide
theorem d8_6 : decode jdk_38_method_7_code 6 = .ok (.iadd, 1) := by decide +kernel
theorem d8_7 : decode jdk_38_method_7_code 7 = .ok (.invokevirtual 69, 3) := by decide +kernel
theorem pd_2 : parseMethodDescriptor "(I)[Ljava/lang/Object;" = some ⟨[.int], some (.array (.object "java/lang/Object"))⟩ := by decide +kernel
theorem d8_10 : decode jdk_38_method_7_code 10 = .ok (.areturn, 1) := by decide +kernel
abbrev mY8 : MethodName := (⟨"java/util/ArrayList", "grow", "()[Ljava/lang/Object;"⟩ : MethodName)
theorem ef_8_r (m : MethodId) (x0 : Addr) : entryFrame m #[(.ref x0)] 1 = mkF m 0 #[.val (.ref x0)] [] := by first | (simp [entryFrame, mkF, argsToLocals, Value.category]; done) | rfl
abbrev R_5 : Room := { frames := 2, cells := 1, slots := 10, locals := 29 }
def Q_grow (Z : State) (a1 : Addr) (p9 : Int32) (w : Nat → Addr) (h0 : Heap) (n0 : Nat) (v : Option Value) (h : Heap) (L : List Loc) : Prop := ∃ (r : Addr) (k : ClassId), v = some (.ref r) ∧ Fr n0 L ∧ Keep h0 h [a1] ∧ h0.size ≤ r ∧ Fld Z h a1 "java/util/AbstractList" "modCount" "I" (.int p9) ∧ Fld Z h a1 "java/util/ArrayList" "elementData" "[Ljava/lang/Object;" (.ref r) ∧ Fld Z h a1 "java/util/ArrayList" "size" "I" (.int 0) ∧ Arv Z h r k (.object "java/lang/Object") (10 : Int32) [.null, .null, .null, .null, .null, .null, .null, .null, .null, .null] .null ∧ Ovr Z k "java/lang/Object" ∧ Exa Z h r "[Ljava/lang/Object;"
theorem rm_grow (l : Launch) (Z : State) (a0 : Array Value) (hw : ∀ d ∈ tables_1, d.before a0 Z = true) (ws : List Jvm.Cond) (a1 : Addr) (p9 : Int32) (w : Nat → Addr) (h0 : Heap) (n0 : Nat) (O0 : Old Z n0 h0) (W : own_World Z w) (E_a1 : Exa Z h0 a1 "java/util/ArrayList") (g_a1 : n0 ≤ a1) (F_modCount_a1 : Fld Z h0 a1 "java/util/AbstractList" "modCount" "I" (.int p9)) (F_elementData_a1 : Fld Z h0 a1 "java/util/ArrayList" "elementData" "[Ljava/lang/Object;" (.ref (w 1))) (F_size_a1 : Fld Z h0 a1 "java/util/ArrayList" "size" "I" (.int 0)) :
    MetFree l mY8 (head1 (Jvm.Cond.code mY8 jdk_38_method_7_code 1 (some (.array (.object "java/lang/Object"))) :: ws) R_5) (fun a U => a = #[(.ref a1)] ∧ Z.Warmed39 U.vm ∧ U.heap = h0) (fun _ _ _ _ _ => True) (fun _ U o U' => ∃ v L, o = .returned v ∧ Q_grow Z a1 p9 w h0 n0 v U'.heap L ∧ FrameEnd U o U' L R_5.cells R_5.slots) := by
  refine MetFree.of_bodySF (plainFor_of_name pn_5) hisR ?_
  intro p e s m args below meth c s₁ Bd hml0 hP hK
  obtain ⟨rfl, hZ, hh⟩ := hP
  have hx := Bd.exec
  have hby := Bd.bytes
  have hml : c.maxLocals = 1 := hml0
  have hown : s.vm.findClass "java/util/ArrayList" = some m.cls := findClass_of_methodNamed Bd.named
  have hnm := (name_of_methodNamed Bd.named Bd.method).1
  have X0 : Stand p l e R_5 s m #[(.ref a1)] below meth c s₁ [] 0 0 := Stand.of_body Bd
  have e0 : s₁.heap = h0 := by rw [← hh, Bd.state]; rfl
  have N0 := Fr.nil n0
  show oG p e below s (Q_grow Z a1 p9 w h0 n0) R_5.cells R_5.slots _
  refine oS (fun t k => castTop (ef_8_r m a1) k) ?_
  show oG _ _ _ _ _ _ _ (s₁.setTop (mkF m 0 #[.val (.ref a1)] []))
  refine oS (fun t k => XS.aloadN X0.here hx rfl (hb hby d8_0) rfl rfl k) ?_
  refine oS (fun t k => XS.aloadN X0.here hx rfl (hb hby d8_1) rfl rfl k) ?_
  obtain ⟨T1, X1, e1, st1⟩ := getF X0 hx hZ hown (host := "") (Or.inl (oW hw 41 rfl)) Via.refl e0 F_size_a1 (g := (mkF m 2 #[.val (.ref a1)] [(.ref a1), (.ref a1)])) rfl rfl (hb hby d8_2)
  refine oS (fun t k => st1 t k) ?_
  try clear st1
  refine oS (fun t k => oIc li_1 X1.here hx rfl (hb hby d8_5) k) ?_
  refine oS (S' := (T1.setTop (mkF m 7 #[.val (.ref a1)] [(.int 1), (.ref a1)]))) (fun t k => XS.iadd X1.here hx rfl (hb hby d8_6) rfl (by rw [show (0 : Int32) + (1 : Int32) = (1 : Int32) from by decide]; exact k)) ?_
  obtain ⟨cq2, qa2, qb2⟩ := E_a1.cell
  obtain ⟨_, _, ⟨T2, L2, k2, n2⟩, -, X2, ⟨Lc2, hQ2, l2, y2, z2⟩, st2⟩ := X1.privateBack hx (y := mY7) hown (oM hZ hw 53 rfl) (oM hZ hw 54 rfl) (oM hZ hw 56 rfl) (Cond.privateMethod_at (mvP hZ (oW hw 55 rfl) (args := #[]))) (oM hZ hw 57 rfl) (by decide) (backOf (W := 0) (rm_growI l Z a0 hw [] a1 p9 w h0 n0 O0 W E_a1 g_a1 F_modCount_a1 F_elementData_a1 F_size_a1) hZ (oW hw 57 rfl) (oW hw 3 rfl) (by decide) (by decide)) (g := (mkF m 7 #[.val (.ref a1)] [(.int 1), (.ref a1)])) rfl (by rw [hml]; rfl) (Steps.refl _) (a := a1) (by rw [e1]; exact qa2) qb2 (argsL := [(.int 1)]) (rest := []) (lenOf pd_2 rfl) rfl (by show 2 * 0 + _ ≤ _; exact Nat.le_of_eq rfl) (hb hby d8_7) (fun _ _ => ⟨rfl, e1, (by decide : 0 + 1 ≤ _), (by decide : 0 + 10 ≤ _)⟩)
  dsimp only [Pt.U, Pt.locs, Pt.cells, Pt.slots] at X2 l2 y2 z2 st2 hQ2
  rw [l2, y2, z2] at X2
  clear l2 y2 z2
  obtain ⟨r2, x2_k, rfl, Nq2, K2, sr2, P2_0, P2_1, P2_2, P2_3, P2_4, P2_5⟩ := hQ2
  have N2 := Fr.app N0 Nq2
  have O2 := O0.keep K2 (allS g_a1 all0)
  have Kp2 : Keep h0 T2.heap [a1] := (Keep.refl h0 [a1]).trans K2 (allS (Or.inl (List.mem_of_getElem? (i := 0) rfl)) all0)
  have gr2 : n0 ≤ r2 := Nat.le_trans (O0.1 ▸ O0.2.1) sr2
  have ne_a1_r2 : a1 ≠ r2 := Nat.ne_of_lt (Nat.lt_of_lt_of_le E_a1.lt sr2)
  have szrr2 : h0.size ≤ r2 := Nat.le_trans (Nat.le_refl _) sr2
  refine oS (fun t k => st2.trans k) ?_
  show oG _ _ _ _ _ _ _ (T2.setTop (mkF m 10 #[.val (.ref a1)] [(.ref r2)]))
  try clear st2 X1 e1
  try clear T1
  exact own_ret (v := some (.ref r2)) X2 (fun h => by rw [Bd.returns] at h; cases h) Bd.notSynchronized (fun fs hr => retOut X2 hx (t := (.array (.object "java/lang/Object"))) Bd.returns rfl (Or.inr (Or.inr (Or.inr (Or.inr ⟨rfl, rfl, rfl⟩)))) (hb hby d8_10) hr) (by exact ⟨r2, x2_k, rfl, N2, Kp2, szrr2, P2_0, P2_1, P2_2, P2_3, P2_4, P2_5⟩) (by decide) (by decide)
theorem d7_0 : decode jdk_38_method_24_code 0 = .ok (.iload_n 3, 1) := by decide +kernel
theorem d7_1 : decode jdk_38_method_24_code 1 = .ok (.aload_n 2, 1) := by decide +kernel
theorem d7_2 : decode jdk_38_method_24_code 2 = .ok (.arraylength, 1) := by decide +kernel
theorem d7_3 : decode jdk_38_method_24_code 3 = .ok (.if_icmp .ne 8, 3) := by decide +kernel
theorem d7_6 : decode jdk_38_method_24_code 6 = .ok (.aload_n 0, 1) := by decide +kernel
theorem d7_7 : decode jdk_38_method_24_code 7 = .ok (.invokevirtual 129, 3) := by decide +kernel
theorem pd_3 : parseMethodDescriptor "()[Ljava/lang/Object;" = some ⟨[], some (.array (.object "java/lang/Object"))⟩ := by decide +kernel
theorem d7_10 : decode jdk_38_method_24_code 10 = .ok (.astore_n 2, 1) := by decide +kernel
theorem d7_11 : decode jdk_38_method_24_code 11 = .ok (.aload_n 2, 1) := by decide +kernel
theorem d7_12 : decode jdk_38_method_24_code 12 = .ok (.iload_n 3, 1) := by decide +kernel
theorem d7_13 : decode jdk_38_method_24_code 13 = .ok (.aload_n 1, 1) := by decide +kernel
theorem d7_14 : decode jdk_38_method_24_code 14 = .ok (.aastore, 1) := by decide +kernel
theorem d7_15 : decode jdk_38_method_24_code 15 = .ok (.aload_n 0, 1) := by decide +kernel
theorem d7_16 : decode jdk_38_method_24_code 16 = .ok (.iload_n 3, 1) := by decide +kernel
theorem d7_17 : decode jdk_38_method_24_code 17 = .ok (.iconst 1, 1) := by decide +kernel
theorem d7_18 : decode jdk_38_method_24_code 18 = .ok (.iadd, 1) := by decide +kernel
theorem d7_19 : decode jdk_38_method_24_code 19 = .ok (.putfield 48, 3) := by decide +kernel
theorem d7_22 : decode jdk_38_method_24_code 22 = .ok (.return_, 1) := by decide +kernel
abbrev mY9 : MethodName := (⟨"java/util/ArrayList", "add", "(Ljava/lang/Object;[Ljava/lang/Object;I)V"⟩ : MethodName)
theorem ef_7_rrri_0 (m : MethodId) (x0 : Addr) (x1 : Addr) (x2 : Addr) : entryFrame m #[(.ref x0), (.ref x1), (.ref x2), (.int 0)] 4 = mkF m 0 #[.val (.ref x0), .val (.ref x1), .val (.ref x2), .val (.int 0)] [] := by first | (simp [entryFrame, mkF, argsToLocals, Value.category]; done) | rfl
abbrev R_6 : Room := { frames := 3, cells := 1, slots := 10, locals := 41 }
def Q_addpI0 (Z : State) (a1 : Addr) (p9 : Int32) (a2 : Addr) (w : Nat → Addr) (h0 : Heap) (n0 : Nat) (v : Option Value) (h : Heap) (L : List Loc) : Prop := ∃ (r : Addr) (k : ClassId), v = none ∧ Fr n0 L ∧ Keep h0 h [a1] ∧ h0.size ≤ r ∧ Fld Z h a1 "java/util/AbstractList" "modCount" "I" (.int p9) ∧ Fld Z h a1 "java/util/ArrayList" "elementData" "[Ljava/lang/Object;" (.ref r) ∧ Fld Z h a1 "java/util/ArrayList" "size" "I" (.int 1) ∧ Arv Z h r k (.object "java/lang/Object") (10 : Int32) [(.ref a2), .null, .null, .null, .null, .null, .null, .null, .null, .null] .null ∧ Ovr Z k "java/lang/Object" ∧ Exa Z h r "[Ljava/lang/Object;"
theorem rm_addpI0 (l : Launch) (Z : State) (a0 : Array Value) (hw : ∀ d ∈ tables_1, d.before a0 Z = true) (ws : List Jvm.Cond) (a1 : Addr) (p9 : Int32) (a2 : Addr) (w : Nat → Addr) (h0 : Heap) (n0 : Nat) (O0 : Old Z n0 h0) (W : own_World Z w) (E_a1 : Exa Z h0 a1 "java/util/ArrayList") (g_a1 : n0 ≤ a1) (E_a2 : Exa Z h0 a2 "java/lang/Integer") (F_modCount_a1 : Fld Z h0 a1 "java/util/AbstractList" "modCount" "I" (.int p9)) (F_elementData_a1 : Fld Z h0 a1 "java/util/ArrayList" "elementData" "[Ljava/lang/Object;" (.ref (w 1))) (F_size_a1 : Fld Z h0 a1 "java/util/ArrayList" "size" "I" (.int 0)) :
    MetFree l mY9 (head1 (Jvm.Cond.code mY9 jdk_38_method_24_code 4 none :: ws) R_6) (fun a U => a = #[(.ref a1), (.ref a2), (.ref (w 1)), (.int 0)] ∧ Z.Warmed39 U.vm ∧ U.heap = h0) (fun _ _ _ _ _ => True) (fun _ U o U' => ∃ v L, o = .returned v ∧ Q_addpI0 Z a1 p9 a2 w h0 n0 v U'.heap L ∧ FrameEnd U o U' L R_6.cells R_6.slots) := by
  refine MetFree.of_bodySF (plainFor_of_name pn_5) hisR ?_
  intro p e s m args below meth c s₁ Bd hml0 hP hK
  obtain ⟨rfl, hZ, hh⟩ := hP
  have hx := Bd.exec
  have hby := Bd.bytes
  have hml : c.maxLocals = 4 := hml0
  have hown : s.vm.findClass "java/util/ArrayList" = some m.cls := findClass_of_methodNamed Bd.named
  have hnm := (name_of_methodNamed Bd.named Bd.method).1
  have X0 : Stand p l e R_6 s m #[(.ref a1), (.ref a2), (.ref (w 1)), (.int 0)] below meth c s₁ [] 0 0 := Stand.of_body Bd
  have e0 : s₁.heap = h0 := by rw [← hh, Bd.state]; rfl
  have N0 := Fr.nil n0
  show oG p e below s (Q_addpI0 Z a1 p9 a2 w h0 n0) R_6.cells R_6.slots _
  refine oS (fun t k => castTop (ef_7_rrri_0 m a1 a2 (w 1)) k) ?_
  show oG _ _ _ _ _ _ _ (s₁.setTop (mkF m 0 #[.val (.ref a1), .val (.ref a2), .val (.ref (w 1)), .val (.int 0)] []))
  refine oS (fun t k => XS.iloadN X0.here hx rfl (hb hby d7_0) rfl k) ?_
  refine oS (fun t k => XS.aloadN X0.here hx rfl (hb hby d7_1) rfl rfl k) ?_
  obtain ⟨cl1, Ar1, -, Sz1, Ng1, -, -⟩ := id ((wV1 W).ext O0.2)
  refine oS (S' := (s₁.setTop (mkF m 3 #[.val (.ref a1), .val (.ref a2), .val (.ref (w 1)), .val (.int 0)] [(.int 0), (.int 0)]))) (fun t k => X0.arraylength hx (by rw [e0]; exact Ar1.1) (State.isArrayOf_alike hZ.alike Ar1.2.1) (g := (mkF m 2 #[.val (.ref a1), .val (.ref a2), .val (.ref (w 1)), .val (.int 0)] [(.ref (w 1)), (.int 0)])) rfl rfl (hb hby d7_2) t (by rw [len_of Sz1 Ng1]; exact k)) ?_
  refine oS (fun t k => XS.icmpNo X0.here hx rfl (hb hby d7_3) rfl (teq (by decide)).2 k) ?_
  refine oS (fun t k => XS.aloadN X0.here hx rfl (hb hby d7_6) rfl rfl k) ?_
  obtain ⟨cq2, qa2, qb2⟩ := E_a1.cell
  obtain ⟨_, _, ⟨T2, L2, k2, n2⟩, -, X2, ⟨Lc2, hQ2, l2, y2, z2⟩, st2⟩ := X0.privateBack hx (y := mY8) hown (oM hZ hw 48 rfl) (oM hZ hw 49 rfl) (oM hZ hw 51 rfl) (Cond.privateMethod_at (mvP hZ (oW hw 50 rfl) (args := #[]))) (oM hZ hw 52 rfl) (by decide) (backOf (W := 0) (rm_grow l Z a0 hw [] a1 p9 w h0 n0 O0 W E_a1 g_a1 F_modCount_a1 F_elementData_a1 F_size_a1) hZ (oW hw 52 rfl) (oW hw 3 rfl) (by decide) (by decide)) (g := (mkF m 7 #[.val (.ref a1), .val (.ref a2), .val (.ref (w 1)), .val (.int 0)] [(.ref a1)])) rfl (by rw [hml]; rfl) (Steps.refl _) (a := a1) (by rw [e0]; exact qa2) qb2 (argsL := []) (rest := []) (lenOf pd_3 rfl) rfl (by show 2 * 0 + _ ≤ _; exact Nat.le_of_eq rfl) (hb hby d7_7) (fun _ _ => ⟨rfl, e0, (by decide : 0 + 1 ≤ _), (by decide : 0 + 10 ≤ _)⟩)
  dsimp only [Pt.U, Pt.locs, Pt.cells, Pt.slots] at X2 l2 y2 z2 st2 hQ2
  rw [l2, y2, z2] at X2
  clear l2 y2 z2
  obtain ⟨r2, x2_k, rfl, Nq2, K2, sr2, P2_0, P2_1, P2_2, P2_3, P2_4, P2_5⟩ := hQ2
  have N2 := Fr.app N0 Nq2
  have O2 := O0.keep K2 (allS g_a1 all0)
  have Kp2 : Keep h0 T2.heap [a1] := (Keep.refl h0 [a1]).trans K2 (allS (Or.inl (List.mem_of_getElem? (i := 0) rfl)) all0)
  have gr2 : n0 ≤ r2 := Nat.le_trans (O0.1 ▸ O0.2.1) sr2
  have ne_a1_r2 : a1 ≠ r2 := Nat.ne_of_lt (Nat.lt_of_lt_of_le E_a1.lt sr2)
  have szrr2 : h0.size ≤ r2 := Nat.le_trans (Nat.le_refl _) sr2
  refine oS (fun t k => st2.trans k) ?_
  show oG _ _ _ _ _ _ _ (T2.setTop (mkF m 10 #[.val (.ref a1), .val (.ref a2), .val (.ref (w 1)), .val (.int 0)] [(.ref r2)]))
  try clear st2
  refine oS (fun t k => XS.astoreN X2.here hx rfl (hb hby d7_10) rfl rfl (l' := #[.val (.ref a1), .val (.ref a2), .val (.ref r2), .val (.int 0)]) rfl k) ?_
  refine oS (fun t k => XS.aloadN X2.here hx rfl (hb hby d7_11) rfl rfl k) ?_
  refine oS (fun t k => XS.iloadN X2.here hx rfl (hb hby d7_12) rfl k) ?_
  refine oS (fun t k => XS.aloadN X2.here hx rfl (hb hby d7_13) rfl rfl k) ?_
  obtain ⟨cl3, Ar3, qk3, Sz3, Ng3, Ha3, Gf3⟩ := id P2_3
  have hin3 : ¬ ((0 : Int32) < 0 ∨ cl3.slots.size ≤ ((0 : Int32)).toNatClampNeg) := inb_of Sz3 ⟨by decide, by decide⟩
  obtain ⟨T4, h4, X4, e4, W4, st4⟩ := stR X2 hx hZ rfl Ar3 (j := (0 : Int32)) hin3 rfl (Sto.ofV Ar3 qk3 P2_4 (Ins.of_exa (E_a2.keep K2) (oW hw 64 rfl))) (g := (mkF m 14 #[.val (.ref a1), .val (.ref a2), .val (.ref r2), .val (.int 0)] [(.ref a2), (.int 0), (.ref r2)])) rfl rfl (hb hby d7_14)
  have O4 := O2.wr W4 gr2
  have N4 := Fr.snoc X4 N2 gr2
  have Kp4 : Keep h0 h4 [a1] := Kp2.wr W4 (Or.inr szrr2)
  have V4 : Arv Z h4 r2 x2_k (.object "java/lang/Object") (10 : Int32) [(.ref a2), .null, .null, .null, .null, .null, .null, .null, .null, .null] .null := Arv.set Ar3 qk3 Sz3 Ng3 Ha3 Gf3 rfl W4 0 rfl (Nat.le_of_ble_eq_true rfl)
  clear hin3 Gf3 Ha3 Ng3 Sz3 qk3 Ar3 cl3
  refine oS (fun t k => st4 t k) ?_
  try clear st4 X2 e2
  refine oS (fun t k => XS.aloadN X4.here hx rfl (hb hby d7_15) rfl rfl k) ?_
  refine oS (fun t k => XS.iloadN X4.here hx rfl (hb hby d7_16) rfl k) ?_
  show oG _ _ _ _ _ _ _ (T4.setTop (mkF m 17 #[.val (.ref a1), .val (.ref a2), .val (.ref r2), .val (.int 0)] [(.int 0), (.ref a1)]))
  refine oS (fun t k => oIc li_1 X4.here hx rfl (hb hby d7_17) k) ?_
  refine oS (S' := (T4.setTop (mkF m 19 #[.val (.ref a1), .val (.ref a2), .val (.ref r2), .val (.int 0)] [(.int 1), (.ref a1)]))) (fun t k => XS.iadd X4.here hx rfl (hb hby d7_18) rfl (by rw [show (0 : Int32) + (1 : Int32) = (1 : Int32) from by decide]; exact k)) ?_
  obtain ⟨T5, h5, X5, e5, W5, st5⟩ := putF X4 hx hZ hown (host := "") (Or.inl (oW hw 41 rfl)) Via.refl e4 (P2_2.other W4 (Or.inl ne_a1_r2)) ((E_a1.keep K2).wr W4) (Or.inl (oW hw 42 rfl)) (oW hw 2 rfl) (ty := .int) (by decide) rfl rfl (g := (mkF m 19 #[.val (.ref a1), .val (.ref a2), .val (.ref r2), .val (.int 0)] [(.int 1), (.ref a1)])) rfl rfl (hb hby d7_19)
  have O5 := O4.wr W5 g_a1
  have N5 := Fr.snoc X5 N4 g_a1
  have Kp5 : Keep h0 h5 [a1] := Kp4.wr W5 (Or.inl (List.mem_of_getElem? (i := 0) rfl))
  have Fw5 := (P2_2.other W4 (Or.inl ne_a1_r2)).same W5
  refine oS (fun t k => st5 t k) ?_
  try clear st5 X4 e4
  try clear T4
  exact own_ret (v := none) X5 (fun _ => rfl) Bd.notSynchronized (fun fs hr => X5.returnOut hx Bd.returns (hb hby d7_22) hr) (by rw [e5]; exact ⟨r2, x2_k, rfl, N5, Kp5, szrr2, ((P2_0.other W4 (Or.inl ne_a1_r2)).other W5 (Or.inr (slot_ne (Or.inl (oW hw 23 rfl)) (Or.inl (oW hw 42 rfl)) (by decide) (t := .int) (t' := .int) (by decide) (by decide)))), ((P2_1.other W4 (Or.inl ne_a1_r2)).other W5 (Or.inr (slot_ne (Or.inl (oW hw 26 rfl)) (Or.inl (oW hw 42 rfl)) (by decide) (t := (.array (.object "java/lang/Object"))) (t' := .int) (by decide) (by decide)))), Fw5, (V4.other W5 (Ne.symm ne_a1_r2)), P2_4, ((P2_5.wr W4).wr W5)⟩) (by decide) (by decide)
theorem d6_0 : decode jdk_38_method_25_code 0 = .ok (.aload_n 0, 1) := by decide +kernel
theorem d6_1 : decode jdk_38_method_25_code 1 = .ok (.dup, 1) := by decide +kernel
theorem d6_2 : decode jdk_38_method_25_code 2 = .ok (.getfield 63, 3) := by decide +kernel
theorem d6_5 : decode jdk_38_method_25_code 5 = .ok (.iconst 1, 1) := by decide +kernel
theorem d6_6 : decode jdk_38_method_25_code 6 = .ok (.iadd, 1) := by decide +kernel
theorem d6_7 : decode jdk_38_method_25_code 7 = .ok (.putfield 63, 3) := by decide +kernel
theorem d6_10 : decode jdk_38_method_25_code 10 = .ok (.aload_n 0, 1) := by decide +kernel
theorem d6_11 : decode jdk_38_method_25_code 11 = .ok (.aload_n 1, 1) := by decide +kernel
theorem d6_12 : decode jdk_38_method_25_code 12 = .ok (.aload_n 0, 1) := by decide +kernel
theorem d6_13 : decode jdk_38_method_25_code 13 = .ok (.getfield 9, 3) := by decide +kernel
theorem d6_16 : decode jdk_38_method_25_code 16 = .ok (.aload_n 0, 1) := by decide +kernel
theorem d6_17 : decode jdk_38_method_25_code 17 = .ok (.getfield 48, 3) := by decide +kernel
theorem d6_20 : decode jdk_38_method_25_code 20 = .ok (.invokevirtual 131, 3) := by decide +kernel
theorem pd_4 : parseMethodDescriptor "(Ljava/lang/Object;[Ljava/lang/Object;I)V" = some ⟨[(.object "java/lang/Object"), (.array (.object "java/lang/Object")), .int], none⟩ := by decide +kernel
theorem d6_23 : decode jdk_38_method_25_code 23 = .ok (.iconst 1, 1) := by decide +kernel
theorem d6_24 : decode jdk_38_method_25_code 24 = .ok (.ireturn, 1) := by decide +kernel
abbrev mY10 : MethodName := (⟨"java/util/ArrayList", "add", "(Ljava/lang/Object;)Z"⟩ : MethodName)
theorem ef_6_rr (m : MethodId) (x0 : Addr) (x1 : Addr) : entryFrame m #[(.ref x0), (.ref x1)] 2 = mkF m 0 #[.val (.ref x0), .val (.ref x1)] [] := by first | (simp [entryFrame, mkF, argsToLocals, Value.category]; done) | rfl
abbrev R_7 : Room := { frames := 4, cells := 1, slots := 10, locals := 56 }
def Q_addI0 (Z : State) (a1 : Addr) (p9 : Int32) (a2 : Addr) (w : Nat → Addr) (h0 : Heap) (n0 : Nat) (v : Option Value) (h : Heap) (L : List Loc) : Prop := ∃ (r : Addr) (k : ClassId), v = some (.int 1) ∧ Fr n0 L ∧ Keep h0 h [a1] ∧ h0.size ≤ r ∧ Fld Z h a1 "java/util/AbstractList" "modCount" "I" (.int (p9 + (1 : Int32))) ∧ Fld Z h a1 "java/util/ArrayList" "elementData" "[Ljava/lang/Object;" (.ref r) ∧ Fld Z h a1 "java/util/ArrayList" "size" "I" (.int 1) ∧ Arv Z h r k (.object "java/lang/Object") (10 : Int32) [(.ref a2), .null, .null, .null, .null, .null, .null, .null, .null, .null] .null ∧ Ovr Z k "java/lang/Object" ∧ Exa Z h r "[Ljava/lang/Object;"
theorem rm_addI0 (l : Launch) (Z : State) (a0 : Array Value) (hw : ∀ d ∈ tables_1, d.before a0 Z = true) (ws : List Jvm.Cond) (a1 : Addr) (p9 : Int32) (a2 : Addr) (w : Nat → Addr) (h0 : Heap) (n0 : Nat) (O0 : Old Z n0 h0) (W : own_World Z w) (E_a1 : Exa Z h0 a1 "java/util/ArrayList") (g_a1 : n0 ≤ a1) (E_a2 : Exa Z h0 a2 "java/lang/Integer") (F_modCount_a1 : Fld Z h0 a1 "java/util/AbstractList" "modCount" "I" (.int p9)) (F_elementData_a1 : Fld Z h0 a1 "java/util/ArrayList" "elementData" "[Ljava/lang/Object;" (.ref (w 1))) (F_size_a1 : Fld Z h0 a1 "java/util/ArrayList" "size" "I" (.int 0)) :
    MetFree l mY10 (head1 (Jvm.Cond.code mY10 jdk_38_method_25_code 2 (some .boolean) :: ws) R_7) (fun a U => a = #[(.ref a1), (.ref a2)] ∧ Z.Warmed39 U.vm ∧ U.heap = h0) (fun _ _ _ _ _ => True) (fun _ U o U' => ∃ v L, o = .returned v ∧ Q_addI0 Z a1 p9 a2 w h0 n0 v U'.heap L ∧ FrameEnd U o U' L R_7.cells R_7.slots) := by
  refine MetFree.of_bodySF (plainFor_of_name pn_5) hisR ?_
  intro p e s m args below meth c s₁ Bd hml0 hP hK
  obtain ⟨rfl, hZ, hh⟩ := hP
  have hx := Bd.exec
  have hby := Bd.bytes
  have hml : c.maxLocals = 2 := hml0
  have hown : s.vm.findClass "java/util/ArrayList" = some m.cls := findClass_of_methodNamed Bd.named
  have hnm := (name_of_methodNamed Bd.named Bd.method).1
  have X0 : Stand p l e R_7 s m #[(.ref a1), (.ref a2)] below meth c s₁ [] 0 0 := Stand.of_body Bd
  have e0 : s₁.heap = h0 := by rw [← hh, Bd.state]; rfl
  have N0 := Fr.nil n0
  show oG p e below s (Q_addI0 Z a1 p9 a2 w h0 n0) R_7.cells R_7.slots _
  refine oS (fun t k => castTop (ef_6_rr m a1 a2) k) ?_
  show oG _ _ _ _ _ _ _ (s₁.setTop (mkF m 0 #[.val (.ref a1), .val (.ref a2)] []))
  refine oS (fun t k => XS.aloadN X0.here hx rfl (hb hby d6_0) rfl rfl k) ?_
  refine oS (fun t k => XS.dup X0.here hx rfl (hb hby d6_1) rfl rfl k) ?_
  obtain ⟨T1, X1, e1, st1⟩ := getF X0 hx hZ hown (host := "") (Or.inl (oW hw 39 rfl)) (Via.of (oW hw 40 rfl)) e0 F_modCount_a1 (g := (mkF m 2 #[.val (.ref a1), .val (.ref a2)] [(.ref a1), (.ref a1)])) rfl rfl (hb hby d6_2)
  refine oS (fun t k => st1 t k) ?_
  try clear st1
  refine oS (fun t k => oIc li_1 X1.here hx rfl (hb hby d6_5) k) ?_
  refine oS (fun t k => XS.iadd X1.here hx rfl (hb hby d6_6) rfl k) ?_
  obtain ⟨T2, h2, X2, e2, W2, st2⟩ := putF X1 hx hZ hown (host := "") (Or.inl (oW hw 39 rfl)) (Via.of (oW hw 40 rfl)) e1 F_modCount_a1 E_a1 (Or.inl (oW hw 23 rfl)) (oW hw 2 rfl) (ty := .int) (by decide) rfl rfl (g := (mkF m 7 #[.val (.ref a1), .val (.ref a2)] [(.int (p9 + (1 : Int32))), (.ref a1)])) rfl rfl (hb hby d6_7)
  have O2 := O0.wr W2 g_a1
  have N2 := Fr.snoc X2 N0 g_a1
  have Kp2 : Keep h0 h2 [a1] := (Keep.refl h0 [a1]).wr W2 (Or.inl (List.mem_of_getElem? (i := 0) rfl))
  have Fw2 := F_modCount_a1.same W2
  refine oS (fun t k => st2 t k) ?_
  try clear st2 X1 e1
  try clear T1
  refine oS (fun t k => XS.aloadN X2.here hx rfl (hb hby d6_10) rfl rfl k) ?_
  show oG _ _ _ _ _ _ _ (T2.setTop (mkF m 11 #[.val (.ref a1), .val (.ref a2)] [(.ref a1)]))
  refine oS (fun t k => XS.aloadN X2.here hx rfl (hb hby d6_11) rfl rfl k) ?_
  refine oS (fun t k => XS.aloadN X2.here hx rfl (hb hby d6_12) rfl rfl k) ?_
  obtain ⟨T3, X3, e3, st3⟩ := getF X2 hx hZ hown (host := "") (Or.inl (oW hw 25 rfl)) Via.refl e2 (F_elementData_a1.other W2 (Or.inr (slot_ne (Or.inl (oW hw 26 rfl)) (Or.inl (oW hw 23 rfl)) (by decide) (t := (.array (.object "java/lang/Object"))) (t' := .int) (by decide) (by decide)))) (g := (mkF m 13 #[.val (.ref a1), .val (.ref a2)] [(.ref a1), (.ref a2), (.ref a1)])) rfl rfl (hb hby d6_13)
  refine oS (fun t k => st3 t k) ?_
  try clear st3 X2 e2
  try clear T2
  refine oS (fun t k => XS.aloadN X3.here hx rfl (hb hby d6_16) rfl rfl k) ?_
  obtain ⟨T4, X4, e4, st4⟩ := getF X3 hx hZ hown (host := "") (Or.inl (oW hw 41 rfl)) Via.refl e3 (F_size_a1.other W2 (Or.inr (slot_ne (Or.inl (oW hw 42 rfl)) (Or.inl (oW hw 23 rfl)) (by decide) (t := .int) (t' := .int) (by decide) (by decide)))) (g := (mkF m 17 #[.val (.ref a1), .val (.ref a2)] [(.ref a1), (.ref (w 1)), (.ref a2), (.ref a1)])) rfl rfl (hb hby d6_17)
  refine oS (fun t k => st4 t k) ?_
  try clear st4 X3 e3
  try clear T3
  obtain ⟨cq5, qa5, qb5⟩ := (E_a1.wr W2).cell
  obtain ⟨_, _, ⟨T5, L5, k5, n5⟩, -, X5, ⟨Lc5, hQ5, l5, y5, z5⟩, st5⟩ := X4.privateBack hx (y := mY9) hown (oM hZ hw 43 rfl) (oM hZ hw 44 rfl) (oM hZ hw 46 rfl) (Cond.privateMethod_at (mvP hZ (oW hw 45 rfl) (args := #[]))) (oM hZ hw 47 rfl) (by decide) (backOf (W := 0) (rm_addpI0 l Z a0 hw [] a1 (p9 + (1 : Int32)) a2 w h2 n0 O2 W (E_a1.wr W2) g_a1 (E_a2.wr W2) Fw2 (F_elementData_a1.other W2 (Or.inr (slot_ne (Or.inl (oW hw 26 rfl)) (Or.inl (oW hw 23 rfl)) (by decide) (t := (.array (.object "java/lang/Object"))) (t' := .int) (by decide) (by decide)))) (F_size_a1.other W2 (Or.inr (slot_ne (Or.inl (oW hw 42 rfl)) (Or.inl (oW hw 23 rfl)) (by decide) (t := .int) (t' := .int) (by decide) (by decide))))) hZ (oW hw 47 rfl) (oW hw 3 rfl) (by decide) (by decide)) (g := (mkF m 20 #[.val (.ref a1), .val (.ref a2)] [(.int 0), (.ref (w 1)), (.ref a2), (.ref a1)])) rfl (by rw [hml]; rfl) (Steps.refl _) (a := a1) (by rw [e4]; exact qa5) qb5 (argsL := [(.ref a2), (.ref (w 1)), (.int 0)]) (rest := []) (lenOf pd_4 rfl) rfl (by show 2 * 0 + _ ≤ _; exact Nat.le_of_eq rfl) (hb hby d6_20) (fun _ _ => ⟨rfl, e4, (by decide : 0 + 1 ≤ _), (by decide : 0 + 10 ≤ _)⟩)
  dsimp only [Pt.U, Pt.locs, Pt.cells, Pt.slots] at X5 l5 y5 z5 st5 hQ5
  rw [l5, y5, z5] at X5
  clear l5 y5 z5
  obtain ⟨r5, x5_k, rfl, Nq5, K5, sr5, P5_0, P5_1, P5_2, P5_3, P5_4, P5_5⟩ := hQ5
  have N5 := Fr.app N2 Nq5
  have O5 := O2.keep K5 (allS g_a1 all0)
  have Kp5 : Keep h0 T5.heap [a1] := Kp2.trans K5 (allS (Or.inl (List.mem_of_getElem? (i := 0) rfl)) all0)
  have gr5 : n0 ≤ r5 := Nat.le_trans (O2.1 ▸ O2.2.1) sr5
  have ne_a1_r5 : a1 ≠ r5 := Nat.ne_of_lt (Nat.lt_of_lt_of_le (E_a1.wr W2).lt sr5)
  have szrr5 : h0.size ≤ r5 := Nat.le_trans Kp2.1 sr5
  refine oS (fun t k => st5.trans k) ?_
  show oG _ _ _ _ _ _ _ (T5.setTop (mkF m 23 #[.val (.ref a1), .val (.ref a2)] []))
  try clear st5 X4 e4
  try clear T4
  refine oS (fun t k => oIc li_1 X5.here hx rfl (hb hby d6_23) k) ?_
  exact own_ret (v := some (.int 1)) X5 (fun h => by rw [Bd.returns] at h; cases h) Bd.notSynchronized (fun fs hr => retN X5 hx (t := .boolean) Bd.returns (by simp) (hb hby d6_24) hr) (by exact ⟨r5, x5_k, rfl, N5, Kp5, szrr5, P5_0, P5_1, P5_2, P5_3, P5_4, P5_5⟩) (by decide) (by decide)
def Q_addpS0 (Z : State) (a1 : Addr) (p9 : Int32) (a2 : Addr) (w : Nat → Addr) (h0 : Heap) (n0 : Nat) (v : Option Value) (h : Heap) (L : List Loc) : Prop := ∃ (r : Addr) (k : ClassId), v = none ∧ Fr n0 L ∧ Keep h0 h [a1] ∧ h0.size ≤ r ∧ Fld Z h a1 "java/util/AbstractList" "modCount" "I" (.int p9) ∧ Fld Z h a1 "java/util/ArrayList" "elementData" "[Ljava/lang/Object;" (.ref r) ∧ Fld Z h a1 "java/util/ArrayList" "size" "I" (.int 1) ∧ Arv Z h r k (.object "java/lang/Object") (10 : Int32) [(.ref a2), .null, .null, .null, .null, .null, .null, .null, .null, .null] .null ∧ Ovr Z k "java/lang/Object" ∧ Exa Z h r "[Ljava/lang/Object;"
theorem rm_addpS0 (l : Launch) (Z : State) (a0 : Array Value) (hw : ∀ d ∈ tables_1, d.before a0 Z = true) (ws : List Jvm.Cond) (a1 : Addr) (p9 : Int32) (a2 : Addr) (w : Nat → Addr) (h0 : Heap) (n0 : Nat) (O0 : Old Z n0 h0) (W : own_World Z w) (E_a1 : Exa Z h0 a1 "java/util/ArrayList") (g_a1 : n0 ≤ a1) (E_a2 : Exa Z h0 a2 "com/example/shiftweave/shiftweave/rostering/ShiftRequest") (F_modCount_a1 : Fld Z h0 a1 "java/util/AbstractList" "modCount" "I" (.int p9)) (F_elementData_a1 : Fld Z h0 a1 "java/util/ArrayList" "elementData" "[Ljava/lang/Object;" (.ref (w 1))) (F_size_a1 : Fld Z h0 a1 "java/util/ArrayList" "size" "I" (.int 0)) :
    MetFree l mY9 (head1 (Jvm.Cond.code mY9 jdk_38_method_24_code 4 none :: ws) R_6) (fun a U => a = #[(.ref a1), (.ref a2), (.ref (w 1)), (.int 0)] ∧ Z.Warmed39 U.vm ∧ U.heap = h0) (fun _ _ _ _ _ => True) (fun _ U o U' => ∃ v L, o = .returned v ∧ Q_addpS0 Z a1 p9 a2 w h0 n0 v U'.heap L ∧ FrameEnd U o U' L R_6.cells R_6.slots) := by
  refine MetFree.of_bodySF (plainFor_of_name pn_5) hisR ?_
  intro p e s m args below meth c s₁ Bd hml0 hP hK
  obtain ⟨rfl, hZ, hh⟩ := hP
  have hx := Bd.exec
  have hby := Bd.bytes
  have hml : c.maxLocals = 4 := hml0
  have hown : s.vm.findClass "java/util/ArrayList" = some m.cls := findClass_of_methodNamed Bd.named
  have hnm := (name_of_methodNamed Bd.named Bd.method).1
  have X0 : Stand p l e R_6 s m #[(.ref a1), (.ref a2), (.ref (w 1)), (.int 0)] below meth c s₁ [] 0 0 := Stand.of_body Bd
  have e0 : s₁.heap = h0 := by rw [← hh, Bd.state]; rfl
  have N0 := Fr.nil n0
  show oG p e below s (Q_addpS0 Z a1 p9 a2 w h0 n0) R_6.cells R_6.slots _
  refine oS (fun t k => castTop (ef_7_rrri_0 m a1 a2 (w 1)) k) ?_
  show oG _ _ _ _ _ _ _ (s₁.setTop (mkF m 0 #[.val (.ref a1), .val (.ref a2), .val (.ref (w 1)), .val (.int 0)] []))
  refine oS (fun t k => XS.iloadN X0.here hx rfl (hb hby d7_0) rfl k) ?_
  refine oS (fun t k => XS.aloadN X0.here hx rfl (hb hby d7_1) rfl rfl k) ?_
  obtain ⟨cl1, Ar1, -, Sz1, Ng1, -, -⟩ := id ((wV1 W).ext O0.2)
  refine oS (S' := (s₁.setTop (mkF m 3 #[.val (.ref a1), .val (.ref a2), .val (.ref (w 1)), .val (.int 0)] [(.int 0), (.int 0)]))) (fun t k => X0.arraylength hx (by rw [e0]; exact Ar1.1) (State.isArrayOf_alike hZ.alike Ar1.2.1) (g := (mkF m 2 #[.val (.ref a1), .val (.ref a2), .val (.ref (w 1)), .val (.int 0)] [(.ref (w 1)), (.int 0)])) rfl rfl (hb hby d7_2) t (by rw [len_of Sz1 Ng1]; exact k)) ?_
  refine oS (fun t k => XS.icmpNo X0.here hx rfl (hb hby d7_3) rfl (teq (by decide)).2 k) ?_
  refine oS (fun t k => XS.aloadN X0.here hx rfl (hb hby d7_6) rfl rfl k) ?_
  obtain ⟨cq2, qa2, qb2⟩ := E_a1.cell
  obtain ⟨_, _, ⟨T2, L2, k2, n2⟩, -, X2, ⟨Lc2, hQ2, l2, y2, z2⟩, st2⟩ := X0.privateBack hx (y := mY8) hown (oM hZ hw 48 rfl) (oM hZ hw 49 rfl) (oM hZ hw 51 rfl) (Cond.privateMethod_at (mvP hZ (oW hw 50 rfl) (args := #[]))) (oM hZ hw 52 rfl) (by decide) (backOf (W := 0) (rm_grow l Z a0 hw [] a1 p9 w h0 n0 O0 W E_a1 g_a1 F_modCount_a1 F_elementData_a1 F_size_a1) hZ (oW hw 52 rfl) (oW hw 3 rfl) (by decide) (by decide)) (g := (mkF m 7 #[.val (.ref a1), .val (.ref a2), .val (.ref (w 1)), .val (.int 0)] [(.ref a1)])) rfl (by rw [hml]; rfl) (Steps.refl _) (a := a1) (by rw [e0]; exact qa2) qb2 (argsL := []) (rest := []) (lenOf pd_3 rfl) rfl (by show 2 * 0 + _ ≤ _; exact Nat.le_of_eq rfl) (hb hby d7_7) (fun _ _ => ⟨rfl, e0, (by decide : 0 + 1 ≤ _), (by decide : 0 + 10 ≤ _)⟩)
  dsimp only [Pt.U, Pt.locs, Pt.cells, Pt.slots] at X2 l2 y2 z2 st2 hQ2
  rw [l2, y2, z2] at X2
  clear l2 y2 z2
  obtain ⟨r2, x2_k, rfl, Nq2, K2, sr2, P2_0, P2_1, P2_2, P2_3, P2_4, P2_5⟩ := hQ2
  have N2 := Fr.app N0 Nq2
  have O2 := O0.keep K2 (allS g_a1 all0)
  have Kp2 : Keep h0 T2.heap [a1] := (Keep.refl h0 [a1]).trans K2 (allS (Or.inl (List.mem_of_getElem? (i := 0) rfl)) all0)
  have gr2 : n0 ≤ r2 := Nat.le_trans (O0.1 ▸ O0.2.1) sr2
  have ne_a1_r2 : a1 ≠ r2 := Nat.ne_of_lt (Nat.lt_of_lt_of_le E_a1.lt sr2)
  have szrr2 : h0.size ≤ r2 := Nat.le_trans (Nat.le_refl _) sr2
  refine oS (fun t k => st2.trans k) ?_
  show oG _ _ _ _ _ _ _ (T2.setTop (mkF m 10 #[.val (.ref a1), .val (.ref a2), .val (.ref (w 1)), .val (.int 0)] [(.ref r2)]))
  try clear st2
  refine oS (fun t k => XS.astoreN X2.here hx rfl (hb hby d7_10) rfl rfl (l' := #[.val (.ref a1), .val (.ref a2), .val (.ref r2), .val (.int 0)]) rfl k) ?_
  refine oS (fun t k => XS.aloadN X2.here hx rfl (hb hby d7_11) rfl rfl k) ?_
  refine oS (fun t k => XS.iloadN X2.here hx rfl (hb hby d7_12) rfl k) ?_
  refine oS (fun t k => XS.aloadN X2.here hx rfl (hb hby d7_13) rfl rfl k) ?_
  obtain ⟨cl3, Ar3, qk3, Sz3, Ng3, Ha3, Gf3⟩ := id P2_3
  have hin3 : ¬ ((0 : Int32) < 0 ∨ cl3.slots.size ≤ ((0 : Int32)).toNatClampNeg) := inb_of Sz3 ⟨by decide, by decide⟩
  obtain ⟨T4, h4, X4, e4, W4, st4⟩ := stR X2 hx hZ rfl Ar3 (j := (0 : Int32)) hin3 rfl (Sto.ofV Ar3 qk3 P2_4 (Ins.of_exa (E_a2.keep K2) (oW hw 85 rfl))) (g := (mkF m 14 #[.val (.ref a1), .val (.ref a2), .val (.ref r2), .val (.int 0)] [(.ref a2), (.int 0), (.ref r2)])) rfl rfl (hb hby d7_14)
  have O4 := O2.wr W4 gr2
  have N4 := Fr.snoc X4 N2 gr2
  have Kp4 : Keep h0 h4 [a1] := Kp2.wr W4 (Or.inr szrr2)
  have V4 : Arv Z h4 r2 x2_k (.object "java/lang/Object") (10 : Int32) [(.ref a2), .null, .null, .null, .null, .null, .null, .null, .null, .null] .null := Arv.set Ar3 qk3 Sz3 Ng3 Ha3 Gf3 rfl W4 0 rfl (Nat.le_of_ble_eq_true rfl)
  clear hin3 Gf3 Ha3 Ng3 Sz3 qk3 Ar3 cl3
  refine oS (fun t k => st4 t k) ?_
  try clear st4 X2 e2
  refine oS (fun t k => XS.aloadN X4.here hx rfl (hb hby d7_15) rfl rfl k) ?_
  refine oS (fun t k => XS.iloadN X4.here hx rfl (hb hby d7_16) rfl k) ?_
  show oG _ _ _ _ _ _ _ (T4.setTop (mkF m 17 #[.val (.ref a1), .val (.ref a2), .val (.ref r2), .val (.int 0)] [(.int 0), (.ref a1)]))
  refine oS (fun t k => oIc li_1 X4.here hx rfl (hb hby d7_17) k) ?_
  refine oS (S' := (T4.setTop (mkF m 19 #[.val (.ref a1), .val (.ref a2), .val (.ref r2), .val (.int 0)] [(.int 1), (.ref a1)]))) (fun t k => XS.iadd X4.here hx rfl (hb hby d7_18) rfl (by rw [show (0 : Int32) + (1 : Int32) = (1 : Int32) from by decide]; exact k)) ?_
  obtain ⟨T5, h5, X5, e5, W5, st5⟩ := putF X4 hx hZ hown (host := "") (Or.inl (oW hw 41 rfl)) Via.refl e4 (P2_2.other W4 (Or.inl ne_a1_r2)) ((E_a1.keep K2).wr W4) (Or.inl (oW hw 42 rfl)) (oW hw 2 rfl) (ty := .int) (by decide) rfl rfl (g := (mkF m 19 #[.val (.ref a1), .val (.ref a2), .val (.ref r2), .val (.int 0)] [(.int 1), (.ref a1)])) rfl rfl (hb hby d7_19)
  have O5 := O4.wr W5 g_a1
  have N5 := Fr.snoc X5 N4 g_a1
  have Kp5 : Keep h0 h5 [a1] := Kp4.wr W5 (Or.inl (List.mem_of_getElem? (i := 0) rfl))
  have Fw5 := (P2_2.other W4 (Or.inl ne_a1_r2)).same W5
  refine oS (fun t k => st5 t k) ?_
  try clear st5 X4 e4
  try clear T4
  exact own_ret (v := none) X5 (fun _ => rfl) Bd.notSynchronized (fun fs hr => X5.returnOut hx Bd.returns (hb hby d7_22) hr) (by rw [e5]; exact ⟨r2, x2_k, rfl, N5, Kp5, szrr2, ((P2_0.other W4 (Or.inl ne_a1_r2)).other W5 (Or.inr (slot_ne (Or.inl (oW hw 23 rfl)) (Or.inl (oW hw 42 rfl)) (by decide) (t := .int) (t' := .int) (by decide) (by decide)))), ((P2_1.other W4 (Or.inl ne_a1_r2)).other W5 (Or.inr (slot_ne (Or.inl (oW hw 26 rfl)) (Or.inl (oW hw 42 rfl)) (by decide) (t := (.array (.object "java/lang/Object"))) (t' := .int) (by decide) (by decide)))), Fw5, (V4.other W5 (Ne.symm ne_a1_r2)), P2_4, ((P2_5.wr W4).wr W5)⟩) (by decide) (by decide)
def Q_addS0 (Z : State) (a1 : Addr) (p9 : Int32) (a2 : Addr) (w : Nat → Addr) (h0 : Heap) (n0 : Nat) (v : Option Value) (h : Heap) (L : List Loc) : Prop := ∃ (r : Addr) (k : ClassId), v = some (.int 1) ∧ Fr n0 L ∧ Keep h0 h [a1] ∧ h0.size ≤ r ∧ Fld Z h a1 "java/util/AbstractList" "modCount" "I" (.int (p9 + (1 : Int32))) ∧ Fld Z h a1 "java/util/ArrayList" "elementData" "[Ljava/lang/Object;" (.ref r) ∧ Fld Z h a1 "java/util/ArrayList" "size" "I" (.int 1) ∧ Arv Z h r k (.object "java/lang/Object") (10 : Int32) [(.ref a2), .null, .null, .null, .null, .null, .null, .null, .null, .null] .null ∧ Ovr Z k "java/lang/Object" ∧ Exa Z h r "[Ljava/lang/Object;"
theorem rm_addS0 (l : Launch) (Z : State) (a0 : Array Value) (hw : ∀ d ∈ tables_1, d.before a0 Z = true) (ws : List Jvm.Cond) (a1 : Addr) (p9 : Int32) (a2 : Addr) (w : Nat → Addr) (h0 : Heap) (n0 : Nat) (O0 : Old Z n0 h0) (W : own_World Z w) (E_a1 : Exa Z h0 a1 "java/util/ArrayList") (g_a1 : n0 ≤ a1) (E_a2 : Exa Z h0 a2 "com/example/shiftweave/shiftweave/rostering/ShiftRequest") (F_modCount_a1 : Fld Z h0 a1 "java/util/AbstractList" "modCount" "I" (.int p9)) (F_elementData_a1 : Fld Z h0 a1 "java/util/ArrayList" "elementData" "[Ljava/lang/Object;" (.ref (w 1))) (F_size_a1 : Fld Z h0 a1 "java/util/ArrayList" "size" "I" (.int 0)) :
    MetFree l mY10 (head1 (Jvm.Cond.code mY10 jdk_38_method_25_code 2 (some .boolean) :: ws) R_7) (fun a U => a = #[(.ref a1), (.ref a2)] ∧ Z.Warmed39 U.vm ∧ U.heap = h0) (fun _ _ _ _ _ => True) (fun _ U o U' => ∃ v L, o = .returned v ∧ Q_addS0 Z a1 p9 a2 w h0 n0 v U'.heap L ∧ FrameEnd U o U' L R_7.cells R_7.slots) := by
  refine MetFree.of_bodySF (plainFor_of_name pn_5) hisR ?_
  intro p e s m args below meth c s₁ Bd hml0 hP hK
  obtain ⟨rfl, hZ, hh⟩ := hP
  have hx := Bd.exec
  have hby := Bd.bytes
  have hml : c.maxLocals = 2 := hml0
  have hown : s.vm.findClass "java/util/ArrayList" = some m.cls := findClass_of_methodNamed Bd.named
  have hnm := (name_of_methodNamed Bd.named Bd.method).1
  have X0 : Stand p l e R_7 s m #[(.ref a1), (.ref a2)] below meth c s₁ [] 0 0 := Stand.of_body Bd
  have e0 : s₁.heap = h0 := by rw [← hh, Bd.state]; rfl
  have N0 := Fr.nil n0
  show oG p e below s (Q_addS0 Z a1 p9 a2 w h0 n0) R_7.cells R_7.slots _
  refine oS (fun t k => castTop (ef_6_rr m a1 a2) k) ?_
  show oG _ _ _ _ _ _ _ (s₁.setTop (mkF m 0 #[.val (.ref a1), .val (.ref a2)] []))
  refine oS (fun t k => XS.aloadN X0.here hx rfl (hb hby d6_0) rfl rfl k) ?_
  refine oS (fun t k => XS.dup X0.here hx rfl (hb hby d6_1) rfl rfl k) ?_
  obtain ⟨T1, X1, e1, st1⟩ := getF X0 hx hZ hown (host := "") (Or.inl (oW hw 39 rfl)) (Via.of (oW hw 40 rfl)) e0 F_modCount_a1 (g := (mkF m 2 #[.val (.ref a1), .val (.ref a2)] [(.ref a1), (.ref a1)])) rfl rfl (hb hby d6_2)
  refine oS (fun t k => st1 t k) ?_
  try clear st1
  refine oS (fun t k => oIc li_1 X1.here hx rfl (hb hby d6_5) k) ?_
  refine oS (fun t k => XS.iadd X1.here hx rfl (hb hby d6_6) rfl k) ?_
  obtain ⟨T2, h2, X2, e2, W2, st2⟩ := putF X1 hx hZ hown (host := "") (Or.inl (oW hw 39 rfl)) (Via.of (oW hw 40 rfl)) e1 F_modCount_a1 E_a1 (Or.inl (oW hw 23 rfl)) (oW hw 2 rfl) (ty := .int) (by decide) rfl rfl (g := (mkF m 7 #[.val (.ref a1), .val (.ref a2)] [(.int (p9 + (1 : Int32))), (.ref a1)])) rfl rfl (hb hby d6_7)
  have O2 := O0.wr W2 g_a1
  have N2 := Fr.snoc X2 N0 g_a1
  have Kp2 : Keep h0 h2 [a1] := (Keep.refl h0 [a1]).wr W2 (Or.inl (List.mem_of_getElem? (i := 0) rfl))
  have Fw2 := F_modCount_a1.same W2
  refine oS (fun t k => st2 t k) ?_
  try clear st2 X1 e1
  try clear T1
  refine oS (fun t k => XS.aloadN X2.here hx rfl (hb hby d6_10) rfl rfl k) ?_
  show oG _ _ _ _ _ _ _ (T2.setTop (mkF m 11 #[.val (.ref a1), .val (.ref a2)] [(.ref a1)]))
  refine oS (fun t k => XS.aloadN X2.here hx rfl (hb hby d6_11) rfl rfl k) ?_
  refine oS (fun t k => XS.aloadN X2.here hx rfl (hb hby d6_12) rfl rfl k) ?_
  obtain ⟨T3, X3, e3, st3⟩ := getF X2 hx hZ hown (host := "") (Or.inl (oW hw 25 rfl)) Via.refl e2 (F_elementData_a1.other W2 (Or.inr (slot_ne (Or.inl (oW hw 26 rfl)) (Or.inl (oW hw 23 rfl)) (by decide) (t := (.array (.object "java/lang/Object"))) (t' := .int) (by decide) (by decide)))) (g := (mkF m 13 #[.val (.ref a1), .val (.ref a2)] [(.ref a1), (.ref a2), (.ref a1)])) rfl rfl (hb hby d6_13)
  refine oS (fun t k => st3 t k) ?_
  try clear st3 X2 e2
  try clear T2
  refine oS (fun t k => XS.aloadN X3.here hx rfl (hb hby d6_16) rfl rfl k) ?_
  obtain ⟨T4, X4, e4, st4⟩ := getF X3 hx hZ hown (host := "") (Or.inl (oW hw 41 rfl)) Via.refl e3 (F_size_a1.other W2 (Or.inr (slot_ne (Or.inl (oW hw 42 rfl)) (Or.inl (oW hw 23 rfl)) (by decide) (t := .int) (t' := .int) (by decide) (by decide)))) (g := (mkF m 17 #[.val (.ref a1), .val (.ref a2)] [(.ref a1), (.ref (w 1)), (.ref a2), (.ref a1)])) rfl rfl (hb hby d6_17)
  refine oS (fun t k => st4 t k) ?_
  try clear st4 X3 e3
  try clear T3
  obtain ⟨cq5, qa5, qb5⟩ := (E_a1.wr W2).cell
  obtain ⟨_, _, ⟨T5, L5, k5, n5⟩, -, X5, ⟨Lc5, hQ5, l5, y5, z5⟩, st5⟩ := X4.privateBack hx (y := mY9) hown (oM hZ hw 43 rfl) (oM hZ hw 44 rfl) (oM hZ hw 46 rfl) (Cond.privateMethod_at (mvP hZ (oW hw 45 rfl) (args := #[]))) (oM hZ hw 47 rfl) (by decide) (backOf (W := 0) (rm_addpS0 l Z a0 hw [] a1 (p9 + (1 : Int32)) a2 w h2 n0 O2 W (E_a1.wr W2) g_a1 (E_a2.wr W2) Fw2 (F_elementData_a1.other W2 (Or.inr (slot_ne (Or.inl (oW hw 26 rfl)) (Or.inl (oW hw 23 rfl)) (by decide) (t := (.array (.object "java/lang/Object"))) (t' := .int) (by decide) (by decide)))) (F_size_a1.other W2 (Or.inr (slot_ne (Or.inl (oW hw 42 rfl)) (Or.inl (oW hw 23 rfl)) (by decide) (t := .int) (t' := .int) (by decide) (by decide))))) hZ (oW hw 47 rfl) (oW hw 3 rfl) (by decide) (by decide)) (g := (mkF m 20 #[.val (.ref a1), .val (.ref a2)] [(.int 0), (.ref (w 1)), (.ref a2), (.ref a1)])) rfl (by rw [hml]; rfl) (Steps.refl _) (a := a1) (by rw [e4]; exact qa5) qb5 (argsL := [(.ref a2), (.ref (w 1)), (.int 0)]) (rest := []) (lenOf pd_4 rfl) rfl (by show 2 * 0 + _ ≤ _; exact Nat.le_of_eq rfl) (hb hby d6_20) (fun _ _ => ⟨rfl, e4, (by decide : 0 + 1 ≤ _), (by decide : 0 + 10 ≤ _)⟩)
  dsimp only [Pt.U, Pt.locs, Pt.cells, Pt.slots] at X5 l5 y5 z5 st5 hQ5
  rw [l5, y5, z5] at X5
  clear l5 y5 z5
  obtain ⟨r5, x5_k, rfl, Nq5, K5, sr5, P5_0, P5_1, P5_2, P5_3, P5_4, P5_5⟩ := hQ5
  have N5 := Fr.app N2 Nq5
  have O5 := O2.keep K5 (allS g_a1 all0)
  have Kp5 : Keep h0 T5.heap [a1] := Kp2.trans K5 (allS (Or.inl (List.mem_of_getElem? (i := 0) rfl)) all0)
  have gr5 : n0 ≤ r5 := Nat.le_trans (O2.1 ▸ O2.2.1) sr5
  have ne_a1_r5 : a1 ≠ r5 := Nat.ne_of_lt (Nat.lt_of_lt_of_le (E_a1.wr W2).lt sr5)
  have szrr5 : h0.size ≤ r5 := Nat.le_trans Kp2.1 sr5
  refine oS (fun t k => st5.trans k) ?_
  show oG _ _ _ _ _ _ _ (T5.setTop (mkF m 23 #[.val (.ref a1), .val (.ref a2)] []))
  try clear st5 X4 e4
  try clear T4
  refine oS (fun t k => oIc li_1 X5.here hx rfl (hb hby d6_23) k) ?_
  exact own_ret (v := some (.int 1)) X5 (fun h => by rw [Bd.returns] at h; cases h) Bd.notSynchronized (fun fs hr => retN X5 hx (t := .boolean) Bd.returns (by simp) (hb hby d6_24) hr) (by exact ⟨r5, x5_k, rfl, N5, Kp5, szrr5, P5_0, P5_1, P5_2, P5_3, P5_4, P5_5⟩) (by decide) (by decide)
theorem ef_7_rrri_1 (m : MethodId) (x0 : Addr) (x1 : Addr) (x2 : Addr) : entryFrame m #[(.ref x0), (.ref x1), (.ref x2), (.int 1)] 4 = mkF m 0 #[.val (.ref x0), .val (.ref x1), .val (.ref x2), .val (.int 1)] [] := by first | (simp [entryFrame, mkF, argsToLocals, Value.category]; done) | rfl
def Q_addpI1 (Z : State) (a1 : Addr) (p9 : Int32) (a2 : Addr) (a3 : Addr) (r : Addr) (k : ClassId) (w : Nat → Addr) (h0 : Heap) (n0 : Nat) (v : Option Value) (h : Heap) (L : List Loc) : Prop := v = none ∧ Fr n0 L ∧ Keep h0 h [a1, r] ∧ Fld Z h a1 "java/util/AbstractList" "modCount" "I" (.int p9) ∧ Fld Z h a1 "java/util/ArrayList" "elementData" "[Ljava/lang/Object;" (.ref r) ∧ Fld Z h a1 "java/util/ArrayList" "size" "I" (.int 2) ∧ Arv Z h r k (.object "java/lang/Object") (10 : Int32) [(.ref a3), (.ref a2), .null, .null, .null, .null, .null, .null, .null, .null] .null ∧ Ovr Z k "java/lang/Object" ∧ Exa Z h r "[Ljava/lang/Object;"
theorem rm_addpI1 (l : Launch) (Z : State) (a0 : Array Value) (hw : ∀ d ∈ tables_1, d.before a0 Z = true) (ws : List Jvm.Cond) (a1 : Addr) (p9 : Int32) (a2 : Addr) (a3 : Addr) (r : Addr) (k : ClassId) (w : Nat → Addr) (h0 : Heap) (n0 : Nat) (O0 : Old Z n0 h0) (W : own_World Z w) (E_a1 : Exa Z h0 a1 "java/util/ArrayList") (g_a1 : n0 ≤ a1) (E_a2 : Exa Z h0 a2 "java/lang/Integer") (F_modCount_a1 : Fld Z h0 a1 "java/util/AbstractList" "modCount" "I" (.int p9)) (F_elementData_a1 : Fld Z h0 a1 "java/util/ArrayList" "elementData" "[Ljava/lang/Object;" (.ref r)) (F_size_a1 : Fld Z h0 a1 "java/util/ArrayList" "size" "I" (.int 1)) (V_r : Arv Z h0 r k (.object "java/lang/Object") (10 : Int32) [(.ref a3), .null, .null, .null, .null, .null, .null, .null, .null, .null] .null) (O_r : Ovr Z k "java/lang/Object") (E_r : Exa Z h0 r "[Ljava/lang/Object;") (g_r : n0 ≤ r) (ne_a1_r : a1 ≠ r) :
    MetFree l mY9 (head1 (Jvm.Cond.code mY9 jdk_38_method_24_code 4 none :: ws) R_3) (fun a U => a = #[(.ref a1), (.ref a2), (.ref r), (.int 1)] ∧ Z.Warmed39 U.vm ∧ U.heap = h0) (fun _ _ _ _ _ => True) (fun _ U o U' => ∃ v L, o = .returned v ∧ Q_addpI1 Z a1 p9 a2 a3 r k w h0 n0 v U'.heap L ∧ FrameEnd U o U' L R_3.cells R_3.slots) := by
  refine MetFree.of_bodySF (plainFor_of_name pn_5) hisR ?_
  intro p e s m args below meth c s₁ Bd hml0 hP hK
  obtain ⟨rfl, hZ, hh⟩ := hP
  have hx := Bd.exec
  have hby := Bd.bytes
  have hml : c.maxLocals = 4 := hml0
  have hown : s.vm.findClass "java/util/ArrayList" = some m.cls := findClass_of_methodNamed Bd.named
  have hnm := (name_of_methodNamed Bd.named Bd.method).1
  have X0 : Stand p l e R_3 s m #[(.ref a1), (.ref a2), (.ref r), (.int 1)] below meth c s₁ [] 0 0 := Stand.of_body Bd
  have e0 : s₁.heap = h0 := by rw [← hh, Bd.state]; rfl
  have N0 := Fr.nil n0
  show oG p e below s (Q_addpI1 Z a1 p9 a2 a3 r k w h0 n0) R_3.cells R_3.slots _
  refine oS (fun t k => castTop (ef_7_rrri_1 m a1 a2 r) k) ?_
  show oG _ _ _ _ _ _ _ (s₁.setTop (mkF m 0 #[.val (.ref a1), .val (.ref a2), .val (.ref r), .val (.int 1)] []))
  refine oS (fun t k => XS.iloadN X0.here hx rfl (hb hby d7_0) rfl k) ?_
  refine oS (fun t k => XS.aloadN X0.here hx rfl (hb hby d7_1) rfl rfl k) ?_
  obtain ⟨cl1, Ar1, -, Sz1, Ng1, -, -⟩ := id V_r
  refine oS (S' := (s₁.setTop (mkF m 3 #[.val (.ref a1), .val (.ref a2), .val (.ref r), .val (.int 1)] [(.int 10), (.int 1)]))) (fun t k => X0.arraylength hx (by rw [e0]; exact Ar1.1) (State.isArrayOf_alike hZ.alike Ar1.2.1) (g := (mkF m 2 #[.val (.ref a1), .val (.ref a2), .val (.ref r), .val (.int 1)] [(.ref r), (.int 1)])) rfl rfl (hb hby d7_2) t (by rw [len_of Sz1 Ng1]; exact k)) ?_
  refine oS (fun t k => XS.icmpYes X0.here hx rfl (pc0 := 3) (pc' := 11) rfl (hb hby d7_3) rfl (feq (by decide)).2 (by decide) (by decide) k) ?_
  refine oS (fun t k => XS.aloadN X0.here hx rfl (hb hby d7_11) rfl rfl k) ?_
  refine oS (fun t k => XS.iloadN X0.here hx rfl (hb hby d7_12) rfl k) ?_
  refine oS (fun t k => XS.aloadN X0.here hx rfl (hb hby d7_13) rfl rfl k) ?_
  show oG _ _ _ _ _ _ _ (s₁.setTop (mkF m 14 #[.val (.ref a1), .val (.ref a2), .val (.ref r), .val (.int 1)] [(.ref a2), (.int 1), (.ref r)]))
  obtain ⟨cl2, Ar2, qk2, Sz2, Ng2, Ha2, Gf2⟩ := id V_r
  have hin2 : ¬ ((1 : Int32) < 0 ∨ cl2.slots.size ≤ ((1 : Int32)).toNatClampNeg) := inb_of Sz2 ⟨by decide, by decide⟩
  obtain ⟨T3, h3, X3, e3, W3, st3⟩ := stR X0 hx hZ e0 Ar2 (j := (1 : Int32)) hin2 rfl (Sto.ofV Ar2 qk2 O_r (Ins.of_exa E_a2 (oW hw 64 rfl))) (g := (mkF m 14 #[.val (.ref a1), .val (.ref a2), .val (.ref r), .val (.int 1)] [(.ref a2), (.int 1), (.ref r)])) rfl rfl (hb hby d7_14)
  have O3 := O0.wr W3 g_r
  have N3 := Fr.snoc X3 N0 g_r
  have Kp3 : Keep h0 h3 [a1, r] := (Keep.refl h0 [a1, r]).wr W3 (Or.inl (List.mem_of_getElem? (i := 1) rfl))
  have V3 : Arv Z h3 r k (.object "java/lang/Object") (10 : Int32) [(.ref a3), (.ref a2), .null, .null, .null, .null, .null, .null, .null, .null] .null := Arv.set Ar2 qk2 Sz2 Ng2 Ha2 Gf2 rfl W3 1 rfl (Nat.le_of_ble_eq_true rfl)
  clear hin2 Gf2 Ha2 Ng2 Sz2 qk2 Ar2 cl2
  refine oS (fun t k => st3 t k) ?_
  try clear st3
  refine oS (fun t k => XS.aloadN X3.here hx rfl (hb hby d7_15) rfl rfl k) ?_
  refine oS (fun t k => XS.iloadN X3.here hx rfl (hb hby d7_16) rfl k) ?_
  refine oS (fun t k => oIc li_1 X3.here hx rfl (hb hby d7_17) k) ?_
  refine oS (S' := (T3.setTop (mkF m 19 #[.val (.ref a1), .val (.ref a2), .val (.ref r), .val (.int 1)] [(.int 2), (.ref a1)]))) (fun t k => XS.iadd X3.here hx rfl (hb hby d7_18) rfl (by rw [show (1 : Int32) + (1 : Int32) = (2 : Int32) from by decide]; exact k)) ?_
  obtain ⟨T4, h4, X4, e4, W4, st4⟩ := putF X3 hx hZ hown (host := "") (Or.inl (oW hw 41 rfl)) Via.refl e3 (F_size_a1.other W3 (Or.inl ne_a1_r)) (E_a1.wr W3) (Or.inl (oW hw 42 rfl)) (oW hw 2 rfl) (ty := .int) (by decide) rfl rfl (g := (mkF m 19 #[.val (.ref a1), .val (.ref a2), .val (.ref r), .val (.int 1)] [(.int 2), (.ref a1)])) rfl rfl (hb hby d7_19)
  have O4 := O3.wr W4 g_a1
  have N4 := Fr.snoc X4 N3 g_a1
  have Kp4 : Keep h0 h4 [a1, r] := Kp3.wr W4 (Or.inl (List.mem_of_getElem? (i := 0) rfl))
  have Fw4 := (F_size_a1.other W3 (Or.inl ne_a1_r)).same W4
  refine oS (fun t k => st4 t k) ?_
  try clear st4 X3 e3
  try clear T3
  exact own_ret (v := none) X4 (fun _ => rfl) Bd.notSynchronized (fun fs hr => X4.returnOut hx Bd.returns (hb hby d7_22) hr) (by rw [e4]; exact ⟨rfl, N4, Kp4, ((F_modCount_a1.other W3 (Or.inl ne_a1_r)).other W4 (Or.inr (slot_ne (Or.inl (oW hw 23 rfl)) (Or.inl (oW hw 42 rfl)) (by decide) (t := .int) (t' := .int) (by decide) (by decide)))), ((F_elementData_a1.other W3 (Or.inl ne_a1_r)).other W4 (Or.inr (slot_ne (Or.inl (oW hw 26 rfl)) (Or.inl (oW hw 42 rfl)) (by decide) (t := (.array (.object "java/lang/Object"))) (t' := .int) (by decide) (by decide)))), Fw4, (V3.other W4 (Ne.symm ne_a1_r)), O_r, ((E_r.wr W3).wr W4)⟩) (by decide) (by decide)
abbrev R_8 : Room := { frames := 1, cells := 0, slots := 0, locals := 15 }
def Q_addI1 (Z : State) (a1 : Addr) (p9 : Int32) (a2 : Addr) (a3 : Addr) (r : Addr) (k : ClassId) (w : Nat → Addr) (h0 : Heap) (n0 : Nat) (v : Option Value) (h : Heap) (L : List Loc) : Prop := v = some (.int 1) ∧ Fr n0 L ∧ Keep h0 h [a1, r] ∧ Fld Z h a1 "java/util/AbstractList" "modCount" "I" (.int (p9 + (1 : Int32))) ∧ Fld Z h a1 "java/util/ArrayList" "elementData" "[Ljava/lang/Object;" (.ref r) ∧ Fld Z h a1 "java/util/ArrayList" "size" "I" (.int 2) ∧ Arv Z h r k (.object "java/lang/Object") (10 : Int32) [(.ref a3), (.ref a2), .null, .null, .null, .null, .null, .null, .null, .null] .null ∧ Ovr Z k "java/lang/Object" ∧ Exa Z h r "[Ljava/lang/Object;"
theorem rm_addI1 (l : Launch) (Z : State) (a0 : Array Value) (hw : ∀ d ∈ tables_1, d.before a0 Z = true) (ws : List Jvm.Cond) (a1 : Addr) (p9 : Int32) (a2 : Addr) (a3 : Addr) (r : Addr) (k : ClassId) (w : Nat → Addr) (h0 : Heap) (n0 : Nat) (O0 : Old Z n0 h0) (W : own_World Z w) (E_a1 : Exa Z h0 a1 "java/util/ArrayList") (g_a1 : n0 ≤ a1) (E_a2 : Exa Z h0 a2 "java/lang/Integer") (F_modCount_a1 : Fld Z h0 a1 "java/util/AbstractList" "modCount" "I" (.int p9)) (F_elementData_a1 : Fld Z h0 a1 "java/util/ArrayList" "elementData" "[Ljava/lang/Object;" (.ref r)) (F_size_a1 : Fld Z h0 a1 "java/util/ArrayList" "size" "I" (.int 1)) (V_r : Arv Z h0 r k (.object "java/lang/Object") (10 : Int32) [(.ref a3), .null, .null, .null, .null, .null, .null, .null, .null, .null] .null) (O_r : Ovr Z k "java/lang/Object") (E_r : Exa Z h0 r "[Ljava/lang/Object;") (g_r : n0 ≤ r) (ne_a1_r : a1 ≠ r) :
    MetFree l mY10 (head1 (Jvm.Cond.code mY10 jdk_38_method_25_code 2 (some .boolean) :: ws) R_8) (fun a U => a = #[(.ref a1), (.ref a2)] ∧ Z.Warmed39 U.vm ∧ U.heap = h0) (fun _ _ _ _ _ => True) (fun _ U o U' => ∃ v L, o = .returned v ∧ Q_addI1 Z a1 p9 a2 a3 r k w h0 n0 v U'.heap L ∧ FrameEnd U o U' L R_8.cells R_8.slots) := by
  refine MetFree.of_bodySF (plainFor_of_name pn_5) hisR ?_
  intro p e s m args below meth c s₁ Bd hml0 hP hK
  obtain ⟨rfl, hZ, hh⟩ := hP
  have hx := Bd.exec
  have hby := Bd.bytes
  have hml : c.maxLocals = 2 := hml0
  have hown : s.vm.findClass "java/util/ArrayList" = some m.cls := findClass_of_methodNamed Bd.named
  have hnm := (name_of_methodNamed Bd.named Bd.method).1
  have X0 : Stand p l e R_8 s m #[(.ref a1), (.ref a2)] below meth c s₁ [] 0 0 := Stand.of_body Bd
  have e0 : s₁.heap = h0 := by rw [← hh, Bd.state]; rfl
  have N0 := Fr.nil n0
  show oG p e below s (Q_addI1 Z a1 p9 a2 a3 r k w h0 n0) R_8.cells R_8.slots _
  refine oS (fun t k => castTop (ef_6_rr m a1 a2) k) ?_
  show oG _ _ _ _ _ _ _ (s₁.setTop (mkF m 0 #[.val (.ref a1), .val (.ref a2)] []))
  refine oS (fun t k => XS.aloadN X0.here hx rfl (hb hby d6_0) rfl rfl k) ?_
  refine oS (fun t k => XS.dup X0.here hx rfl (hb hby d6_1) rfl rfl k) ?_
  obtain ⟨T1, X1, e1, st1⟩ := getF X0 hx hZ hown (host := "") (Or.inl (oW hw 39 rfl)) (Via.of (oW hw 40 rfl)) e0 F_modCount_a1 (g := (mkF m 2 #[.val (.ref a1), .val (.ref a2)] [(.ref a1), (.ref a1)])) rfl rfl (hb hby d6_2)
  refine oS (fun t k => st1 t k) ?_
  try clear st1
  refine oS (fun t k => oIc li_1 X1.here hx rfl (hb hby d6_5) k) ?_
  refine oS (fun t k => XS.iadd X1.here hx rfl (hb hby d6_6) rfl k) ?_
  obtain ⟨T2, h2, X2, e2, W2, st2⟩ := putF X1 hx hZ hown (host := "") (Or.inl (oW hw 39 rfl)) (Via.of (oW hw 40 rfl)) e1 F_modCount_a1 E_a1 (Or.inl (oW hw 23 rfl)) (oW hw 2 rfl) (ty := .int) (by decide) rfl rfl (g := (mkF m 7 #[.val (.ref a1), .val (.ref a2)] [(.int (p9 + (1 : Int32))), (.ref a1)])) rfl rfl (hb hby d6_7)
  have O2 := O0.wr W2 g_a1
  have N2 := Fr.snoc X2 N0 g_a1
  have Kp2 : Keep h0 h2 [a1, r] := (Keep.refl h0 [a1, r]).wr W2 (Or.inl (List.mem_of_getElem? (i := 0) rfl))
  have Fw2 := F_modCount_a1.same W2
  refine oS (fun t k => st2 t k) ?_
  try clear st2 X1 e1
  try clear T1
  refine oS (fun t k => XS.aloadN X2.here hx rfl (hb hby d6_10) rfl rfl k) ?_
  show oG _ _ _ _ _ _ _ (T2.setTop (mkF m 11 #[.val (.ref a1), .val (.ref a2)] [(.ref a1)]))
  refine oS (fun t k => XS.aloadN X2.here hx rfl (hb hby d6_11) rfl rfl k) ?_
  refine oS (fun t k => XS.aloadN X2.here hx rfl (hb hby d6_12) rfl rfl k) ?_
  obtain ⟨T3, X3, e3, st3⟩ := getF X2 hx hZ hown (host := "") (Or.inl (oW hw 25 rfl)) Via.refl e2 (F_elementData_a1.other W2 (Or.inr (slot_ne (Or.inl (oW hw 26 rfl)) (Or.inl (oW hw 23 rfl)) (by decide) (t := (.array (.object "java/lang/Object"))) (t' := .int) (by decide) (by decide)))) (g := (mkF m 13 #[.val (.ref a1), .val (.ref a2)] [(.ref a1), (.ref a2), (.ref a1)])) rfl rfl (hb hby d6_13)
  refine oS (fun t k => st3 t k) ?_
  try clear st3 X2 e2
  try clear T2
  refine oS (fun t k => XS.aloadN X3.here hx rfl (hb hby d6_16) rfl rfl k) ?_
  obtain ⟨T4, X4, e4, st4⟩ := getF X3 hx hZ hown (host := "") (Or.inl (oW hw 41 rfl)) Via.refl e3 (F_size_a1.other W2 (Or.inr (slot_ne (Or.inl (oW hw 42 rfl)) (Or.inl (oW hw 23 rfl)) (by decide) (t := .int) (t' := .int) (by decide) (by decide)))) (g := (mkF m 17 #[.val (.ref a1), .val (.ref a2)] [(.ref a1), (.ref r), (.ref a2), (.ref a1)])) rfl rfl (hb hby d6_17)
  refine oS (fun t k => st4 t k) ?_
  try clear st4 X3 e3
  try clear T3
  obtain ⟨cq5, qa5, qb5⟩ := (E_a1.wr W2).cell
  obtain ⟨_, _, ⟨T5, L5, k5, n5⟩, -, X5, ⟨Lc5, hQ5, l5, y5, z5⟩, st5⟩ := X4.privateBack hx (y := mY9) hown (oM hZ hw 43 rfl) (oM hZ hw 44 rfl) (oM hZ hw 46 rfl) (Cond.privateMethod_at (mvP hZ (oW hw 45 rfl) (args := #[]))) (oM hZ hw 47 rfl) (by decide) (backOf (W := 0) (rm_addpI1 l Z a0 hw [] a1 (p9 + (1 : Int32)) a2 a3 r k w h2 n0 O2 W (E_a1.wr W2) g_a1 (E_a2.wr W2) Fw2 (F_elementData_a1.other W2 (Or.inr (slot_ne (Or.inl (oW hw 26 rfl)) (Or.inl (oW hw 23 rfl)) (by decide) (t := (.array (.object "java/lang/Object"))) (t' := .int) (by decide) (by decide)))) (F_size_a1.other W2 (Or.inr (slot_ne (Or.inl (oW hw 42 rfl)) (Or.inl (oW hw 23 rfl)) (by decide) (t := .int) (t' := .int) (by decide) (by decide)))) (V_r.other W2 (Ne.symm ne_a1_r)) O_r (E_r.wr W2) g_r ne_a1_r) hZ (oW hw 47 rfl) (oW hw 3 rfl) (by decide) (by decide)) (g := (mkF m 20 #[.val (.ref a1), .val (.ref a2)] [(.int 1), (.ref r), (.ref a2), (.ref a1)])) rfl (by rw [hml]; rfl) (Steps.refl _) (a := a1) (by rw [e4]; exact qa5) qb5 (argsL := [(.ref a2), (.ref r), (.int 1)]) (rest := []) (lenOf pd_4 rfl) rfl (by show 2 * 0 + _ ≤ _; exact Nat.le_of_eq rfl) (hb hby d6_20) (fun _ _ => ⟨rfl, e4, (by decide : 0 + 0 ≤ _), (by decide : 0 + 0 ≤ _)⟩)
  dsimp only [Pt.U, Pt.locs, Pt.cells, Pt.slots] at X5 l5 y5 z5 st5 hQ5
  rw [l5, y5, z5] at X5
  clear l5 y5 z5
  obtain ⟨rfl, Nq5, K5, P5_0, P5_1, P5_2, P5_3, P5_4, P5_5⟩ := hQ5
  have N5 := Fr.app N2 Nq5
  have O5 := O2.keep K5 (allS g_a1 (allS g_r all0))
  have Kp5 : Keep h0 T5.heap [a1, r] := Kp2.trans K5 (allS (Or.inl (List.mem_of_getElem? (i := 0) rfl)) (allS (Or.inl (List.mem_of_getElem? (i := 1) rfl)) all0))
  refine oS (fun t k => st5.trans k) ?_
  show oG _ _ _ _ _ _ _ (T5.setTop (mkF m 23 #[.val (.ref a1), .val (.ref a2)] []))
  try clear st5 X4 e4
  try clear T4
  refine oS (fun t k => oIc li_1 X5.here hx rfl (hb hby d6_23) k) ?_
  exact own_ret (v := some (.int 1)) X5 (fun h => by rw [Bd.returns] at h; cases h) Bd.notSynchronized (fun fs hr => retN X5 hx (t := .boolean) Bd.returns (by simp) (hb hby d6_24) hr) (by exact ⟨rfl, N5, Kp5, P5_0, P5_1, P5_2, P5_3, P5_4, P5_5⟩) (by decide) (by decide)
theorem d5_0 : decode jdk_33_method_22_code 0 = .ok (.iload_n 0, 1) := by decide +kernel
theorem d5_1 : decode jdk_33_method_22_code 1 = .ok (.bipush (-128), 2) := by decide +kernel
theorem lb_m128 : (Int8.ofInt (-128)).toInt32 = (-128 : Int32) := by decide
theorem d5_3 : decode jdk_33_method_22_code 3 = .ok (.if_icmp .lt 20, 3) := by decide +kernel
theorem d5_6 : decode jdk_33_method_22_code 6 = .ok (.iload_n 0, 1) := by decide +kernel
theorem d5_7 : decode jdk_33_method_22_code 7 = .ok (.getstatic 191, 3) := by decide +kernel
theorem d5_10 : decode jdk_33_method_22_code 10 = .ok (.if_icmp .gt 13, 3) := by decide +kernel
theorem d5_13 : decode jdk_33_method_22_code 13 = .ok (.getstatic 195, 3) := by decide +kernel
theorem d5_16 : decode jdk_33_method_22_code 16 = .ok (.iload_n 0, 1) := by decide +kernel
theorem d5_17 : decode jdk_33_method_22_code 17 = .ok (.sipush 128, 3) := by decide +kernel
theorem ls_128 : (Int16.ofInt (128)).toInt32 = (128 : Int32) := by decide
theorem d5_20 : decode jdk_33_method_22_code 20 = .ok (.iadd, 1) := by decide +kernel
theorem d5_21 : decode jdk_33_method_22_code 21 = .ok (.aaload, 1) := by decide +kernel
theorem d5_22 : decode jdk_33_method_22_code 22 = .ok (.areturn, 1) := by decide +kernel
abbrev mY11 : MethodName := (⟨"java/lang/Integer", "valueOf", "(I)Ljava/lang/Integer;"⟩ : MethodName)
theorem ef_5_i_0 (m : MethodId)  : entryFrame m #[(.int 0)] 1 = mkF m 0 #[.val (.int 0)] [] := by first | (simp [entryFrame, mkF, argsToLocals, Value.category]; done) | rfl
theorem pn_6 : plainName "java/lang/Integer" = true := by first | (simp [plainName, overriddenIn]; done) | decide +kernel
def Q_val0 (Z : State)  (w : Nat → Addr) (h0 : Heap) (n0 : Nat) (v : Option Value) (h : Heap) (L : List Loc) : Prop := ∃ r : Addr, v = some (.ref r) ∧ Fr n0 L ∧ h = h0 ∧ Exa Z Z.heap r "java/lang/Integer"
theorem rm_val0 (l : Launch) (Z : State) (a0 : Array Value) (hw : ∀ d ∈ tables_1, d.before a0 Z = true) (ws : List Jvm.Cond)  (w : Nat → Addr) (h0 : Heap) (n0 : Nat) (O0 : Old Z n0 h0) (W : own_World Z w) :
    MetFree l mY11 (head1 (Jvm.Cond.code mY11 jdk_33_method_22_code 1 (some (.object "java/lang/Integer")) :: ws) R_3) (fun a U => a = #[(.int 0)] ∧ Z.Warmed39 U.vm ∧ U.heap = h0) (fun _ _ _ _ _ => True) (fun _ U o U' => ∃ v L, o = .returned v ∧ Q_val0 Z  w h0 n0 v U'.heap L ∧ FrameEnd U o U' L R_3.cells R_3.slots) := by
  refine MetFree.of_bodySF (plainFor_of_name pn_6) hisR ?_
  intro p e s m args below meth c s₁ Bd hml0 hP hK
  obtain ⟨rfl, hZ, hh⟩ := hP
  have hx := Bd.exec
  have hby := Bd.bytes
  have hml : c.maxLocals = 1 := hml0
  have hown : s.vm.findClass "java/lang/Integer" = some m.cls := findClass_of_methodNamed Bd.named
  have hnm := (name_of_methodNamed Bd.named Bd.method).1
  have X0 : Stand p l e R_3 s m #[(.int 0)] below meth c s₁ [] 0 0 := Stand.of_body Bd
  have e0 : s₁.heap = h0 := by rw [← hh, Bd.state]; rfl
  have N0 := Fr.nil n0
  show oG p e below s (Q_val0 Z  w h0 n0) R_3.cells R_3.slots _
  refine oS (fun t k => castTop (ef_5_i_0 m ) k) ?_
  show oG _ _ _ _ _ _ _ (s₁.setTop (mkF m 0 #[.val (.int 0)] []))
  refine oS (fun t k => XS.iloadN X0.here hx rfl (hb hby d5_0) rfl k) ?_
  refine oS (fun t k => oBp lb_m128 X0.here hx rfl (hb hby d5_1) k) ?_
  refine oS (fun t k => XS.icmpNo X0.here hx rfl (hb hby d5_3) rfl (flt (by decide)).1 k) ?_
  refine oS (fun t k => XS.iloadN X0.here hx rfl (hb hby d5_6) rfl k) ?_
  obtain ⟨T1, X1, e1, st1⟩ := getS2 X0 hx hZ hown (host := "") (Or.inl (oW hw 31 rfl)) Via.refl e0 ((wI16 W).ext O0.2) (g := (mkF m 7 #[.val (.int 0)] [(.int 0)])) rfl (hb hby d5_7)
  refine oS (fun t k => st1 t k) ?_
  try clear st1
  refine oS (fun t k => XS.icmpNo X1.here hx rfl (hb hby d5_10) rfl (flt (by decide)).2.2.1 k) ?_
  obtain ⟨T2, X2, e2, st2⟩ := getS2 X1 hx hZ hown (host := "") (Or.inl (oW hw 33 rfl)) Via.refl e1 ((wS2 W).ext O0.2) (g := (mkF m 13 #[.val (.int 0)] [])) rfl (hb hby d5_13)
  refine oS (fun t k => st2 t k) ?_
  show oG _ _ _ _ _ _ _ (T2.setTop (mkF m 16 #[.val (.int 0)] [(.ref (w 2))]))
  try clear st2 X1 e1
  try clear T1
  refine oS (fun t k => XS.iloadN X2.here hx rfl (hb hby d5_16) rfl k) ?_
  refine oS (fun t k => oSp ls_128 X2.here hx rfl (hb hby d5_17) k) ?_
  refine oS (S' := (T2.setTop (mkF m 21 #[.val (.int 0)] [(.int 128), (.ref (w 2))]))) (fun t k => XS.iadd X2.here hx rfl (hb hby d5_20) rfl (by rw [show (0 : Int32) + (128 : Int32) = (128 : Int32) from by decide]; exact k)) ?_
  obtain ⟨cl3, Ar3, Sz3, Hb3⟩ := (wB2 W)
  have Ax3 := Ar3.ext O0.2
  have hin3 : ¬ ((128 : Int32) < 0 ∨ cl3.slots.size ≤ ((128 : Int32)).toNatClampNeg) := (by rw [Sz3]; decide)
  obtain ⟨r3, hat3, Er3⟩ := Hb3 _ hin3
  refine oS (fun t k => X2.aaload hx (j := (128 : Int32)) (v := (.ref r3)) (by rw [e2]; exact Ax3.1) (State.isArrayOf_alike hZ.alike Ax3.2.1) rfl Ax3.2.2 hin3 hat3 (g := (mkF m 21 #[.val (.int 0)] [(.int 128), (.ref (w 2))])) rfl rfl (hb hby d5_21) t k) ?_
  exact own_ret (v := some (.ref r3)) X2 (fun h => by rw [Bd.returns] at h; cases h) Bd.notSynchronized (fun fs hr => retOut X2 hx (t := (.object "java/lang/Integer")) Bd.returns rfl (Or.inr (Or.inr (Or.inr (Or.inr ⟨rfl, rfl, rfl⟩)))) (hb hby d5_22) hr) (by rw [e2]; exact ⟨r3, rfl, N0, rfl, Er3⟩) (by decide) (by decide)
theorem ef_5_i_1 (m : MethodId)  : entryFrame m #[(.int 1)] 1 = mkF m 0 #[.val (.int 1)] [] := by first | (simp [entryFrame, mkF, argsToLocals, Value.category]; done) | rfl
def Q_val1 (Z : State)  (w : Nat → Addr) (h0 : Heap) (n0 : Nat) (v : Option Value) (h : Heap) (L : List Loc) : Prop := ∃ r : Addr, v = some (.ref r) ∧ Fr n0 L ∧ h = h0 ∧ Exa Z Z.heap r "java/lang/Integer"
theorem rm_val1 (l : Launch) (Z : State) (a0 : Array Value) (hw : ∀ d ∈ tables_1, d.before a0 Z = true) (ws : List Jvm.Cond)  (w : Nat → Addr) (h0 : Heap) (n0 : Nat) (O0 : Old Z n0 h0) (W : own_World Z w) :
    MetFree l mY11 (head1 (Jvm.Cond.code mY11 jdk_33_method_22_code 1 (some (.object "java/lang/Integer")) :: ws) R_3) (fun a U => a = #[(.int 1)] ∧ Z.Warmed39 U.vm ∧ U.heap = h0) (fun _ _ _ _ _ => True) (fun _ U o U' => ∃ v L, o = .returned v ∧ Q_val1 Z  w h0 n0 v U'.heap L ∧ FrameEnd U o U' L R_3.cells R_3.slots) := by
  refine MetFree.of_bodySF (plainFor_of_name pn_6) hisR ?_
  intro p e s m args below meth c s₁ Bd hml0 hP hK
  obtain ⟨rfl, hZ, hh⟩ := hP
  have hx := Bd.exec
  have hby := Bd.bytes
  have hml : c.maxLocals = 1 := hml0
  have hown : s.vm.findClass "java/lang/Integer" = some m.cls := findClass_of_methodNamed Bd.named
  have hnm := (name_of_methodNamed Bd.named Bd.method).1
  have X0 : Stand p l e R_3 s m #[(.int 1)] below meth c s₁ [] 0 0 := Stand.of_body Bd
  have e0 : s₁.heap = h0 := by rw [← hh, Bd.state]; rfl
  have N0 := Fr.nil n0
  show oG p e below s (Q_val1 Z  w h0 n0) R_3.cells R_3.slots _
  refine oS (fun t k => castTop (ef_5_i_1 m ) k) ?_
  show oG _ _ _ _ _ _ _ (s₁.setTop (mkF m 0 #[.val (.int 1)] []))
  refine oS (fun t k => XS.iloadN X0.here hx rfl (hb hby d5_0) rfl k) ?_
  refine oS (fun t k => oBp lb_m128 X0.here hx rfl (hb hby d5_1) k) ?_
  refine oS (fun t k => XS.icmpNo X0.here hx rfl (hb hby d5_3) rfl (flt (by decide)).1 k) ?_
  refine oS (fun t k => XS.iloadN X0.here hx rfl (hb hby d5_6) rfl k) ?_
  obtain ⟨T1, X1, e1, st1⟩ := getS2 X0 hx hZ hown (host := "") (Or.inl (oW hw 31 rfl)) Via.refl e0 ((wI16 W).ext O0.2) (g := (mkF m 7 #[.val (.int 1)] [(.int 1)])) rfl (hb hby d5_7)
  refine oS (fun t k => st1 t k) ?_
  try clear st1
  refine oS (fun t k => XS.icmpNo X1.here hx rfl (hb hby d5_10) rfl (flt (by decide)).2.2.1 k) ?_
  obtain ⟨T2, X2, e2, st2⟩ := getS2 X1 hx hZ hown (host := "") (Or.inl (oW hw 33 rfl)) Via.refl e1 ((wS2 W).ext O0.2) (g := (mkF m 13 #[.val (.int 1)] [])) rfl (hb hby d5_13)
  refine oS (fun t k => st2 t k) ?_
  show oG _ _ _ _ _ _ _ (T2.setTop (mkF m 16 #[.val (.int 1)] [(.ref (w 2))]))
  try clear st2 X1 e1
  try clear T1
  refine oS (fun t k => XS.iloadN X2.here hx rfl (hb hby d5_16) rfl k) ?_
  refine oS (fun t k => oSp ls_128 X2.here hx rfl (hb hby d5_17) k) ?_
  refine oS (S' := (T2.setTop (mkF m 21 #[.val (.int 1)] [(.int 129), (.ref (w 2))]))) (fun t k => XS.iadd X2.here hx rfl (hb hby d5_20) rfl (by rw [show (1 : Int32) + (128 : Int32) = (129 : Int32) from by decide]; exact k)) ?_
  obtain ⟨cl3, Ar3, Sz3, Hb3⟩ := (wB2 W)
  have Ax3 := Ar3.ext O0.2
  have hin3 : ¬ ((129 : Int32) < 0 ∨ cl3.slots.size ≤ ((129 : Int32)).toNatClampNeg) := (by rw [Sz3]; decide)
  obtain ⟨r3, hat3, Er3⟩ := Hb3 _ hin3
  refine oS (fun t k => X2.aaload hx (j := (129 : Int32)) (v := (.ref r3)) (by rw [e2]; exact Ax3.1) (State.isArrayOf_alike hZ.alike Ax3.2.1) rfl Ax3.2.2 hin3 hat3 (g := (mkF m 21 #[.val (.int 1)] [(.int 129), (.ref (w 2))])) rfl rfl (hb hby d5_21) t k) ?_
  exact own_ret (v := some (.ref r3)) X2 (fun h => by rw [Bd.returns] at h; cases h) Bd.notSynchronized (fun fs hr => retOut X2 hx (t := (.object "java/lang/Integer")) Bd.returns rfl (Or.inr (Or.inr (Or.inr (Or.inr ⟨rfl, rfl, rfl⟩)))) (hb hby d5_22) hr) (by rw [e2]; exact ⟨r3, rfl, N0, rfl, Er3⟩) (by decide) (by decide)
theorem d11_0 : decode prog_77_method_1_code 0 = .ok (.aload_n 0, 1) := by decide +kernel
theorem d11_1 : decode prog_77_method_1_code 1 = .ok (.invokespecial 1, 3) := by decide +kernel
theorem d11_4 : decode prog_77_method_1_code 4 = .ok (.aload_n 0, 1) := by decide +kernel
theorem d11_5 : decode prog_77_method_1_code 5 = .ok (.iload_n 1, 1) := by decide +kernel
theorem d11_6 : decode prog_77_method_1_code 6 = .ok (.putfield 7, 3) := by decide +kernel
theorem d11_9 : decode prog_77_method_1_code 9 = .ok (.aload_n 0, 1) := by decide +kernel
theorem d11_10 : decode prog_77_method_1_code 10 = .ok (.iload_n 2, 1) := by decide +kernel
theorem d11_11 : decode prog_77_method_1_code 11 = .ok (.putfield 13, 3) := by decide +kernel
theorem d11_14 : decode prog_77_method_1_code 14 = .ok (.aload_n 0, 1) := by decide +kernel
theorem d11_15 : decode prog_77_method_1_code 15 = .ok (.iload_n 3, 1) := by decide +kernel
theorem d11_16 : decode prog_77_method_1_code 16 = .ok (.putfield 16, 3) := by decide +kernel
theorem d11_19 : decode prog_77_method_1_code 19 = .ok (.aload_n 0, 1) := by decide +kernel
theorem d11_20 : decode prog_77_method_1_code 20 = .ok (.iload 4, 2) := by decide +kernel
theorem d11_22 : decode prog_77_method_1_code 22 = .ok (.putfield 19, 3) := by decide +kernel
theorem d11_25 : decode prog_77_method_1_code 25 = .ok (.return_, 1) := by decide +kernel
abbrev mY12 : MethodName := (⟨"com/example/shiftweave/shiftweave/rostering/ShiftRequest", "<init>", "(IIII)V"⟩ : MethodName)
theorem ef_11_riiii (m : MethodId) (x0 : Addr) (x1 : Int32) (x2 : Int32) (x3 : Int32) (x4 : Int32) : entryFrame m #[(.ref x0), (.int x1), (.int x2), (.int x3), (.int x4)] 5 = mkF m 0 #[.val (.ref x0), .val (.int x1), .val (.int x2), .val (.int x3), .val (.int x4)] [] := by first | (simp [entryFrame, mkF, argsToLocals, Value.category]; done) | rfl
theorem pn_7 : plainName "com/example/shiftweave/shiftweave/rostering/ShiftRequest" = true := by first | (simp [plainName, overriddenIn]; done) | decide +kernel
def Q_srinit (Z : State) (a1 : Addr) (p2 : Int32) (p3 : Int32) (p4 : Int32) (p5 : Int32) (u_staff : Value) (u_day : Value) (u_shift : Value) (u_weight : Value) (w : Nat → Addr) (h0 : Heap) (n0 : Nat) (v : Option Value) (h : Heap) (L : List Loc) : Prop := v = none ∧ Fr n0 L ∧ Keep h0 h [a1] ∧ Exa Z h a1 "com/example/shiftweave/shiftweave/rostering/ShiftRequest" ∧ Fld Z h a1 "com/example/shiftweave/shiftweave/rostering/ShiftRequest" "staff" "I" (.int p2) ∧ Fld Z h a1 "com/example/shiftweave/shiftweave/rostering/ShiftRequest" "day" "I" (.int p3) ∧ Fld Z h a1 "com/example/shiftweave/shiftweave/rostering/ShiftRequest" "shift" "I" (.int p4) ∧ Fld Z h a1 "com/example/shiftweave/shiftweave/rostering/ShiftRequest" "weight" "I" (.int p5)
theorem rm_srinit (l : Launch) (Z : State) (a0 : Array Value) (hw : ∀ d ∈ tables_1, d.before a0 Z = true) (ws : List Jvm.Cond) (a1 : Addr) (p2 : Int32) (p3 : Int32) (p4 : Int32) (p5 : Int32) (u_staff : Value) (u_day : Value) (u_shift : Value) (u_weight : Value) (w : Nat → Addr) (h0 : Heap) (n0 : Nat) (O0 : Old Z n0 h0) (W : own_World Z w) (E_a1 : Exa Z h0 a1 "com/example/shiftweave/shiftweave/rostering/ShiftRequest") (g_a1 : n0 ≤ a1) (F_staff_a1 : Fld Z h0 a1 "com/example/shiftweave/shiftweave/rostering/ShiftRequest" "staff" "I" u_staff) (F_day_a1 : Fld Z h0 a1 "com/example/shiftweave/shiftweave/rostering/ShiftRequest" "day" "I" u_day) (F_shift_a1 : Fld Z h0 a1 "com/example/shiftweave/shiftweave/rostering/ShiftRequest" "shift" "I" u_shift) (F_weight_a1 : Fld Z h0 a1 "com/example/shiftweave/shiftweave/rostering/ShiftRequest" "weight" "I" u_weight) :
    MetFree l mY12 (head1 (Jvm.Cond.code mY12 prog_77_method_1_code 5 none :: ws) R_1) (fun a U => a = #[(.ref a1), (.int p2), (.int p3), (.int p4), (.int p5)] ∧ Z.Warmed39 U.vm ∧ U.heap = h0) (fun _ _ _ _ _ => True) (fun _ U o U' => ∃ v L, o = .returned v ∧ Q_srinit Z a1 p2 p3 p4 p5 u_staff u_day u_shift u_weight w h0 n0 v U'.heap L ∧ FrameEnd U o U' L R_1.cells R_1.slots) := by
  refine MetFree.of_bodySF (plainFor_of_name pn_7) hisR ?_
  intro p e s m args below meth c s₁ Bd hml0 hP hK
  obtain ⟨rfl, hZ, hh⟩ := hP
  have hx := Bd.exec
  have hby := Bd.bytes
  have hml : c.maxLocals = 5 := hml0
  have hown : s.vm.findClass "com/example/shiftweave/shiftweave/rostering/ShiftRequest" = some m.cls := findClass_of_methodNamed Bd.named
  have hnm := (name_of_methodNamed Bd.named Bd.method).1
  have X0 : Stand p l e R_1 s m #[(.ref a1), (.int p2), (.int p3), (.int p4), (.int p5)] below meth c s₁ [] 0 0 := Stand.of_body Bd
  have e0 : s₁.heap = h0 := by rw [← hh, Bd.state]; rfl
  have N0 := Fr.nil n0
  show oG p e below s (Q_srinit Z a1 p2 p3 p4 p5 u_staff u_day u_shift u_weight w h0 n0) R_1.cells R_1.slots _
  refine oS (fun t k => castTop (ef_11_riiii m a1 p2 p3 p4 p5) k) ?_
  show oG _ _ _ _ _ _ _ (s₁.setTop (mkF m 0 #[.val (.ref a1), .val (.int p2), .val (.int p3), .val (.int p4), .val (.int p5)] []))
  refine oS (fun t k => XS.aloadN X0.here hx rfl (hb hby d11_0) rfl rfl k) ?_
  obtain ⟨_, _, ⟨T1, L1, k1, n1⟩, -, X1, ⟨Lc1, hQ1, l1, y1, z1⟩, st1⟩ := X0.specialBack hx (y := mY1) rfl hown (oM hZ hw 71 rfl) (oM hZ hw 72 rfl) (oM hZ hw 75 rfl) (by decide) (backOf (W := 0) (rm_rec l Z a0 hw [] a1  h0 n0 O0  ) hZ (oW hw 75 rfl) (oW hw 74 rfl) (by decide) (by decide)) (g := (mkF m 1 #[.val (.ref a1), .val (.int p2), .val (.int p3), .val (.int p4), .val (.int p5)] [(.ref a1)])) rfl (by rw [hml]; rfl) (Steps.refl _) (a := a1) (argsL := []) (rest := []) (lenOf pd_0 rfl) rfl (by show 2 * 0 + _ ≤ _; exact Nat.le_of_eq rfl) (hb hby d11_1) (fun _ _ => ⟨rfl, e0, (by decide : 0 + 0 ≤ _), (by decide : 0 + 0 ≤ _)⟩)
  dsimp only [Pt.U, Pt.locs, Pt.cells, Pt.slots] at X1 l1 y1 z1 st1 hQ1
  rw [l1, y1, z1] at X1
  clear l1 y1 z1
  obtain ⟨rfl, Nq1, e1⟩ := hQ1
  have N1 := Fr.app N0 Nq1
  refine oS (fun t k => st1.trans k) ?_
  show oG _ _ _ _ _ _ _ (T1.setTop (mkF m 4 #[.val (.ref a1), .val (.int p2), .val (.int p3), .val (.int p4), .val (.int p5)] []))
  try clear st1
  refine oS (fun t k => XS.aloadN X1.here hx rfl (hb hby d11_4) rfl rfl k) ?_
  refine oS (fun t k => XS.iloadN X1.here hx rfl (hb hby d11_5) rfl k) ?_
  obtain ⟨T2, h2, X2, e2, W2, st2⟩ := putF X1 hx hZ hown (host := "") (Or.inl (oW hw 77 rfl)) Via.refl e1 F_staff_a1 E_a1 (Or.inr ⟨(oW hw 78 rfl), rfl, hnm⟩) (oW hw 66 rfl) (ty := .int) (by decide) rfl rfl (g := (mkF m 6 #[.val (.ref a1), .val (.int p2), .val (.int p3), .val (.int p4), .val (.int p5)] [(.int p2), (.ref a1)])) rfl rfl (hb hby d11_6)
  have O2 := O0.wr W2 g_a1
  have N2 := Fr.snoc X2 N1 g_a1
  have Kp2 : Keep h0 h2 [a1] := (Keep.refl h0 [a1]).wr W2 (Or.inl (List.mem_of_getElem? (i := 0) rfl))
  have Fw2 := F_staff_a1.same W2
  refine oS (fun t k => st2 t k) ?_
  try clear st2 X1 e1
  refine oS (fun t k => XS.aloadN X2.here hx rfl (hb hby d11_9) rfl rfl k) ?_
  refine oS (fun t k => XS.iloadN X2.here hx rfl (hb hby d11_10) rfl k) ?_
  obtain ⟨T3, h3, X3, e3, W3, st3⟩ := putF X2 hx hZ hown (host := "") (Or.inl (oW hw 79 rfl)) Via.refl e2 (F_day_a1.other W2 (Or.inr (slot_ne (Or.inr (oW hw 80 rfl)) (Or.inr (oW hw 78 rfl)) (by decide) (t := .int) (t' := .int) (by decide) (by decide)))) (E_a1.wr W2) (Or.inr ⟨(oW hw 80 rfl), rfl, hnm⟩) (oW hw 66 rfl) (ty := .int) (by decide) rfl rfl (g := (mkF m 11 #[.val (.ref a1), .val (.int p2), .val (.int p3), .val (.int p4), .val (.int p5)] [(.int p3), (.ref a1)])) rfl rfl (hb hby d11_11)
  have O3 := O2.wr W3 g_a1
  have N3 := Fr.snoc X3 N2 g_a1
  have Kp3 : Keep h0 h3 [a1] := Kp2.wr W3 (Or.inl (List.mem_of_getElem? (i := 0) rfl))
  have Fw3 := (F_day_a1.other W2 (Or.inr (slot_ne (Or.inr (oW hw 80 rfl)) (Or.inr (oW hw 78 rfl)) (by decide) (t := .int) (t' := .int) (by decide) (by decide)))).same W3
  refine oS (fun t k => st3 t k) ?_
  try clear st3 X2 e2
  try clear T2
  refine oS (fun t k => XS.aloadN X3.here hx rfl (hb hby d11_14) rfl rfl k) ?_
  show oG _ _ _ _ _ _ _ (T3.setTop (mkF m 15 #[.val (.ref a1), .val (.int p2), .val (.int p3), .val (.int p4), .val (.int p5)] [(.ref a1)]))
  refine oS (fun t k => XS.iloadN X3.here hx rfl (hb hby d11_15) rfl k) ?_
  obtain ⟨T4, h4, X4, e4, W4, st4⟩ := putF X3 hx hZ hown (host := "") (Or.inl (oW hw 81 rfl)) Via.refl e3 ((F_shift_a1.other W2 (Or.inr (slot_ne (Or.inr (oW hw 82 rfl)) (Or.inr (oW hw 78 rfl)) (by decide) (t := .int) (t' := .int) (by decide) (by decide)))).other W3 (Or.inr (slot_ne (Or.inr (oW hw 82 rfl)) (Or.inr (oW hw 80 rfl)) (by decide) (t := .int) (t' := .int) (by decide) (by decide)))) ((E_a1.wr W2).wr W3) (Or.inr ⟨(oW hw 82 rfl), rfl, hnm⟩) (oW hw 66 rfl) (ty := .int) (by decide) rfl rfl (g := (mkF m 16 #[.val (.ref a1), .val (.int p2), .val (.int p3), .val (.int p4), .val (.int p5)] [(.int p4), (.ref a1)])) rfl rfl (hb hby d11_16)
  have O4 := O3.wr W4 g_a1
  have N4 := Fr.snoc X4 N3 g_a1
  have Kp4 : Keep h0 h4 [a1] := Kp3.wr W4 (Or.inl (List.mem_of_getElem? (i := 0) rfl))
  have Fw4 := ((F_shift_a1.other W2 (Or.inr (slot_ne (Or.inr (oW hw 82 rfl)) (Or.inr (oW hw 78 rfl)) (by decide) (t := .int) (t' := .int) (by decide) (by decide)))).other W3 (Or.inr (slot_ne (Or.inr (oW hw 82 rfl)) (Or.inr (oW hw 80 rfl)) (by decide) (t := .int) (t' := .int) (by decide) (by decide)))).same W4
  refine oS (fun t k => st4 t k) ?_
  try clear st4 X3 e3
  try clear T3
  refine oS (fun t k => XS.aloadN X4.here hx rfl (hb hby d11_19) rfl rfl k) ?_
  refine oS (fun t k => XS.iload X4.here hx rfl (hb hby d11_20) rfl k) ?_
  obtain ⟨T5, h5, X5, e5, W5, st5⟩ := putF X4 hx hZ hown (host := "") (Or.inl (oW hw 83 rfl)) Via.refl e4 (((F_weight_a1.other W2 (Or.inr (slot_ne (Or.inr (oW hw 84 rfl)) (Or.inr (oW hw 78 rfl)) (by decide) (t := .int) (t' := .int) (by decide) (by decide)))).other W3 (Or.inr (slot_ne (Or.inr (oW hw 84 rfl)) (Or.inr (oW hw 80 rfl)) (by decide) (t := .int) (t' := .int) (by decide) (by decide)))).other W4 (Or.inr (slot_ne (Or.inr (oW hw 84 rfl)) (Or.inr (oW hw 82 rfl)) (by decide) (t := .int) (t' := .int) (by decide) (by decide)))) (((E_a1.wr W2).wr W3).wr W4) (Or.inr ⟨(oW hw 84 rfl), rfl, hnm⟩) (oW hw 66 rfl) (ty := .int) (by decide) rfl rfl (g := (mkF m 22 #[.val (.ref a1), .val (.int p2), .val (.int p3), .val (.int p4), .val (.int p5)] [(.int p5), (.ref a1)])) rfl rfl (hb hby d11_22)
  have O5 := O4.wr W5 g_a1
  have N5 := Fr.snoc X5 N4 g_a1
  have Kp5 : Keep h0 h5 [a1] := Kp4.wr W5 (Or.inl (List.mem_of_getElem? (i := 0) rfl))
  have Fw5 := (((F_weight_a1.other W2 (Or.inr (slot_ne (Or.inr (oW hw 84 rfl)) (Or.inr (oW hw 78 rfl)) (by decide) (t := .int) (t' := .int) (by decide) (by decide)))).other W3 (Or.inr (slot_ne (Or.inr (oW hw 84 rfl)) (Or.inr (oW hw 80 rfl)) (by decide) (t := .int) (t' := .int) (by decide) (by decide)))).other W4 (Or.inr (slot_ne (Or.inr (oW hw 84 rfl)) (Or.inr (oW hw 82 rfl)) (by decide) (t := .int) (t' := .int) (by decide) (by decide)))).same W5
  refine oS (fun t k => st5 t k) ?_
  try clear st5 X4 e4
  try clear T4
  exact own_ret (v := none) X5 (fun _ => rfl) Bd.notSynchronized (fun fs hr => X5.returnOut hx Bd.returns (hb hby d11_25) hr) (by rw [e5]; exact ⟨rfl, N5, Kp5, ((((E_a1.wr W2).wr W3).wr W4).wr W5), (((Fw2.other W3 (Or.inr (slot_ne (Or.inr (oW hw 78 rfl)) (Or.inr (oW hw 80 rfl)) (by decide) (t := .int) (t' := .int) (by decide) (by decide)))).other W4 (Or.inr (slot_ne (Or.inr (oW hw 78 rfl)) (Or.inr (oW hw 82 rfl)) (by decide) (t := .int) (t' := .int) (by decide) (by decide)))).other W5 (Or.inr (slot_ne (Or.inr (oW hw 78 rfl)) (Or.inr (oW hw 84 rfl)) (by decide) (t := .int) (t' := .int) (by decide) (by decide)))), ((Fw3.other W4 (Or.inr (slot_ne (Or.inr (oW hw 80 rfl)) (Or.inr (oW hw 82 rfl)) (by decide) (t := .int) (t' := .int) (by decide) (by decide)))).other W5 (Or.inr (slot_ne (Or.inr (oW hw 80 rfl)) (Or.inr (oW hw 84 rfl)) (by decide) (t := .int) (t' := .int) (by decide) (by decide)))), (Fw4.other W5 (Or.inr (slot_ne (Or.inr (oW hw 82 rfl)) (Or.inr (oW hw 84 rfl)) (by decide) (t := .int) (t' := .int) (by decide) (by decide)))), Fw5⟩) (by decide) (by decide)
theorem d20_0 : decode jdk_29_method_69_code 0 = .ok (.iload_n 0, 1) := by decide +kernel
theorem d20_1 : decode jdk_29_method_69_code 1 = .ok (.iload_n 1, 1) := by decide +kernel
theorem d20_2 : decode jdk_29_method_69_code 2 = .ok (.if_icmp .gt 7, 3) := by decide +kernel
theorem d20_9 : decode jdk_29_method_69_code 9 = .ok (.iload_n 1, 1) := by decide +kernel
theorem d20_10 : decode jdk_29_method_69_code 10 = .ok (.ireturn, 1) := by decide +kernel
abbrev mY13 : MethodName := (⟨"java/lang/Math", "min", "(II)I"⟩ : MethodName)
theorem ef_20_ii_10_1 (m : MethodId)  : entryFrame m #[(.int 10), (.int 1)] 2 = mkF m 0 #[.val (.int 10), .val (.int 1)] [] := by first | (simp [entryFrame, mkF, argsToLocals, Value.category]; done) | rfl
def Q_min1 (Z : State)  (h0 : Heap) (n0 : Nat) (v : Option Value) (h : Heap) (L : List Loc) : Prop := v = some (.int 1) ∧ Fr n0 L ∧ h = h0
theorem rm_min1 (l : Launch) (Z : State) (a0 : Array Value) (hw : ∀ d ∈ tables_1, d.before a0 Z = true) (ws : List Jvm.Cond)  (h0 : Heap) (n0 : Nat) (O0 : Old Z n0 h0) :
    MetFree l mY13 (head1 (Jvm.Cond.code mY13 jdk_29_method_69_code 2 (some .int) :: ws) R_3) (fun a U => a = #[(.int 10), (.int 1)] ∧ Z.Warmed39 U.vm ∧ U.heap = h0) (fun _ _ _ _ _ => True) (fun _ U o U' => ∃ v L, o = .returned v ∧ Q_min1 Z  h0 n0 v U'.heap L ∧ FrameEnd U o U' L R_3.cells R_3.slots) := by
  refine MetFree.of_bodySF (Jvm.Free.JP.mathPlain rfl (by decide +kernel)) hisR ?_
  intro p e s m args below meth c s₁ Bd hml0 hP hK
  obtain ⟨rfl, hZ, hh⟩ := hP
  have hx := Bd.exec
  have hby := Bd.bytes
  have hml : c.maxLocals = 2 := hml0
  have hown : s.vm.findClass "java/lang/Math" = some m.cls := findClass_of_methodNamed Bd.named
  have hnm := (name_of_methodNamed Bd.named Bd.method).1
  have X0 : Stand p l e R_3 s m #[(.int 10), (.int 1)] below meth c s₁ [] 0 0 := Stand.of_body Bd
  have e0 : s₁.heap = h0 := by rw [← hh, Bd.state]; rfl
  have N0 := Fr.nil n0
  show oG p e below s (Q_min1 Z  h0 n0) R_3.cells R_3.slots _
  refine oS (fun t k => castTop (ef_20_ii_10_1 m ) k) ?_
  show oG _ _ _ _ _ _ _ (s₁.setTop (mkF m 0 #[.val (.int 10), .val (.int 1)] []))
  refine oS (fun t k => XS.iloadN X0.here hx rfl (hb hby d20_0) rfl k) ?_
  refine oS (fun t k => XS.iloadN X0.here hx rfl (hb hby d20_1) rfl k) ?_
  refine oS (fun t k => XS.icmpYes X0.here hx rfl (pc0 := 2) (pc' := 9) rfl (hb hby d20_2) rfl (tlt (by decide)).2.2.1 (by decide) (by decide) k) ?_
  refine oS (fun t k => XS.iloadN X0.here hx rfl (hb hby d20_9) rfl k) ?_
  exact own_ret (v := some (.int 1)) X0 (fun h => by rw [Bd.returns] at h; cases h) Bd.notSynchronized (fun fs hr => retOut X0 hx (t := .int) Bd.returns rfl (Or.inl ⟨rfl, Or.inl rfl, _, rfl⟩) (hb hby d20_10) hr) (by rw [e0]; exact ⟨rfl, N0, rfl⟩) (by decide) (by decide)
theorem ef_20_ii_10_2 (m : MethodId)  : entryFrame m #[(.int 10), (.int 2)] 2 = mkF m 0 #[.val (.int 10), .val (.int 2)] [] := by first | (simp [entryFrame, mkF, argsToLocals, Value.category]; done) | rfl
def Q_min2 (Z : State)  (h0 : Heap) (n0 : Nat) (v : Option Value) (h : Heap) (L : List Loc) : Prop := v = some (.int 2) ∧ Fr n0 L ∧ h = h0
theorem rm_min2 (l : Launch) (Z : State) (a0 : Array Value) (hw : ∀ d ∈ tables_1, d.before a0 Z = true) (ws : List Jvm.Cond)  (h0 : Heap) (n0 : Nat) (O0 : Old Z n0 h0) :
    MetFree l mY13 (head1 (Jvm.Cond.code mY13 jdk_29_method_69_code 2 (some .int) :: ws) R_3) (fun a U => a = #[(.int 10), (.int 2)] ∧ Z.Warmed39 U.vm ∧ U.heap = h0) (fun _ _ _ _ _ => True) (fun _ U o U' => ∃ v L, o = .returned v ∧ Q_min2 Z  h0 n0 v U'.heap L ∧ FrameEnd U o U' L R_3.cells R_3.slots) := by
  refine MetFree.of_bodySF (Jvm.Free.JP.mathPlain rfl (by decide +kernel)) hisR ?_
  intro p e s m args below meth c s₁ Bd hml0 hP hK
  obtain ⟨rfl, hZ, hh⟩ := hP
  have hx := Bd.exec
  have hby := Bd.bytes
  have hml : c.maxLocals = 2 := hml0
  have hown : s.vm.findClass "java/lang/Math" = some m.cls := findClass_of_methodNamed Bd.named
  have hnm := (name_of_methodNamed Bd.named Bd.method).1
  have X0 : Stand p l e R_3 s m #[(.int 10), (.int 2)] below meth c s₁ [] 0 0 := Stand.of_body Bd
  have e0 : s₁.heap = h0 := by rw [← hh, Bd.state]; rfl
  have N0 := Fr.nil n0
  show oG p e below s (Q_min2 Z  h0 n0) R_3.cells R_3.slots _
  refine oS (fun t k => castTop (ef_20_ii_10_2 m ) k) ?_
  show oG _ _ _ _ _ _ _ (s₁.setTop (mkF m 0 #[.val (.int 10), .val (.int 2)] []))
  refine oS (fun t k => XS.iloadN X0.here hx rfl (hb hby d20_0) rfl k) ?_
  refine oS (fun t k => XS.iloadN X0.here hx rfl (hb hby d20_1) rfl k) ?_
  refine oS (fun t k => XS.icmpYes X0.here hx rfl (pc0 := 2) (pc' := 9) rfl (hb hby d20_2) rfl (tlt (by decide)).2.2.1 (by decide) (by decide) k) ?_
  refine oS (fun t k => XS.iloadN X0.here hx rfl (hb hby d20_9) rfl k) ?_
  exact own_ret (v := some (.int 2)) X0 (fun h => by rw [Bd.returns] at h; cases h) Bd.notSynchronized (fun fs hr => retOut X0 hx (t := .int) Bd.returns rfl (Or.inl ⟨rfl, Or.inl rfl, _, rfl⟩) (hb hby d20_10) hr) (by rw [e0]; exact ⟨rfl, N0, rfl⟩) (by decide) (by decide)
theorem d16_0 : decode jdk_38_method_9_code 0 = .ok (.aload_n 0, 1) := by decide +kernel
theorem d16_1 : decode jdk_38_method_9_code 1 = .ok (.getfield 48, 3) := by decide +kernel
theorem d16_4 : decode jdk_38_method_9_code 4 = .ok (.ifCond .ne 7, 3) := by decide +kernel
theorem d16_7 : decode jdk_38_method_9_code 7 = .ok (.iconst 1, 1) := by decide +kernel
theorem d16_8 : decode jdk_38_method_9_code 8 = .ok (.goto 4, 3) := by decide +kernel
theorem d16_12 : decode jdk_38_method_9_code 12 = .ok (.ireturn, 1) := by decide +kernel
abbrev mY14 : MethodName := (⟨"java/util/ArrayList", "isEmpty", "()Z"⟩ : MethodName)
theorem ef_16_r (m : MethodId) (x0 : Addr) : entryFrame m #[(.ref x0)] 1 = mkF m 0 #[.val (.ref x0)] [] := by first | (simp [entryFrame, mkF, argsToLocals, Value.category]; done) | rfl
def Q_isE0 (Z : State) (a1 : Addr) (h0 : Heap) (n0 : Nat) (v : Option Value) (h : Heap) (L : List Loc) : Prop := v = some (.int 1) ∧ Fr n0 L ∧ h = h0
theorem rm_isE0 (l : Launch) (Z : State) (a0 : Array Value) (hw : ∀ d ∈ tables_1, d.before a0 Z = true) (ws : List Jvm.Cond) (a1 : Addr) (h0 : Heap) (n0 : Nat) (O0 : Old Z n0 h0) (F_size_a1 : Fld Z h0 a1 "java/util/ArrayList" "size" "I" (.int 0)) :
    MetFree l mY14 (head1 (Jvm.Cond.code mY14 jdk_38_method_9_code 1 (some .boolean) :: ws) R_3) (fun a U => a = #[(.ref a1)] ∧ Z.Warmed39 U.vm ∧ U.heap = h0) (fun _ _ _ _ _ => True) (fun _ U o U' => ∃ v L, o = .returned v ∧ Q_isE0 Z a1 h0 n0 v U'.heap L ∧ FrameEnd U o U' L R_3.cells R_3.slots) := by
  refine MetFree.of_bodySF (plainFor_of_name pn_5) hisR ?_
  intro p e s m args below meth c s₁ Bd hml0 hP hK
  obtain ⟨rfl, hZ, hh⟩ := hP
  have hx := Bd.exec
  have hby := Bd.bytes
  have hml : c.maxLocals = 1 := hml0
  have hown : s.vm.findClass "java/util/ArrayList" = some m.cls := findClass_of_methodNamed Bd.named
  have hnm := (name_of_methodNamed Bd.named Bd.method).1
  have X0 : Stand p l e R_3 s m #[(.ref a1)] below meth c s₁ [] 0 0 := Stand.of_body Bd
  have e0 : s₁.heap = h0 := by rw [← hh, Bd.state]; rfl
  have N0 := Fr.nil n0
  show oG p e below s (Q_isE0 Z a1 h0 n0) R_3.cells R_3.slots _
  refine oS (fun t k => castTop (ef_16_r m a1) k) ?_
  show oG _ _ _ _ _ _ _ (s₁.setTop (mkF m 0 #[.val (.ref a1)] []))
  refine oS (fun t k => XS.aloadN X0.here hx rfl (hb hby d16_0) rfl rfl k) ?_
  obtain ⟨T1, X1, e1, st1⟩ := getF X0 hx hZ hown (host := "") (Or.inl (oW hw 41 rfl)) Via.refl e0 F_size_a1 (g := (mkF m 1 #[.val (.ref a1)] [(.ref a1)])) rfl rfl (hb hby d16_1)
  refine oS (fun t k => st1 t k) ?_
  try clear st1
  refine oS (fun t k => XS.ifNo X1.here hx rfl (hb hby d16_4) rfl ((if0 _ _).trans (teq (by decide)).2) k) ?_
  refine oS (fun t k => oIc li_1 X1.here hx rfl (hb hby d16_7) k) ?_
  refine oS (fun t k => XS.goto X1.here hx rfl (pc0 := 8) (pc' := 12) rfl (hb hby d16_8) (by decide) (by decide) k) ?_
  exact own_ret (v := some (.int 1)) X1 (fun h => by rw [Bd.returns] at h; cases h) Bd.notSynchronized (fun fs hr => retN X1 hx (t := .boolean) Bd.returns (by simp) (hb hby d16_12) hr) (by rw [e1]; exact ⟨rfl, N0, rfl⟩) (by decide) (by decide)
theorem d16_11 : decode jdk_38_method_9_code 11 = .ok (.iconst 0, 1) := by decide +kernel
def Q_isE1 (Z : State) (a1 : Addr) (h0 : Heap) (n0 : Nat) (v : Option Value) (h : Heap) (L : List Loc) : Prop := v = some (.int 0) ∧ Fr n0 L ∧ h = h0
theorem rm_isE1 (l : Launch) (Z : State) (a0 : Array Value) (hw : ∀ d ∈ tables_1, d.before a0 Z = true) (ws : List Jvm.Cond) (a1 : Addr) (h0 : Heap) (n0 : Nat) (O0 : Old Z n0 h0) (F_size_a1 : Fld Z h0 a1 "java/util/ArrayList" "size" "I" (.int 1)) :
    MetFree l mY14 (head1 (Jvm.Cond.code mY14 jdk_38_method_9_code 1 (some .boolean) :: ws) R_3) (fun a U => a = #[(.ref a1)] ∧ Z.Warmed39 U.vm ∧ U.heap = h0) (fun _ _ _ _ _ => True) (fun _ U o U' => ∃ v L, o = .returned v ∧ Q_isE1 Z a1 h0 n0 v U'.heap L ∧ FrameEnd U o U' L R_3.cells R_3.slots) := by
  refine MetFree.of_bodySF (plainFor_of_name pn_5) hisR ?_
  intro p e s m args below meth c s₁ Bd hml0 hP hK
  obtain ⟨rfl, hZ, hh⟩ := hP
  have hx := Bd.exec
  have hby := Bd.bytes
  have hml : c.maxLocals = 1 := hml0
  have hown : s.vm.findClass "java/util/ArrayList" = some m.cls := findClass_of_methodNamed Bd.named
  have hnm := (name_of_methodNamed Bd.named Bd.method).1
  have X0 : Stand p l e R_3 s m #[(.ref a1)] below meth c s₁ [] 0 0 := Stand.of_body Bd
  have e0 : s₁.heap = h0 := by rw [← hh, Bd.state]; rfl
  have N0 := Fr.nil n0
  show oG p e below s (Q_isE1 Z a1 h0 n0) R_3.cells R_3.slots _
  refine oS (fun t k => castTop (ef_16_r m a1) k) ?_
  show oG _ _ _ _ _ _ _ (s₁.setTop (mkF m 0 #[.val (.ref a1)] []))
  refine oS (fun t k => XS.aloadN X0.here hx rfl (hb hby d16_0) rfl rfl k) ?_
  obtain ⟨T1, X1, e1, st1⟩ := getF X0 hx hZ hown (host := "") (Or.inl (oW hw 41 rfl)) Via.refl e0 F_size_a1 (g := (mkF m 1 #[.val (.ref a1)] [(.ref a1)])) rfl rfl (hb hby d16_1)
  refine oS (fun t k => st1 t k) ?_
  try clear st1
  refine oS (fun t k => XS.ifYes X1.here hx rfl (pc0 := 4) (pc' := 11) rfl (hb hby d16_4) rfl ((if0 _ _).trans (feq (by decide)).2) (by decide) (by decide) k) ?_
  refine oS (fun t k => oIc li_0 X1.here hx rfl (hb hby d16_11) k) ?_
  exact own_ret (v := some (.int 0)) X1 (fun h => by rw [Bd.returns] at h; cases h) Bd.notSynchronized (fun fs hr => retN X1 hx (t := .boolean) Bd.returns (by simp) (hb hby d16_12) hr) (by rw [e1]; exact ⟨rfl, N0, rfl⟩) (by decide) (by decide)
def Q_isE2 (Z : State) (a1 : Addr) (h0 : Heap) (n0 : Nat) (v : Option Value) (h : Heap) (L : List Loc) : Prop := v = some (.int 0) ∧ Fr n0 L ∧ h = h0
theorem rm_isE2 (l : Launch) (Z : State) (a0 : Array Value) (hw : ∀ d ∈ tables_1, d.before a0 Z = true) (ws : List Jvm.Cond) (a1 : Addr) (h0 : Heap) (n0 : Nat) (O0 : Old Z n0 h0) (F_size_a1 : Fld Z h0 a1 "java/util/ArrayList" "size" "I" (.int 2)) :
    MetFree l mY14 (head1 (Jvm.Cond.code mY14 jdk_38_method_9_code 1 (some .boolean) :: ws) R_3) (fun a U => a = #[(.ref a1)] ∧ Z.Warmed39 U.vm ∧ U.heap = h0) (fun _ _ _ _ _ => True) (fun _ U o U' => ∃ v L, o = .returned v ∧ Q_isE2 Z a1 h0 n0 v U'.heap L ∧ FrameEnd U o U' L R_3.cells R_3.slots) := by
  refine MetFree.of_bodySF (plainFor_of_name pn_5) hisR ?_
  intro p e s m args below meth c s₁ Bd hml0 hP hK
  obtain ⟨rfl, hZ, hh⟩ := hP
  have hx := Bd.exec
  have hby := Bd.bytes
  have hml : c.maxLocals = 1 := hml0
  have hown : s.vm.findClass "java/util/ArrayList" = some m.cls := findClass_of_methodNamed Bd.named
  have hnm := (name_of_methodNamed Bd.named Bd.method).1
  have X0 : Stand p l e R_3 s m #[(.ref a1)] below meth c s₁ [] 0 0 := Stand.of_body Bd
  have e0 : s₁.heap = h0 := by rw [← hh, Bd.state]; rfl
  have N0 := Fr.nil n0
  show oG p e below s (Q_isE2 Z a1 h0 n0) R_3.cells R_3.slots _
  refine oS (fun t k => castTop (ef_16_r m a1) k) ?_
  show oG _ _ _ _ _ _ _ (s₁.setTop (mkF m 0 #[.val (.ref a1)] []))
  refine oS (fun t k => XS.aloadN X0.here hx rfl (hb hby d16_0) rfl rfl k) ?_
  obtain ⟨T1, X1, e1, st1⟩ := getF X0 hx hZ hown (host := "") (Or.inl (oW hw 41 rfl)) Via.refl e0 F_size_a1 (g := (mkF m 1 #[.val (.ref a1)] [(.ref a1)])) rfl rfl (hb hby d16_1)
  refine oS (fun t k => st1 t k) ?_
  try clear st1
  refine oS (fun t k => XS.ifYes X1.here hx rfl (pc0 := 4) (pc' := 11) rfl (hb hby d16_4) rfl ((if0 _ _).trans (feq (by decide)).2) (by decide) (by decide) k) ?_
  refine oS (fun t k => oIc li_0 X1.here hx rfl (hb hby d16_11) k) ?_
  exact own_ret (v := some (.int 0)) X1 (fun h => by rw [Bd.returns] at h; cases h) Bd.notSynchronized (fun fs hr => retN X1 hx (t := .boolean) Bd.returns (by simp) (hb hby d16_12) hr) (by rw [e1]; exact ⟨rfl, N0, rfl⟩) (by decide) (by decide)
theorem d19_0 : decode jdk_65_method_120_code 0 = .ok (.aload_n 2, 1) := by decide +kernel
theorem d19_1 : decode jdk_65_method_120_code 1 = .ok (.ldc 110, 2) := by decide +kernel
theorem d19_3 : decode jdk_65_method_120_code 3 = .ok (.if_acmp .ne 10, 3) := by decide +kernel
theorem d19_6 : decode jdk_65_method_120_code 6 = .ok (.iload_n 1, 1) := by decide +kernel
theorem d19_7 : decode jdk_65_method_120_code 7 = .ok (.anewarray 2, 3) := by decide +kernel
theorem d19_10 : decode jdk_65_method_120_code 10 = .ok (.goto 14, 3) := by decide +kernel
theorem d19_24 : decode jdk_65_method_120_code 24 = .ok (.astore_n 3, 1) := by decide +kernel
theorem d19_25 : decode jdk_65_method_120_code 25 = .ok (.aload_n 0, 1) := by decide +kernel
theorem d19_26 : decode jdk_65_method_120_code 26 = .ok (.iconst 0, 1) := by decide +kernel
theorem d19_27 : decode jdk_65_method_120_code 27 = .ok (.aload_n 3, 1) := by decide +kernel
theorem d19_28 : decode jdk_65_method_120_code 28 = .ok (.iconst 0, 1) := by decide +kernel
theorem d19_29 : decode jdk_65_method_120_code 29 = .ok (.aload_n 0, 1) := by decide +kernel
theorem d19_30 : decode jdk_65_method_120_code 30 = .ok (.arraylength, 1) := by decide +kernel
theorem d19_31 : decode jdk_65_method_120_code 31 = .ok (.iload_n 1, 1) := by decide +kernel
theorem d19_32 : decode jdk_65_method_120_code 32 = .ok (.invokestatic 304, 3) := by decide +kernel
theorem d19_35 : decode jdk_65_method_120_code 35 = .ok (.invokestatic 150, 3) := by decide +kernel
theorem d19_38 : decode jdk_65_method_120_code 38 = .ok (.aload_n 3, 1) := by decide +kernel
theorem d19_39 : decode jdk_65_method_120_code 39 = .ok (.areturn, 1) := by decide +kernel
abbrev mY15 : MethodName := (⟨"java/util/Arrays", "copyOf", "([Ljava/lang/Object;ILjava/lang/Class;)[Ljava/lang/Object;"⟩ : MethodName)
theorem ef_19_rir_1 (m : MethodId) (x0 : Addr) (x2 : Addr) : entryFrame m #[(.ref x0), (.int 1), (.ref x2)] 4 = mkF m 0 #[.val (.ref x0), .val (.int 1), .val (.ref x2), .unset] [] := by first | (simp [entryFrame, mkF, argsToLocals, Value.category]; done) | rfl
theorem pn_8 : plainName "java/util/Arrays" = true := by first | (simp [plainName, overriddenIn]; done) | decide +kernel
abbrev R_9 : Room := { frames := 1, cells := 1, slots := 1, locals := 18 }
def Q_cp3_1 (Z : State) (a1 : Addr) (k1 : ClassId) (x1 : Addr) (w : Nat → Addr) (h0 : Heap) (n0 : Nat) (v : Option Value) (h : Heap) (L : List Loc) : Prop := ∃ (r : Addr) (k : ClassId), v = some (.ref r) ∧ Fr n0 L ∧ Keep h0 h [] ∧ h0.size ≤ r ∧ Arv Z h r k (.object "java/lang/Object") (1 : Int32) [(.ref x1)] .null
theorem rm_cp3_1 (l : Launch) (Z : State) (a0 : Array Value) (hw : ∀ d ∈ tables_1, d.before a0 Z = true) (ws : List Jvm.Cond) (a1 : Addr) (k1 : ClassId) (x1 : Addr) (w : Nat → Addr) (h0 : Heap) (n0 : Nat) (O0 : Old Z n0 h0) (W : own_World Z w) (V_a1 : Arv Z h0 a1 k1 (.object "java/lang/Object") (10 : Int32) [(.ref x1), .null, .null, .null, .null, .null, .null, .null, .null, .null] .null) (E_a1 : Exa Z h0 a1 "[Ljava/lang/Object;") (E_x1 : Exa Z h0 x1 "com/example/shiftweave/shiftweave/rostering/ShiftRequest") :
    MetFree l mY15 (head1 (Jvm.Cond.code mY15 jdk_65_method_120_code 4 (some (.array (.object "java/lang/Object"))) :: ws) R_9) (fun a U => a = #[(.ref a1), (.int 1), (.ref (w 103))] ∧ Z.Warmed39 U.vm ∧ U.heap = h0) (fun _ _ _ _ _ => True) (fun _ U o U' => ∃ v L, o = .returned v ∧ Q_cp3_1 Z a1 k1 x1 w h0 n0 v U'.heap L ∧ FrameEnd U o U' L R_9.cells R_9.slots) := by
  refine MetFree.of_bodySF (plainFor_of_name pn_8) hisR ?_
  intro p e s m args below meth c s₁ Bd hml0 hP hK
  obtain ⟨rfl, hZ, hh⟩ := hP
  have hx := Bd.exec
  have hby := Bd.bytes
  have hml : c.maxLocals = 4 := hml0
  have hown : s.vm.findClass "java/util/Arrays" = some m.cls := findClass_of_methodNamed Bd.named
  have hnm := (name_of_methodNamed Bd.named Bd.method).1
  have X0 : Stand p l e R_9 s m #[(.ref a1), (.int 1), (.ref (w 103))] below meth c s₁ [] 0 0 := Stand.of_body Bd
  have e0 : s₁.heap = h0 := by rw [← hh, Bd.state]; rfl
  have N0 := Fr.nil n0
  show oG p e below s (Q_cp3_1 Z a1 k1 x1 w h0 n0) R_9.cells R_9.slots _
  refine oS (fun t k => castTop (ef_19_rir_1 m a1 (w 103)) k) ?_
  show oG _ _ _ _ _ _ _ (s₁.setTop (mkF m 0 #[.val (.ref a1), .val (.int 1), .val (.ref (w 103)), .unset] []))
  refine oS (fun t k => XS.aloadN X0.here hx rfl (hb hby d19_0) rfl rfl k) ?_
  obtain ⟨T1, X1, e1, st1⟩ := own_ldcM X0 hx hZ hown (oW hw 137 rfl) (wM W) e0 (g := (mkF m 1 #[.val (.ref a1), .val (.int 1), .val (.ref (w 103)), .unset] [(.ref (w 103))])) rfl (hb hby d19_1)
  refine oS (fun t k => st1 t k) ?_
  show oG _ _ _ _ _ _ _ (T1.setTop (mkF m 3 #[.val (.ref a1), .val (.int 1), .val (.ref (w 103)), .unset] [(.ref (w 103)), (.ref (w 103))]))
  try clear st1
  refine oS (fun t k => Jvm.RoadKit.acmp (g := (mkF m 3 #[.val (.ref a1), .val (.int 1), .val (.ref (w 103)), .unset] [(.ref (w 103)), (.ref (w 103))])) X1 hx rfl rfl rfl (pc0 := 3) (pc' := 6) (same := true) rfl (hb hby d19_3) rfl (decide_eq_true rfl) (by decide) (by decide) k) ?_
  refine oS (fun t k => XS.iloadN X1.here hx rfl (hb hby d19_6) rfl k) ?_
  obtain ⟨T2, h2, k2, X2, e2, E2, A2, Ex2, O2v, st2⟩ := newRE X1 hx hZ hown (oW hw 138 rfl) (oW hw 63 rfl) e1 (g := (mkF m 7 #[.val (.ref a1), .val (.int 1), .val (.ref (w 103)), .unset] [(.int 1)])) rfl (hb hby d19_7) rfl (by decide) (cap := 1) (by decide) (by decide) (by decide) (by decide) (ad := "[Ljava/lang/Object;") (by decide)
  obtain ⟨b2, g2⟩ : ∃ z, z = h0.size := ⟨_, rfl⟩
  rw [← g2] at A2 Ex2 st2
  have V2 : Arv Z h2 b2 k2 (.object "java/lang/Object") (1 : Int32) [.null] .null := (Arv.new A2 (by decide)).pad (pad_rep [] .null 1)
  have gx2 : n0 ≤ b2 := Nat.le_trans (O0.1 ▸ O0.2.1) (Nat.le_of_eq g2.symm)
  have sz2 : h0.size ≤ b2 := Nat.le_trans (Nat.le_refl _) (Nat.le_of_eq g2.symm)
  have O2 := O0.ext E2
  have Kp2 : Keep h0 h2 [] := (Keep.refl h0 []).ext E2
  refine oS (fun t k => st2 t k) ?_
  try clear st2 X1 e1
  try clear T1
  refine oS (fun t k => XS.goto X2.here hx rfl (pc0 := 10) (pc' := 24) rfl (hb hby d19_10) (by decide) (by decide) k) ?_
  refine oS (fun t k => XS.astoreN X2.here hx rfl (hb hby d19_24) rfl rfl (l' := #[.val (.ref a1), .val (.int 1), .val (.ref (w 103)), .val (.ref b2)]) rfl k) ?_
  refine oS (fun t k => XS.aloadN X2.here hx rfl (hb hby d19_25) rfl rfl k) ?_
  refine oS (fun t k => oIc li_0 X2.here hx rfl (hb hby d19_26) k) ?_
  show oG _ _ _ _ _ _ _ (T2.setTop (mkF m 27 #[.val (.ref a1), .val (.int 1), .val (.ref (w 103)), .val (.ref b2)] [(.int 0), (.ref a1)]))
  refine oS (fun t k => XS.aloadN X2.here hx rfl (hb hby d19_27) rfl rfl k) ?_
  refine oS (fun t k => oIc li_0 X2.here hx rfl (hb hby d19_28) k) ?_
  refine oS (fun t k => XS.aloadN X2.here hx rfl (hb hby d19_29) rfl rfl k) ?_
  obtain ⟨cl3, Ar3, -, Sz3, Ng3, -, -⟩ := id (V_a1.ext E2)
  refine oS (S' := (T2.setTop (mkF m 31 #[.val (.ref a1), .val (.int 1), .val (.ref (w 103)), .val (.ref b2)] [(.int 10), (.int 0), (.ref b2), (.int 0), (.ref a1)]))) (fun t k => X2.arraylength hx (by rw [e2]; exact Ar3.1) (State.isArrayOf_alike hZ.alike Ar3.2.1) (g := (mkF m 30 #[.val (.ref a1), .val (.int 1), .val (.ref (w 103)), .val (.ref b2)] [(.ref a1), (.int 0), (.ref b2), (.int 0), (.ref a1)])) rfl rfl (hb hby d19_30) t (by rw [len_of Sz3 Ng3]; exact k)) ?_
  refine oS (fun t k => XS.iloadN X2.here hx rfl (hb hby d19_31) rfl k) ?_
  obtain ⟨_, _, ⟨T4, L4, k4, n4⟩, -, X4, ⟨Lc4, hQ4, l4, y4, z4⟩, st4⟩ := Jvm.LawKit.callS X2 hx (y := mY13) hown (oM hZ hw 139 rfl) (oM hZ hw 140 rfl) (oM hZ hw 60 rfl) (oM hZ hw 141 rfl) (by decide) (backOf (W := 4) (rm_min1 l Z a0 hw []   h2 n0 O2  ) hZ (oW hw 141 rfl) (oW hw 60 rfl) (by decide) (by decide)) (g := (mkF m 32 #[.val (.ref a1), .val (.int 1), .val (.ref (w 103)), .val (.ref b2)] [(.int 1), (.int 10), (.int 0), (.ref b2), (.int 0), (.ref a1)])) rfl (by rw [hml]; rfl) (argsL := [(.int 10), (.int 1)]) (rest := [(.int 0), (.ref b2), (.int 0), (.ref a1)]) (lenOf pd_1 rfl) rfl (by show 2 * 0 + _ ≤ _; exact Nat.le_of_eq rfl) (hb hby d19_32) (fun _ _ => ⟨rfl, e2, (by decide : 1 + 0 ≤ _), (by decide : 1 + 0 ≤ _)⟩)
  dsimp only [Pt.U, Pt.locs, Pt.cells, Pt.slots] at X4 l4 y4 z4 st4 hQ4
  rw [l4, y4, z4] at X4
  clear l4 y4 z4
  obtain ⟨rfl, Nq4, e4⟩ := hQ4
  have N4 := Fr.app N0 Nq4
  refine oS (fun t k => st4 t k) ?_
  show oG _ _ _ _ _ _ _ (T4.setTop (mkF m 35 #[.val (.ref a1), .val (.int 1), .val (.ref (w 103)), .val (.ref b2)] [(.int 1), (.int 0), (.ref b2), (.int 0), (.ref a1)]))
  try clear st4 X2 e2
  try clear T2
  obtain ⟨clb5, Arb5, qkb5, -, -, -, -⟩ := id V2
  obtain ⟨T5, h5, L5, X5, e5, N5, K5, V5, st5⟩ := cpA X4 hx hZ hown (oW hw 142 rfl) (oW hw 145 rfl) (oW hw 143 rfl) (oW hw 144 rfl) e4 (sp := (0 : Int32)) (dp := (0 : Int32)) (nn := (1 : Int32)) (us := [(.ref x1)]) (V_a1.ext E2) V2 (Or.inr ⟨rfl, rfl, ⟨(Sto.ofV Arb5 qkb5 O2v (Ins.of_exa (E_x1.ext E2) (oW hw 85 rfl))), trivial⟩⟩) (by decide) (by decide) (by decide) (by decide) (by decide) rfl (by decide) N4 gx2 (g := (mkF m 35 #[.val (.ref a1), .val (.int 1), .val (.ref (w 103)), .val (.ref b2)] [(.int 1), (.int 0), (.ref b2), (.int 0), (.ref a1)])) rfl (by rw [hml]; rfl) rfl (hb hby d19_35) (by decide) (W := 0) (by show 2 * 0 + _ ≤ _; exact Nat.le_of_eq rfl) (by decide)
  have Vc5 : Arv Z h5 b2 k2 (.object "java/lang/Object") (1 : Int32) [(.ref x1)] .null := V5
  have O5 := O2.keep K5 (allS gx2 all0)
  have Kp5 : Keep h0 h5 [] := Kp2.trans K5 (allS (Or.inr sz2) all0)
  refine oS (fun t k => st5 t k) ?_
  show oG _ _ _ _ _ _ _ (T5.setTop (mkF m 38 #[.val (.ref a1), .val (.int 1), .val (.ref (w 103)), .val (.ref b2)] []))
  try clear st5 X4 e4
  refine oS (fun t k => XS.aloadN X5.here hx rfl (hb hby d19_38) rfl rfl k) ?_
  exact own_ret (v := some (.ref b2)) X5 (fun h => by rw [Bd.returns] at h; cases h) Bd.notSynchronized (fun fs hr => retOut X5 hx (t := (.array (.object "java/lang/Object"))) Bd.returns rfl (Or.inr (Or.inr (Or.inr (Or.inr ⟨rfl, rfl, rfl⟩)))) (hb hby d19_39) hr) (by rw [e5]; exact ⟨b2, k2, rfl, N5, Kp5, sz2, Vc5⟩) (by decide) (by decide)
theorem d18_0 : decode jdk_65_method_119_code 0 = .ok (.aload_n 0, 1) := by decide +kernel
theorem d18_1 : decode jdk_65_method_119_code 1 = .ok (.iload_n 1, 1) := by decide +kernel
theorem d18_2 : decode jdk_65_method_119_code 2 = .ok (.aload_n 0, 1) := by decide +kernel
theorem d18_3 : decode jdk_65_method_119_code 3 = .ok (.invokevirtual 86, 3) := by decide +kernel
theorem d18_6 : decode jdk_65_method_119_code 6 = .ok (.invokestatic 300, 3) := by decide +kernel
theorem pd_5 : parseMethodDescriptor "([Ljava/lang/Object;ILjava/lang/Class;)[Ljava/lang/Object;" = some ⟨[(.array (.object "java/lang/Object")), .int, (.object "java/lang/Class")], some (.array (.object "java/lang/Object"))⟩ := by decide +kernel
theorem d18_9 : decode jdk_65_method_119_code 9 = .ok (.areturn, 1) := by decide +kernel
abbrev mY16 : MethodName := (⟨"java/util/Arrays", "copyOf", "([Ljava/lang/Object;I)[Ljava/lang/Object;"⟩ : MethodName)
theorem ef_18_ri_1 (m : MethodId) (x0 : Addr) : entryFrame m #[(.ref x0), (.int 1)] 2 = mkF m 0 #[.val (.ref x0), .val (.int 1)] [] := by first | (simp [entryFrame, mkF, argsToLocals, Value.category]; done) | rfl
abbrev R_10 : Room := { frames := 2, cells := 1, slots := 1, locals := 33 }
def Q_cp2_1 (Z : State) (a1 : Addr) (k1 : ClassId) (x1 : Addr) (w : Nat → Addr) (h0 : Heap) (n0 : Nat) (v : Option Value) (h : Heap) (L : List Loc) : Prop := ∃ (r : Addr) (k : ClassId), v = some (.ref r) ∧ Fr n0 L ∧ Keep h0 h [] ∧ h0.size ≤ r ∧ Arv Z h r k (.object "java/lang/Object") (1 : Int32) [(.ref x1)] .null
theorem rm_cp2_1 (l : Launch) (Z : State) (a0 : Array Value) (hw : ∀ d ∈ tables_1, d.before a0 Z = true) (ws : List Jvm.Cond) (a1 : Addr) (k1 : ClassId) (x1 : Addr) (w : Nat → Addr) (h0 : Heap) (n0 : Nat) (O0 : Old Z n0 h0) (W : own_World Z w) (V_a1 : Arv Z h0 a1 k1 (.object "java/lang/Object") (10 : Int32) [(.ref x1), .null, .null, .null, .null, .null, .null, .null, .null, .null] .null) (E_a1 : Exa Z h0 a1 "[Ljava/lang/Object;") (E_x1 : Exa Z h0 x1 "com/example/shiftweave/shiftweave/rostering/ShiftRequest") :
    MetFree l mY16 (head1 (Jvm.Cond.code mY16 jdk_65_method_119_code 2 (some (.array (.object "java/lang/Object"))) :: ws) R_10) (fun a U => a = #[(.ref a1), (.int 1)] ∧ Z.Warmed39 U.vm ∧ U.heap = h0) (fun _ _ _ _ _ => True) (fun _ U o U' => ∃ v L, o = .returned v ∧ Q_cp2_1 Z a1 k1 x1 w h0 n0 v U'.heap L ∧ FrameEnd U o U' L R_10.cells R_10.slots) := by
  refine MetFree.of_bodySF (plainFor_of_name pn_8) hisR ?_
  intro p e s m args below meth c s₁ Bd hml0 hP hK
  obtain ⟨rfl, hZ, hh⟩ := hP
  have hx := Bd.exec
  have hby := Bd.bytes
  have hml : c.maxLocals = 2 := hml0
  have hown : s.vm.findClass "java/util/Arrays" = some m.cls := findClass_of_methodNamed Bd.named
  have hnm := (name_of_methodNamed Bd.named Bd.method).1
  have X0 : Stand p l e R_10 s m #[(.ref a1), (.int 1)] below meth c s₁ [] 0 0 := Stand.of_body Bd
  have e0 : s₁.heap = h0 := by rw [← hh, Bd.state]; rfl
  have N0 := Fr.nil n0
  show oG p e below s (Q_cp2_1 Z a1 k1 x1 w h0 n0) R_10.cells R_10.slots _
  refine oS (fun t k => castTop (ef_18_ri_1 m a1) k) ?_
  show oG _ _ _ _ _ _ _ (s₁.setTop (mkF m 0 #[.val (.ref a1), .val (.int 1)] []))
  refine oS (fun t k => XS.aloadN X0.here hx rfl (hb hby d18_0) rfl rfl k) ?_
  refine oS (fun t k => XS.iloadN X0.here hx rfl (hb hby d18_1) rfl k) ?_
  refine oS (fun t k => XS.aloadN X0.here hx rfl (hb hby d18_2) rfl rfl k) ?_
  obtain ⟨T1, X1, e1, st1⟩ := gcls X0 hx hZ hown (oW hw 128 rfl) (oW hw 129 rfl) (oW hw 105 rfl) (oW hw 131 rfl) (oW hw 130 rfl) (oW hw 132 rfl) e0 E_a1 (wM W) (g := (mkF m 3 #[.val (.ref a1), .val (.int 1)] [(.ref a1), (.int 1), (.ref a1)])) rfl (by rw [hml]; rfl) rfl (hb hby d18_3) (by decide) (W := 2) (by show 2 * 0 + _ ≤ _; exact Nat.le_of_eq rfl) (by decide)
  refine oS (fun t k => st1 t k) ?_
  show oG _ _ _ _ _ _ _ (T1.setTop (mkF m 6 #[.val (.ref a1), .val (.int 1)] [(.ref (w 103)), (.int 1), (.ref a1)]))
  try clear st1
  obtain ⟨_, _, ⟨T2, L2, k2, n2⟩, -, X2, ⟨Lc2, hQ2, l2, y2, z2⟩, st2⟩ := Jvm.LawKit.callS X1 hx (y := mY15) hown (oM hZ hw 134 rfl) (oM hZ hw 135 rfl) (oM hZ hw 126 rfl) (oM hZ hw 136 rfl) (by decide) (backOf (W := 0) (rm_cp3_1 l Z a0 hw [] a1 k1 x1 w h0 n0 O0 W V_a1 E_a1 E_x1) hZ (oW hw 136 rfl) (oW hw 126 rfl) (by decide) (by decide)) (g := (mkF m 6 #[.val (.ref a1), .val (.int 1)] [(.ref (w 103)), (.int 1), (.ref a1)])) rfl (by rw [hml]; rfl) (argsL := [(.ref a1), (.int 1), (.ref (w 103))]) (rest := []) (lenOf pd_5 rfl) rfl (by show 2 * 0 + _ ≤ _; exact Nat.le_of_eq rfl) (hb hby d18_6) (fun _ _ => ⟨rfl, e1, (by decide : 0 + 1 ≤ _), (by decide : 0 + 1 ≤ _)⟩)
  dsimp only [Pt.U, Pt.locs, Pt.cells, Pt.slots] at X2 l2 y2 z2 st2 hQ2
  rw [l2, y2, z2] at X2
  clear l2 y2 z2
  obtain ⟨r2, x2_k, rfl, Nq2, K2, sr2, P2_0⟩ := hQ2
  have N2 := Fr.app N0 Nq2
  have O2 := O0.keep K2 all0
  have Kp2 : Keep h0 T2.heap [] := (Keep.refl h0 []).trans K2 all0
  have gr2 : n0 ≤ r2 := Nat.le_trans (O0.1 ▸ O0.2.1) sr2
  have szrr2 : h0.size ≤ r2 := Nat.le_trans (Nat.le_refl _) sr2
  refine oS (fun t k => st2 t k) ?_
  show oG _ _ _ _ _ _ _ (T2.setTop (mkF m 9 #[.val (.ref a1), .val (.int 1)] [(.ref r2)]))
  try clear st2 X1 e1
  try clear T1
  exact own_ret (v := some (.ref r2)) X2 (fun h => by rw [Bd.returns] at h; cases h) Bd.notSynchronized (fun fs hr => retOut X2 hx (t := (.array (.object "java/lang/Object"))) Bd.returns rfl (Or.inr (Or.inr (Or.inr (Or.inr ⟨rfl, rfl, rfl⟩)))) (hb hby d18_9) hr) (by exact ⟨r2, x2_k, rfl, N2, Kp2, szrr2, P2_0⟩) (by decide) (by decide)
theorem ef_19_rir_2 (m : MethodId) (x0 : Addr) (x2 : Addr) : entryFrame m #[(.ref x0), (.int 2), (.ref x2)] 4 = mkF m 0 #[.val (.ref x0), .val (.int 2), .val (.ref x2), .unset] [] := by first | (simp [entryFrame, mkF, argsToLocals, Value.category]; done) | rfl
abbrev R_11 : Room := { frames := 1, cells := 1, slots := 2, locals := 18 }
def Q_cp3_2 (Z : State) (a1 : Addr) (k1 : ClassId) (x1 : Addr) (x2 : Addr) (w : Nat → Addr) (h0 : Heap) (n0 : Nat) (v : Option Value) (h : Heap) (L : List Loc) : Prop := ∃ (r : Addr) (k : ClassId), v = some (.ref r) ∧ Fr n0 L ∧ Keep h0 h [] ∧ h0.size ≤ r ∧ Arv Z h r k (.object "java/lang/Object") (2 : Int32) [(.ref x1), (.ref x2)] .null
theorem rm_cp3_2 (l : Launch) (Z : State) (a0 : Array Value) (hw : ∀ d ∈ tables_1, d.before a0 Z = true) (ws : List Jvm.Cond) (a1 : Addr) (k1 : ClassId) (x1 : Addr) (x2 : Addr) (w : Nat → Addr) (h0 : Heap) (n0 : Nat) (O0 : Old Z n0 h0) (W : own_World Z w) (V_a1 : Arv Z h0 a1 k1 (.object "java/lang/Object") (10 : Int32) [(.ref x1), (.ref x2), .null, .null, .null, .null, .null, .null, .null, .null] .null) (E_a1 : Exa Z h0 a1 "[Ljava/lang/Object;") (E_x1 : Exa Z h0 x1 "java/lang/Integer") (E_x2 : Exa Z h0 x2 "java/lang/Integer") :
    MetFree l mY15 (head1 (Jvm.Cond.code mY15 jdk_65_method_120_code 4 (some (.array (.object "java/lang/Object"))) :: ws) R_11) (fun a U => a = #[(.ref a1), (.int 2), (.ref (w 103))] ∧ Z.Warmed39 U.vm ∧ U.heap = h0) (fun _ _ _ _ _ => True) (fun _ U o U' => ∃ v L, o = .returned v ∧ Q_cp3_2 Z a1 k1 x1 x2 w h0 n0 v U'.heap L ∧ FrameEnd U o U' L R_11.cells R_11.slots) := by
  refine MetFree.of_bodySF (plainFor_of_name pn_8) hisR ?_
  intro p e s m args below meth c s₁ Bd hml0 hP hK
  obtain ⟨rfl, hZ, hh⟩ := hP
  have hx := Bd.exec
  have hby := Bd.bytes
  have hml : c.maxLocals = 4 := hml0
  have hown : s.vm.findClass "java/util/Arrays" = some m.cls := findClass_of_methodNamed Bd.named
  have hnm := (name_of_methodNamed Bd.named Bd.method).1
  have X0 : Stand p l e R_11 s m #[(.ref a1), (.int 2), (.ref (w 103))] below meth c s₁ [] 0 0 := Stand.of_body Bd
  have e0 : s₁.heap = h0 := by rw [← hh, Bd.state]; rfl
  have N0 := Fr.nil n0
  show oG p e below s (Q_cp3_2 Z a1 k1 x1 x2 w h0 n0) R_11.cells R_11.slots _
  refine oS (fun t k => castTop (ef_19_rir_2 m a1 (w 103)) k) ?_
  show oG _ _ _ _ _ _ _ (s₁.setTop (mkF m 0 #[.val (.ref a1), .val (.int 2), .val (.ref (w 103)), .unset] []))
  refine oS (fun t k => XS.aloadN X0.here hx rfl (hb hby d19_0) rfl rfl k) ?_
  obtain ⟨T1, X1, e1, st1⟩ := own_ldcM X0 hx hZ hown (oW hw 137 rfl) (wM W) e0 (g := (mkF m 1 #[.val (.ref a1), .val (.int 2), .val (.ref (w 103)), .unset] [(.ref (w 103))])) rfl (hb hby d19_1)
  refine oS (fun t k => st1 t k) ?_
  show oG _ _ _ _ _ _ _ (T1.setTop (mkF m 3 #[.val (.ref a1), .val (.int 2), .val (.ref (w 103)), .unset] [(.ref (w 103)), (.ref (w 103))]))
  try clear st1
  refine oS (fun t k => Jvm.RoadKit.acmp (g := (mkF m 3 #[.val (.ref a1), .val (.int 2), .val (.ref (w 103)), .unset] [(.ref (w 103)), (.ref (w 103))])) X1 hx rfl rfl rfl (pc0 := 3) (pc' := 6) (same := true) rfl (hb hby d19_3) rfl (decide_eq_true rfl) (by decide) (by decide) k) ?_
  refine oS (fun t k => XS.iloadN X1.here hx rfl (hb hby d19_6) rfl k) ?_
  obtain ⟨T2, h2, k2, X2, e2, E2, A2, Ex2, O2v, st2⟩ := newRE X1 hx hZ hown (oW hw 138 rfl) (oW hw 63 rfl) e1 (g := (mkF m 7 #[.val (.ref a1), .val (.int 2), .val (.ref (w 103)), .unset] [(.int 2)])) rfl (hb hby d19_7) rfl (by decide) (cap := 2) (by decide) (by decide) (by decide) (by decide) (ad := "[Ljava/lang/Object;") (by decide)
  obtain ⟨b2, g2⟩ : ∃ z, z = h0.size := ⟨_, rfl⟩
  rw [← g2] at A2 Ex2 st2
  have V2 : Arv Z h2 b2 k2 (.object "java/lang/Object") (2 : Int32) [.null, .null] .null := (Arv.new A2 (by decide)).pad (pad_rep [] .null 2)
  have gx2 : n0 ≤ b2 := Nat.le_trans (O0.1 ▸ O0.2.1) (Nat.le_of_eq g2.symm)
  have sz2 : h0.size ≤ b2 := Nat.le_trans (Nat.le_refl _) (Nat.le_of_eq g2.symm)
  have O2 := O0.ext E2
  have Kp2 : Keep h0 h2 [] := (Keep.refl h0 []).ext E2
  refine oS (fun t k => st2 t k) ?_
  try clear st2 X1 e1
  try clear T1
  refine oS (fun t k => XS.goto X2.here hx rfl (pc0 := 10) (pc' := 24) rfl (hb hby d19_10) (by decide) (by decide) k) ?_
  refine oS (fun t k => XS.astoreN X2.here hx rfl (hb hby d19_24) rfl rfl (l' := #[.val (.ref a1), .val (.int 2), .val (.ref (w 103)), .val (.ref b2)]) rfl k) ?_
  refine oS (fun t k => XS.aloadN X2.here hx rfl (hb hby d19_25) rfl rfl k) ?_
  refine oS (fun t k => oIc li_0 X2.here hx rfl (hb hby d19_26) k) ?_
  show oG _ _ _ _ _ _ _ (T2.setTop (mkF m 27 #[.val (.ref a1), .val (.int 2), .val (.ref (w 103)), .val (.ref b2)] [(.int 0), (.ref a1)]))
  refine oS (fun t k => XS.aloadN X2.here hx rfl (hb hby d19_27) rfl rfl k) ?_
  refine oS (fun t k => oIc li_0 X2.here hx rfl (hb hby d19_28) k) ?_
  refine oS (fun t k => XS.aloadN X2.here hx rfl (hb hby d19_29) rfl rfl k) ?_
  obtain ⟨cl3, Ar3, -, Sz3, Ng3, -, -⟩ := id (V_a1.ext E2)
  refine oS (S' := (T2.setTop (mkF m 31 #[.val (.ref a1), .val (.int 2), .val (.ref (w 103)), .val (.ref b2)] [(.int 10), (.int 0), (.ref b2), (.int 0), (.ref a1)]))) (fun t k => X2.arraylength hx (by rw [e2]; exact Ar3.1) (State.isArrayOf_alike hZ.alike Ar3.2.1) (g := (mkF m 30 #[.val (.ref a1), .val (.int 2), .val (.ref (w 103)), .val (.ref b2)] [(.ref a1), (.int 0), (.ref b2), (.int 0), (.ref a1)])) rfl rfl (hb hby d19_30) t (by rw [len_of Sz3 Ng3]; exact k)) ?_
  refine oS (fun t k => XS.iloadN X2.here hx rfl (hb hby d19_31) rfl k) ?_
  obtain ⟨_, _, ⟨T4, L4, k4, n4⟩, -, X4, ⟨Lc4, hQ4, l4, y4, z4⟩, st4⟩ := Jvm.LawKit.callS X2 hx (y := mY13) hown (oM hZ hw 139 rfl) (oM hZ hw 140 rfl) (oM hZ hw 60 rfl) (oM hZ hw 141 rfl) (by decide) (backOf (W := 4) (rm_min2 l Z a0 hw []   h2 n0 O2  ) hZ (oW hw 141 rfl) (oW hw 60 rfl) (by decide) (by decide)) (g := (mkF m 32 #[.val (.ref a1), .val (.int 2), .val (.ref (w 103)), .val (.ref b2)] [(.int 2), (.int 10), (.int 0), (.ref b2), (.int 0), (.ref a1)])) rfl (by rw [hml]; rfl) (argsL := [(.int 10), (.int 2)]) (rest := [(.int 0), (.ref b2), (.int 0), (.ref a1)]) (lenOf pd_1 rfl) rfl (by show 2 * 0 + _ ≤ _; exact Nat.le_of_eq rfl) (hb hby d19_32) (fun _ _ => ⟨rfl, e2, (by decide : 1 + 0 ≤ _), (by decide : 2 + 0 ≤ _)⟩)
  dsimp only [Pt.U, Pt.locs, Pt.cells, Pt.slots] at X4 l4 y4 z4 st4 hQ4
  rw [l4, y4, z4] at X4
  clear l4 y4 z4
  obtain ⟨rfl, Nq4, e4⟩ := hQ4
  have N4 := Fr.app N0 Nq4
  refine oS (fun t k => st4 t k) ?_
  show oG _ _ _ _ _ _ _ (T4.setTop (mkF m 35 #[.val (.ref a1), .val (.int 2), .val (.ref (w 103)), .val (.ref b2)] [(.int 2), (.int 0), (.ref b2), (.int 0), (.ref a1)]))
  try clear st4 X2 e2
  try clear T2
  obtain ⟨clb5, Arb5, qkb5, -, -, -, -⟩ := id V2
  obtain ⟨T5, h5, L5, X5, e5, N5, K5, V5, st5⟩ := cpA X4 hx hZ hown (oW hw 142 rfl) (oW hw 145 rfl) (oW hw 143 rfl) (oW hw 144 rfl) e4 (sp := (0 : Int32)) (dp := (0 : Int32)) (nn := (2 : Int32)) (us := [(.ref x1), (.ref x2)]) (V_a1.ext E2) V2 (Or.inr ⟨rfl, rfl, ⟨(Sto.ofV Arb5 qkb5 O2v (Ins.of_exa (E_x1.ext E2) (oW hw 64 rfl))), (Sto.ofV Arb5 qkb5 O2v (Ins.of_exa (E_x2.ext E2) (oW hw 64 rfl))), trivial⟩⟩) (by decide) (by decide) (by decide) (by decide) (by decide) rfl (by decide) N4 gx2 (g := (mkF m 35 #[.val (.ref a1), .val (.int 2), .val (.ref (w 103)), .val (.ref b2)] [(.int 2), (.int 0), (.ref b2), (.int 0), (.ref a1)])) rfl (by rw [hml]; rfl) rfl (hb hby d19_35) (by decide) (W := 0) (by show 2 * 0 + _ ≤ _; exact Nat.le_of_eq rfl) (by decide)
  have Vc5 : Arv Z h5 b2 k2 (.object "java/lang/Object") (2 : Int32) [(.ref x1), (.ref x2)] .null := V5
  have O5 := O2.keep K5 (allS gx2 all0)
  have Kp5 : Keep h0 h5 [] := Kp2.trans K5 (allS (Or.inr sz2) all0)
  refine oS (fun t k => st5 t k) ?_
  show oG _ _ _ _ _ _ _ (T5.setTop (mkF m 38 #[.val (.ref a1), .val (.int 2), .val (.ref (w 103)), .val (.ref b2)] []))
  try clear st5 X4 e4
  refine oS (fun t k => XS.aloadN X5.here hx rfl (hb hby d19_38) rfl rfl k) ?_
  exact own_ret (v := some (.ref b2)) X5 (fun h => by rw [Bd.returns] at h; cases h) Bd.notSynchronized (fun fs hr => retOut X5 hx (t := (.array (.object "java/lang/Object"))) Bd.returns rfl (Or.inr (Or.inr (Or.inr (Or.inr ⟨rfl, rfl, rfl⟩)))) (hb hby d19_39) hr) (by rw [e5]; exact ⟨b2, k2, rfl, N5, Kp5, sz2, Vc5⟩) (by decide) (by decide)
theorem ef_18_ri_2 (m : MethodId) (x0 : Addr) : entryFrame m #[(.ref x0), (.int 2)] 2 = mkF m 0 #[.val (.ref x0), .val (.int 2)] [] := by first | (simp [entryFrame, mkF, argsToLocals, Value.category]; done) | rfl
abbrev R_12 : Room := { frames := 2, cells := 1, slots := 2, locals := 33 }
def Q_cp2_2 (Z : State) (a1 : Addr) (k1 : ClassId) (x1 : Addr) (x2 : Addr) (w : Nat → Addr) (h0 : Heap) (n0 : Nat) (v : Option Value) (h : Heap) (L : List Loc) : Prop := ∃ (r : Addr) (k : ClassId), v = some (.ref r) ∧ Fr n0 L ∧ Keep h0 h [] ∧ h0.size ≤ r ∧ Arv Z h r k (.object "java/lang/Object") (2 : Int32) [(.ref x1), (.ref x2)] .null
theorem rm_cp2_2 (l : Launch) (Z : State) (a0 : Array Value) (hw : ∀ d ∈ tables_1, d.before a0 Z = true) (ws : List Jvm.Cond) (a1 : Addr) (k1 : ClassId) (x1 : Addr) (x2 : Addr) (w : Nat → Addr) (h0 : Heap) (n0 : Nat) (O0 : Old Z n0 h0) (W : own_World Z w) (V_a1 : Arv Z h0 a1 k1 (.object "java/lang/Object") (10 : Int32) [(.ref x1), (.ref x2), .null, .null, .null, .null, .null, .null, .null, .null] .null) (E_a1 : Exa Z h0 a1 "[Ljava/lang/Object;") (E_x1 : Exa Z h0 x1 "java/lang/Integer") (E_x2 : Exa Z h0 x2 "java/lang/Integer") :
    MetFree l mY16 (head1 (Jvm.Cond.code mY16 jdk_65_method_119_code 2 (some (.array (.object "java/lang/Object"))) :: ws) R_12) (fun a U => a = #[(.ref a1), (.int 2)] ∧ Z.Warmed39 U.vm ∧ U.heap = h0) (fun _ _ _ _ _ => True) (fun _ U o U' => ∃ v L, o = .returned v ∧ Q_cp2_2 Z a1 k1 x1 x2 w h0 n0 v U'.heap L ∧ FrameEnd U o U' L R_12.cells R_12.slots) := by
  refine MetFree.of_bodySF (plainFor_of_name pn_8) hisR ?_
  intro p e s m args below meth c s₁ Bd hml0 hP hK
  obtain ⟨rfl, hZ, hh⟩ := hP
  have hx := Bd.exec
  have hby := Bd.bytes
  have hml : c.maxLocals = 2 := hml0
  have hown : s.vm.findClass "java/util/Arrays" = some m.cls := findClass_of_methodNamed Bd.named
  have hnm := (name_of_methodNamed Bd.named Bd.method).1
  have X0 : Stand p l e R_12 s m #[(.ref a1), (.int 2)] below meth c s₁ [] 0 0 := Stand.of_body Bd
  have e0 : s₁.heap = h0 := by rw [← hh, Bd.state]; rfl
  have N0 := Fr.nil n0
  show oG p e below s (Q_cp2_2 Z a1 k1 x1 x2 w h0 n0) R_12.cells R_12.slots _
  refine oS (fun t k => castTop (ef_18_ri_2 m a1) k) ?_
  show oG _ _ _ _ _ _ _ (s₁.setTop (mkF m 0 #[.val (.ref a1), .val (.int 2)] []))
  refine oS (fun t k => XS.aloadN X0.here hx rfl (hb hby d18_0) rfl rfl k) ?_
  refine oS (fun t k => XS.iloadN X0.here hx rfl (hb hby d18_1) rfl k) ?_
  refine oS (fun t k => XS.aloadN X0.here hx rfl (hb hby d18_2) rfl rfl k) ?_
  obtain ⟨T1, X1, e1, st1⟩ := gcls X0 hx hZ hown (oW hw 128 rfl) (oW hw 129 rfl) (oW hw 105 rfl) (oW hw 131 rfl) (oW hw 130 rfl) (oW hw 132 rfl) e0 E_a1 (wM W) (g := (mkF m 3 #[.val (.ref a1), .val (.int 2)] [(.ref a1), (.int 2), (.ref a1)])) rfl (by rw [hml]; rfl) rfl (hb hby d18_3) (by decide) (W := 2) (by show 2 * 0 + _ ≤ _; exact Nat.le_of_eq rfl) (by decide)
  refine oS (fun t k => st1 t k) ?_
  show oG _ _ _ _ _ _ _ (T1.setTop (mkF m 6 #[.val (.ref a1), .val (.int 2)] [(.ref (w 103)), (.int 2), (.ref a1)]))
  try clear st1
  obtain ⟨_, _, ⟨T2, L2, k2, n2⟩, -, X2, ⟨Lc2, hQ2, l2, y2, z2⟩, st2⟩ := Jvm.LawKit.callS X1 hx (y := mY15) hown (oM hZ hw 134 rfl) (oM hZ hw 135 rfl) (oM hZ hw 126 rfl) (oM hZ hw 136 rfl) (by decide) (backOf (W := 0) (rm_cp3_2 l Z a0 hw [] a1 k1 x1 x2 w h0 n0 O0 W V_a1 E_a1 E_x1 E_x2) hZ (oW hw 136 rfl) (oW hw 126 rfl) (by decide) (by decide)) (g := (mkF m 6 #[.val (.ref a1), .val (.int 2)] [(.ref (w 103)), (.int 2), (.ref a1)])) rfl (by rw [hml]; rfl) (argsL := [(.ref a1), (.int 2), (.ref (w 103))]) (rest := []) (lenOf pd_5 rfl) rfl (by show 2 * 0 + _ ≤ _; exact Nat.le_of_eq rfl) (hb hby d18_6) (fun _ _ => ⟨rfl, e1, (by decide : 0 + 1 ≤ _), (by decide : 0 + 2 ≤ _)⟩)
  dsimp only [Pt.U, Pt.locs, Pt.cells, Pt.slots] at X2 l2 y2 z2 st2 hQ2
  rw [l2, y2, z2] at X2
  clear l2 y2 z2
  obtain ⟨r2, x2_k, rfl, Nq2, K2, sr2, P2_0⟩ := hQ2
  have N2 := Fr.app N0 Nq2
  have O2 := O0.keep K2 all0
  have Kp2 : Keep h0 T2.heap [] := (Keep.refl h0 []).trans K2 all0
  have gr2 : n0 ≤ r2 := Nat.le_trans (O0.1 ▸ O0.2.1) sr2
  have szrr2 : h0.size ≤ r2 := Nat.le_trans (Nat.le_refl _) sr2
  refine oS (fun t k => st2 t k) ?_
  show oG _ _ _ _ _ _ _ (T2.setTop (mkF m 9 #[.val (.ref a1), .val (.int 2)] [(.ref r2)]))
  try clear st2 X1 e1
  try clear T1
  exact own_ret (v := some (.ref r2)) X2 (fun h => by rw [Bd.returns] at h; cases h) Bd.notSynchronized (fun fs hr => retOut X2 hx (t := (.array (.object "java/lang/Object"))) Bd.returns rfl (Or.inr (Or.inr (Or.inr (Or.inr ⟨rfl, rfl, rfl⟩)))) (hb hby d18_9) hr) (by exact ⟨r2, x2_k, rfl, N2, Kp2, szrr2, P2_0⟩) (by decide) (by decide)
theorem d25_0 : decode jdk_31_method_10_code 0 = .ok (.aload_n 0, 1) := by decide +kernel
theorem d25_1 : decode jdk_31_method_10_code 1 = .ok (.ifnonnull 11, 3) := by decide +kernel
theorem d25_12 : decode jdk_31_method_10_code 12 = .ok (.aload_n 0, 1) := by decide +kernel
theorem d25_13 : decode jdk_31_method_10_code 13 = .ok (.areturn, 1) := by decide +kernel
abbrev mY17 : MethodName := (⟨"java/util/Objects", "requireNonNull", "(Ljava/lang/Object;)Ljava/lang/Object;"⟩ : MethodName)
theorem ef_25_r (m : MethodId) (x0 : Addr) : entryFrame m #[(.ref x0)] 1 = mkF m 0 #[.val (.ref x0)] [] := by first | (simp [entryFrame, mkF, argsToLocals, Value.category]; done) | rfl
theorem pn_9 : plainName "java/util/Objects" = true := by first | (simp [plainName, overriddenIn]; done) | decide +kernel
def Q_rnn (Z : State) (a1 : Addr) (h0 : Heap) (n0 : Nat) (v : Option Value) (h : Heap) (L : List Loc) : Prop := v = some (.ref a1) ∧ Fr n0 L ∧ h = h0
theorem rm_rnn (l : Launch) (Z : State) (a0 : Array Value) (hw : ∀ d ∈ tables_1, d.before a0 Z = true) (ws : List Jvm.Cond) (a1 : Addr) (h0 : Heap) (n0 : Nat) (O0 : Old Z n0 h0) :
    MetFree l mY17 (head1 (Jvm.Cond.code mY17 jdk_31_method_10_code 1 (some (.object "java/lang/Object")) :: ws) R_3) (fun a U => a = #[(.ref a1)] ∧ Z.Warmed39 U.vm ∧ U.heap = h0) (fun _ _ _ _ _ => True) (fun _ U o U' => ∃ v L, o = .returned v ∧ Q_rnn Z a1 h0 n0 v U'.heap L ∧ FrameEnd U o U' L R_3.cells R_3.slots) := by
  refine MetFree.of_bodySF (plainFor_of_name pn_9) hisR ?_
  intro p e s m args below meth c s₁ Bd hml0 hP hK
  obtain ⟨rfl, hZ, hh⟩ := hP
  have hx := Bd.exec
  have hby := Bd.bytes
  have hml : c.maxLocals = 1 := hml0
  have hown : s.vm.findClass "java/util/Objects" = some m.cls := findClass_of_methodNamed Bd.named
  have hnm := (name_of_methodNamed Bd.named Bd.method).1
  have X0 : Stand p l e R_3 s m #[(.ref a1)] below meth c s₁ [] 0 0 := Stand.of_body Bd
  have e0 : s₁.heap = h0 := by rw [← hh, Bd.state]; rfl
  have N0 := Fr.nil n0
  show oG p e below s (Q_rnn Z a1 h0 n0) R_3.cells R_3.slots _
  refine oS (fun t k => castTop (ef_25_r m a1) k) ?_
  show oG _ _ _ _ _ _ _ (s₁.setTop (mkF m 0 #[.val (.ref a1)] []))
  refine oS (fun t k => XS.aloadN X0.here hx rfl (hb hby d25_0) rfl rfl k) ?_
  refine oS (fun t k => XS.ifnonnullYes X0.here hx rfl (pc0 := 1) (pc' := 12) rfl (hb hby d25_1) rfl (by decide) (by decide) k) ?_
  refine oS (fun t k => XS.aloadN X0.here hx rfl (hb hby d25_12) rfl rfl k) ?_
  exact own_ret (v := some (.ref a1)) X0 (fun h => by rw [Bd.returns] at h; cases h) Bd.notSynchronized (fun fs hr => retOut X0 hx (t := (.object "java/lang/Object")) Bd.returns rfl (Or.inr (Or.inr (Or.inr (Or.inr ⟨rfl, rfl, rfl⟩)))) (hb hby d25_13) hr) (by rw [e0]; exact ⟨rfl, N0, rfl⟩) (by decide) (by decide)
theorem d26_0 : decode jdk_44_method_1_code 0 = .ok (.aload_n 0, 1) := by decide +kernel
theorem d26_1 : decode jdk_44_method_1_code 1 = .ok (.invokespecial 1, 3) := by decide +kernel
theorem d26_4 : decode jdk_44_method_1_code 4 = .ok (.aload_n 0, 1) := by decide +kernel
theorem d26_5 : decode jdk_44_method_1_code 5 = .ok (.aload_n 1, 1) := by decide +kernel
theorem d26_6 : decode jdk_44_method_1_code 6 = .ok (.invokestatic 7, 3) := by decide +kernel
theorem pd_6 : parseMethodDescriptor "(Ljava/lang/Object;)Ljava/lang/Object;" = some ⟨[(.object "java/lang/Object")], some (.object "java/lang/Object")⟩ := by decide +kernel
theorem d26_9 : decode jdk_44_method_1_code 9 = .ok (.putfield 13, 3) := by decide +kernel
theorem d26_12 : decode jdk_44_method_1_code 12 = .ok (.aload_n 0, 1) := by decide +kernel
theorem d26_13 : decode jdk_44_method_1_code 13 = .ok (.getstatic 19, 3) := by decide +kernel
theorem d26_16 : decode jdk_44_method_1_code 16 = .ok (.putfield 24, 3) := by decide +kernel
theorem d26_19 : decode jdk_44_method_1_code 19 = .ok (.return_, 1) := by decide +kernel
abbrev mY18 : MethodName := (⟨"java/util/ImmutableCollections$List12", "<init>", "(Ljava/lang/Object;)V"⟩ : MethodName)
theorem ef_26_rr (m : MethodId) (x0 : Addr) (x1 : Addr) : entryFrame m #[(.ref x0), (.ref x1)] 2 = mkF m 0 #[.val (.ref x0), .val (.ref x1)] [] := by first | (simp [entryFrame, mkF, argsToLocals, Value.category]; done) | rfl
theorem pn_10 : plainName "java/util/ImmutableCollections$List12" = true := by first | (simp [plainName, overriddenIn]; done) | decide +kernel
abbrev R_13 : Room := { frames := 4, cells := 0, slots := 0, locals := 48 }
def Q_l12_1 (Z : State) (a1 : Addr) (x1 : Addr) (w : Nat → Addr) (h0 : Heap) (n0 : Nat) (v : Option Value) (h : Heap) (L : List Loc) : Prop := v = none ∧ Fr n0 L ∧ Keep h0 h [a1] ∧ Exa Z h a1 "java/util/ImmutableCollections$List12" ∧ Fld Z h a1 "java/util/ImmutableCollections$List12" "e0" "Ljava/lang/Object;" (.ref x1) ∧ Fld Z h a1 "java/util/ImmutableCollections$List12" "e1" "Ljava/lang/Object;" (.ref (w 3))
theorem rm_l12_1 (l : Launch) (Z : State) (a0 : Array Value) (hw : ∀ d ∈ tables_1, d.before a0 Z = true) (ws : List Jvm.Cond) (a1 : Addr) (x1 : Addr) (w : Nat → Addr) (h0 : Heap) (n0 : Nat) (O0 : Old Z n0 h0) (W : own_World Z w) (E_a1 : Exa Z h0 a1 "java/util/ImmutableCollections$List12") (g_a1 : n0 ≤ a1) (F_e0_a1 : Fld Z h0 a1 "java/util/ImmutableCollections$List12" "e0" "Ljava/lang/Object;" .null) (F_e1_a1 : Fld Z h0 a1 "java/util/ImmutableCollections$List12" "e1" "Ljava/lang/Object;" .null) :
    MetFree l mY18 (head1 (Jvm.Cond.code mY18 jdk_44_method_1_code 2 none :: ws) R_13) (fun a U => a = #[(.ref a1), (.ref x1)] ∧ Z.Warmed39 U.vm ∧ U.heap = h0) (fun _ _ _ _ _ => True) (fun _ U o U' => ∃ v L, o = .returned v ∧ Q_l12_1 Z a1 x1 w h0 n0 v U'.heap L ∧ FrameEnd U o U' L R_13.cells R_13.slots) := by
  refine MetFree.of_bodySF (plainFor_of_name pn_10) hisR ?_
  intro p e s m args below meth c s₁ Bd hml0 hP hK
  obtain ⟨rfl, hZ, hh⟩ := hP
  have hx := Bd.exec
  have hby := Bd.bytes
  have hml : c.maxLocals = 2 := hml0
  have hown : s.vm.findClass "java/util/ImmutableCollections$List12" = some m.cls := findClass_of_methodNamed Bd.named
  have hnm := (name_of_methodNamed Bd.named Bd.method).1
  have X0 : Stand p l e R_13 s m #[(.ref a1), (.ref x1)] below meth c s₁ [] 0 0 := Stand.of_body Bd
  have e0 : s₁.heap = h0 := by rw [← hh, Bd.state]; rfl
  have N0 := Fr.nil n0
  show oG p e below s (Q_l12_1 Z a1 x1 w h0 n0) R_13.cells R_13.slots _
  refine oS (fun t k => castTop (ef_26_rr m a1 x1) k) ?_
  show oG _ _ _ _ _ _ _ (s₁.setTop (mkF m 0 #[.val (.ref a1), .val (.ref x1)] []))
  refine oS (fun t k => XS.aloadN X0.here hx rfl (hb hby d26_0) rfl rfl k) ?_
  obtain ⟨_, _, ⟨T1, L1, k1, n1⟩, -, X1, ⟨Lc1, hQ1, l1, y1, z1⟩, st1⟩ := X0.specialBack hx (y := mY3) rfl hown (oM hZ hw 156 rfl) (oM hZ hw 157 rfl) (oM hZ hw 161 rfl) (by decide) (backOf (W := 0) (rm_ailinit l Z a0 hw [] a1  h0 n0 O0  ) hZ (oW hw 161 rfl) (oW hw 160 rfl) (by decide) (by decide)) (g := (mkF m 1 #[.val (.ref a1), .val (.ref x1)] [(.ref a1)])) rfl (by rw [hml]; rfl) (Steps.refl _) (a := a1) (argsL := []) (rest := []) (lenOf pd_0 rfl) rfl (by show 2 * 0 + _ ≤ _; exact Nat.le_of_eq rfl) (hb hby d26_1) (fun _ _ => ⟨rfl, e0, (by decide : 0 + 0 ≤ _), (by decide : 0 + 0 ≤ _)⟩)
  dsimp only [Pt.U, Pt.locs, Pt.cells, Pt.slots] at X1 l1 y1 z1 st1 hQ1
  rw [l1, y1, z1] at X1
  clear l1 y1 z1
  obtain ⟨rfl, Nq1, e1⟩ := hQ1
  have N1 := Fr.app N0 Nq1
  refine oS (fun t k => st1.trans k) ?_
  show oG _ _ _ _ _ _ _ (T1.setTop (mkF m 4 #[.val (.ref a1), .val (.ref x1)] []))
  try clear st1
  refine oS (fun t k => XS.aloadN X1.here hx rfl (hb hby d26_4) rfl rfl k) ?_
  refine oS (fun t k => XS.aloadN X1.here hx rfl (hb hby d26_5) rfl rfl k) ?_
  obtain ⟨_, _, ⟨T2, L2, k2, n2⟩, -, X2, ⟨Lc2, hQ2, l2, y2, z2⟩, st2⟩ := Jvm.LawKit.callS X1 hx (y := mY17) hown (oM hZ hw 170 rfl) (oM hZ hw 171 rfl) (oM hZ hw 172 rfl) (oM hZ hw 173 rfl) (by decide) (backOf (W := 1) (rm_rnn l Z a0 hw [] x1  h0 n0 O0  ) hZ (oW hw 173 rfl) (oW hw 172 rfl) (by decide) (by decide)) (g := (mkF m 6 #[.val (.ref a1), .val (.ref x1)] [(.ref x1), (.ref a1)])) rfl (by rw [hml]; rfl) (argsL := [(.ref x1)]) (rest := [(.ref a1)]) (lenOf pd_6 rfl) rfl (by show 2 * 0 + _ ≤ _; exact Nat.le_of_eq rfl) (hb hby d26_6) (fun _ _ => ⟨rfl, e1, (by decide : 0 + 0 ≤ _), (by decide : 0 + 0 ≤ _)⟩)
  dsimp only [Pt.U, Pt.locs, Pt.cells, Pt.slots] at X2 l2 y2 z2 st2 hQ2
  rw [l2, y2, z2] at X2
  clear l2 y2 z2
  obtain ⟨rfl, Nq2, e2⟩ := hQ2
  have N2 := Fr.app N1 Nq2
  refine oS (fun t k => st2 t k) ?_
  show oG _ _ _ _ _ _ _ (T2.setTop (mkF m 9 #[.val (.ref a1), .val (.ref x1)] [(.ref x1), (.ref a1)]))
  try clear st2 X1 e1
  obtain ⟨T3, h3, X3, e3, W3, st3⟩ := putF X2 hx hZ hown (host := "") (Or.inl (oW hw 174 rfl)) Via.refl e2 F_e0_a1 E_a1 (Or.inr ⟨(oW hw 175 rfl), rfl, hnm⟩) (oW hw 150 rfl) (ty := (.object "java/lang/Object")) (by decide) rfl rfl (g := (mkF m 9 #[.val (.ref a1), .val (.ref x1)] [(.ref x1), (.ref a1)])) rfl rfl (hb hby d26_9)
  have O3 := O0.wr W3 g_a1
  have N3 := Fr.snoc X3 N2 g_a1
  have Kp3 : Keep h0 h3 [a1] := (Keep.refl h0 [a1]).wr W3 (Or.inl (List.mem_of_getElem? (i := 0) rfl))
  have Fw3 := F_e0_a1.same W3
  refine oS (fun t k => st3 t k) ?_
  try clear st3 X2 e2
  refine oS (fun t k => XS.aloadN X3.here hx rfl (hb hby d26_12) rfl rfl k) ?_
  obtain ⟨T4, X4, e4, st4⟩ := getS2 X3 hx hZ hown (Or.inr (oW hw 181 rfl)) Via.refl e3 ((wS3 W).ext O3.2) (g := (mkF m 13 #[.val (.ref a1), .val (.ref x1)] [(.ref a1)])) rfl (hb hby d26_13)
  refine oS (fun t k => st4 t k) ?_
  try clear st4 X3 e3
  try clear T3
  obtain ⟨T5, h5, X5, e5, W5, st5⟩ := putF X4 hx hZ hown (host := "") (Or.inl (oW hw 176 rfl)) Via.refl e4 (F_e1_a1.other W3 (Or.inr (slot_ne (Or.inr (oW hw 177 rfl)) (Or.inr (oW hw 175 rfl)) (by decide) (t := (.object "java/lang/Object")) (t' := (.object "java/lang/Object")) (by decide) (by decide)))) (E_a1.wr W3) (Or.inr ⟨(oW hw 177 rfl), rfl, hnm⟩) (oW hw 150 rfl) (ty := (.object "java/lang/Object")) (by decide) rfl rfl (g := (mkF m 16 #[.val (.ref a1), .val (.ref x1)] [(.ref (w 3)), (.ref a1)])) rfl rfl (hb hby d26_16)
  have O5 := O3.wr W5 g_a1
  have N5 := Fr.snoc X5 N3 g_a1
  have Kp5 : Keep h0 h5 [a1] := Kp3.wr W5 (Or.inl (List.mem_of_getElem? (i := 0) rfl))
  have Fw5 := (F_e1_a1.other W3 (Or.inr (slot_ne (Or.inr (oW hw 177 rfl)) (Or.inr (oW hw 175 rfl)) (by decide) (t := (.object "java/lang/Object")) (t' := (.object "java/lang/Object")) (by decide) (by decide)))).same W5
  refine oS (fun t k => st5 t k) ?_
  try clear st5 X4 e4
  try clear T4
  exact own_ret (v := none) X5 (fun _ => rfl) Bd.notSynchronized (fun fs hr => X5.returnOut hx Bd.returns (hb hby d26_19) hr) (by rw [e5]; exact ⟨rfl, N5, Kp5, ((E_a1.wr W3).wr W5), (Fw3.other W5 (Or.inr (slot_ne (Or.inr (oW hw 175 rfl)) (Or.inr (oW hw 177 rfl)) (by decide) (t := (.object "java/lang/Object")) (t' := (.object "java/lang/Object")) (by decide) (by decide)))), Fw5⟩) (by decide) (by decide)
theorem d22_0 : decode jdk_44_method_2_code 0 = .ok (.aload_n 0, 1) := by decide +kernel
theorem d22_1 : decode jdk_44_method_2_code 1 = .ok (.invokespecial 1, 3) := by decide +kernel
theorem d22_4 : decode jdk_44_method_2_code 4 = .ok (.aload_n 0, 1) := by decide +kernel
theorem d22_5 : decode jdk_44_method_2_code 5 = .ok (.aload_n 1, 1) := by decide +kernel
theorem d22_6 : decode jdk_44_method_2_code 6 = .ok (.invokestatic 7, 3) := by decide +kernel
theorem d22_9 : decode jdk_44_method_2_code 9 = .ok (.putfield 13, 3) := by decide +kernel
theorem d22_12 : decode jdk_44_method_2_code 12 = .ok (.aload_n 0, 1) := by decide +kernel
theorem d22_13 : decode jdk_44_method_2_code 13 = .ok (.aload_n 2, 1) := by decide +kernel
theorem d22_14 : decode jdk_44_method_2_code 14 = .ok (.invokestatic 7, 3) := by decide +kernel
theorem d22_17 : decode jdk_44_method_2_code 17 = .ok (.putfield 24, 3) := by decide +kernel
theorem d22_20 : decode jdk_44_method_2_code 20 = .ok (.return_, 1) := by decide +kernel
abbrev mY19 : MethodName := (⟨"java/util/ImmutableCollections$List12", "<init>", "(Ljava/lang/Object;Ljava/lang/Object;)V"⟩ : MethodName)
theorem ef_22_rrr (m : MethodId) (x0 : Addr) (x1 : Addr) (x2 : Addr) : entryFrame m #[(.ref x0), (.ref x1), (.ref x2)] 3 = mkF m 0 #[.val (.ref x0), .val (.ref x1), .val (.ref x2)] [] := by first | (simp [entryFrame, mkF, argsToLocals, Value.category]; done) | rfl
def Q_l12_2 (Z : State) (a1 : Addr) (x1 : Addr) (x2 : Addr) (w : Nat → Addr) (h0 : Heap) (n0 : Nat) (v : Option Value) (h : Heap) (L : List Loc) : Prop := v = none ∧ Fr n0 L ∧ Keep h0 h [a1] ∧ Exa Z h a1 "java/util/ImmutableCollections$List12" ∧ Fld Z h a1 "java/util/ImmutableCollections$List12" "e0" "Ljava/lang/Object;" (.ref x1) ∧ Fld Z h a1 "java/util/ImmutableCollections$List12" "e1" "Ljava/lang/Object;" (.ref x2)
theorem rm_l12_2 (l : Launch) (Z : State) (a0 : Array Value) (hw : ∀ d ∈ tables_1, d.before a0 Z = true) (ws : List Jvm.Cond) (a1 : Addr) (x1 : Addr) (x2 : Addr) (w : Nat → Addr) (h0 : Heap) (n0 : Nat) (O0 : Old Z n0 h0) (W : own_World Z w) (E_a1 : Exa Z h0 a1 "java/util/ImmutableCollections$List12") (g_a1 : n0 ≤ a1) (F_e0_a1 : Fld Z h0 a1 "java/util/ImmutableCollections$List12" "e0" "Ljava/lang/Object;" .null) (F_e1_a1 : Fld Z h0 a1 "java/util/ImmutableCollections$List12" "e1" "Ljava/lang/Object;" .null) :
    MetFree l mY19 (head1 (Jvm.Cond.code mY19 jdk_44_method_2_code 3 none :: ws) R_13) (fun a U => a = #[(.ref a1), (.ref x1), (.ref x2)] ∧ Z.Warmed39 U.vm ∧ U.heap = h0) (fun _ _ _ _ _ => True) (fun _ U o U' => ∃ v L, o = .returned v ∧ Q_l12_2 Z a1 x1 x2 w h0 n0 v U'.heap L ∧ FrameEnd U o U' L R_13.cells R_13.slots) := by
  refine MetFree.of_bodySF (plainFor_of_name pn_10) hisR ?_
  intro p e s m args below meth c s₁ Bd hml0 hP hK
  obtain ⟨rfl, hZ, hh⟩ := hP
  have hx := Bd.exec
  have hby := Bd.bytes
  have hml : c.maxLocals = 3 := hml0
  have hown : s.vm.findClass "java/util/ImmutableCollections$List12" = some m.cls := findClass_of_methodNamed Bd.named
  have hnm := (name_of_methodNamed Bd.named Bd.method).1
  have X0 : Stand p l e R_13 s m #[(.ref a1), (.ref x1), (.ref x2)] below meth c s₁ [] 0 0 := Stand.of_body Bd
  have e0 : s₁.heap = h0 := by rw [← hh, Bd.state]; rfl
  have N0 := Fr.nil n0
  show oG p e below s (Q_l12_2 Z a1 x1 x2 w h0 n0) R_13.cells R_13.slots _
  refine oS (fun t k => castTop (ef_22_rrr m a1 x1 x2) k) ?_
  show oG _ _ _ _ _ _ _ (s₁.setTop (mkF m 0 #[.val (.ref a1), .val (.ref x1), .val (.ref x2)] []))
  refine oS (fun t k => XS.aloadN X0.here hx rfl (hb hby d22_0) rfl rfl k) ?_
  obtain ⟨_, _, ⟨T1, L1, k1, n1⟩, -, X1, ⟨Lc1, hQ1, l1, y1, z1⟩, st1⟩ := X0.specialBack hx (y := mY3) rfl hown (oM hZ hw 156 rfl) (oM hZ hw 157 rfl) (oM hZ hw 161 rfl) (by decide) (backOf (W := 0) (rm_ailinit l Z a0 hw [] a1  h0 n0 O0  ) hZ (oW hw 161 rfl) (oW hw 160 rfl) (by decide) (by decide)) (g := (mkF m 1 #[.val (.ref a1), .val (.ref x1), .val (.ref x2)] [(.ref a1)])) rfl (by rw [hml]; rfl) (Steps.refl _) (a := a1) (argsL := []) (rest := []) (lenOf pd_0 rfl) rfl (by show 2 * 0 + _ ≤ _; exact Nat.le_of_eq rfl) (hb hby d22_1) (fun _ _ => ⟨rfl, e0, (by decide : 0 + 0 ≤ _), (by decide : 0 + 0 ≤ _)⟩)
  dsimp only [Pt.U, Pt.locs, Pt.cells, Pt.slots] at X1 l1 y1 z1 st1 hQ1
  rw [l1, y1, z1] at X1
  clear l1 y1 z1
  obtain ⟨rfl, Nq1, e1⟩ := hQ1
  have N1 := Fr.app N0 Nq1
  refine oS (fun t k => st1.trans k) ?_
  show oG _ _ _ _ _ _ _ (T1.setTop (mkF m 4 #[.val (.ref a1), .val (.ref x1), .val (.ref x2)] []))
  try clear st1
  refine oS (fun t k => XS.aloadN X1.here hx rfl (hb hby d22_4) rfl rfl k) ?_
  refine oS (fun t k => XS.aloadN X1.here hx rfl (hb hby d22_5) rfl rfl k) ?_
  obtain ⟨_, _, ⟨T2, L2, k2, n2⟩, -, X2, ⟨Lc2, hQ2, l2, y2, z2⟩, st2⟩ := Jvm.LawKit.callS X1 hx (y := mY17) hown (oM hZ hw 170 rfl) (oM hZ hw 171 rfl) (oM hZ hw 172 rfl) (oM hZ hw 173 rfl) (by decide) (backOf (W := 1) (rm_rnn l Z a0 hw [] x1  h0 n0 O0  ) hZ (oW hw 173 rfl) (oW hw 172 rfl) (by decide) (by decide)) (g := (mkF m 6 #[.val (.ref a1), .val (.ref x1), .val (.ref x2)] [(.ref x1), (.ref a1)])) rfl (by rw [hml]; rfl) (argsL := [(.ref x1)]) (rest := [(.ref a1)]) (lenOf pd_6 rfl) rfl (by show 2 * 0 + _ ≤ _; exact Nat.le_of_eq rfl) (hb hby d22_6) (fun _ _ => ⟨rfl, e1, (by decide : 0 + 0 ≤ _), (by decide : 0 + 0 ≤ _)⟩)
  dsimp only [Pt.U, Pt.locs, Pt.cells, Pt.slots] at X2 l2 y2 z2 st2 hQ2
  rw [l2, y2, z2] at X2
  clear l2 y2 z2
  obtain ⟨rfl, Nq2, e2⟩ := hQ2
  have N2 := Fr.app N1 Nq2
  refine oS (fun t k => st2 t k) ?_
  show oG _ _ _ _ _ _ _ (T2.setTop (mkF m 9 #[.val (.ref a1), .val (.ref x1), .val (.ref x2)] [(.ref x1), (.ref a1)]))
  try clear st2 X1 e1
  obtain ⟨T3, h3, X3, e3, W3, st3⟩ := putF X2 hx hZ hown (host := "") (Or.inl (oW hw 174 rfl)) Via.refl e2 F_e0_a1 E_a1 (Or.inr ⟨(oW hw 175 rfl), rfl, hnm⟩) (oW hw 150 rfl) (ty := (.object "java/lang/Object")) (by decide) rfl rfl (g := (mkF m 9 #[.val (.ref a1), .val (.ref x1), .val (.ref x2)] [(.ref x1), (.ref a1)])) rfl rfl (hb hby d22_9)
  have O3 := O0.wr W3 g_a1
  have N3 := Fr.snoc X3 N2 g_a1
  have Kp3 : Keep h0 h3 [a1] := (Keep.refl h0 [a1]).wr W3 (Or.inl (List.mem_of_getElem? (i := 0) rfl))
  have Fw3 := F_e0_a1.same W3
  refine oS (fun t k => st3 t k) ?_
  try clear st3 X2 e2
  refine oS (fun t k => XS.aloadN X3.here hx rfl (hb hby d22_12) rfl rfl k) ?_
  refine oS (fun t k => XS.aloadN X3.here hx rfl (hb hby d22_13) rfl rfl k) ?_
  obtain ⟨_, _, ⟨T4, L4, k4, n4⟩, -, X4, ⟨Lc4, hQ4, l4, y4, z4⟩, st4⟩ := Jvm.LawKit.callS X3 hx (y := mY17) hown (oM hZ hw 170 rfl) (oM hZ hw 171 rfl) (oM hZ hw 172 rfl) (oM hZ hw 173 rfl) (by decide) (backOf (W := 1) (rm_rnn l Z a0 hw [] x2  h3 n0 O3  ) hZ (oW hw 173 rfl) (oW hw 172 rfl) (by decide) (by decide)) (g := (mkF m 14 #[.val (.ref a1), .val (.ref x1), .val (.ref x2)] [(.ref x2), (.ref a1)])) rfl (by rw [hml]; rfl) (argsL := [(.ref x2)]) (rest := [(.ref a1)]) (lenOf pd_6 rfl) rfl (by show 2 * 0 + _ ≤ _; exact Nat.le_of_eq rfl) (hb hby d22_14) (fun _ _ => ⟨rfl, e3, (by decide : 0 + 0 ≤ _), (by decide : 0 + 0 ≤ _)⟩)
  dsimp only [Pt.U, Pt.locs, Pt.cells, Pt.slots] at X4 l4 y4 z4 st4 hQ4
  rw [l4, y4, z4] at X4
  clear l4 y4 z4
  obtain ⟨rfl, Nq4, e4⟩ := hQ4
  have N4 := Fr.app N3 Nq4
  refine oS (fun t k => st4 t k) ?_
  show oG _ _ _ _ _ _ _ (T4.setTop (mkF m 17 #[.val (.ref a1), .val (.ref x1), .val (.ref x2)] [(.ref x2), (.ref a1)]))
  try clear st4 X3 e3
  try clear T3
  obtain ⟨T5, h5, X5, e5, W5, st5⟩ := putF X4 hx hZ hown (host := "") (Or.inl (oW hw 176 rfl)) Via.refl e4 (F_e1_a1.other W3 (Or.inr (slot_ne (Or.inr (oW hw 177 rfl)) (Or.inr (oW hw 175 rfl)) (by decide) (t := (.object "java/lang/Object")) (t' := (.object "java/lang/Object")) (by decide) (by decide)))) (E_a1.wr W3) (Or.inr ⟨(oW hw 177 rfl), rfl, hnm⟩) (oW hw 150 rfl) (ty := (.object "java/lang/Object")) (by decide) rfl rfl (g := (mkF m 17 #[.val (.ref a1), .val (.ref x1), .val (.ref x2)] [(.ref x2), (.ref a1)])) rfl rfl (hb hby d22_17)
  have O5 := O3.wr W5 g_a1
  have N5 := Fr.snoc X5 N4 g_a1
  have Kp5 : Keep h0 h5 [a1] := Kp3.wr W5 (Or.inl (List.mem_of_getElem? (i := 0) rfl))
  have Fw5 := (F_e1_a1.other W3 (Or.inr (slot_ne (Or.inr (oW hw 177 rfl)) (Or.inr (oW hw 175 rfl)) (by decide) (t := (.object "java/lang/Object")) (t' := (.object "java/lang/Object")) (by decide) (by decide)))).same W5
  refine oS (fun t k => st5 t k) ?_
  try clear st5 X4 e4
  exact own_ret (v := none) X5 (fun _ => rfl) Bd.notSynchronized (fun fs hr => X5.returnOut hx Bd.returns (hb hby d22_20) hr) (by rw [e5]; exact ⟨rfl, N5, Kp5, ((E_a1.wr W3).wr W5), (Fw3.other W5 (Or.inr (slot_ne (Or.inr (oW hw 175 rfl)) (Or.inr (oW hw 177 rfl)) (by decide) (t := (.object "java/lang/Object")) (t' := (.object "java/lang/Object")) (by decide) (by decide)))), Fw5⟩) (by decide) (by decide)
theorem d17_0 : decode jdk_38_method_16_code 0 = .ok (.aload_n 0, 1) := by decide +kernel
theorem d17_1 : decode jdk_38_method_16_code 1 = .ok (.getfield 9, 3) := by decide +kernel
theorem d17_4 : decode jdk_38_method_16_code 4 = .ok (.aload_n 0, 1) := by decide +kernel
theorem d17_5 : decode jdk_38_method_16_code 5 = .ok (.getfield 48, 3) := by decide +kernel
theorem d17_8 : decode jdk_38_method_16_code 8 = .ok (.invokestatic 66, 3) := by decide +kernel
theorem pd_7 : parseMethodDescriptor "([Ljava/lang/Object;I)[Ljava/lang/Object;" = some ⟨[(.array (.object "java/lang/Object")), .int], some (.array (.object "java/lang/Object"))⟩ := by decide +kernel
theorem d17_11 : decode jdk_38_method_16_code 11 = .ok (.areturn, 1) := by decide +kernel
abbrev mY20 : MethodName := (⟨"java/util/ArrayList", "toArray", "()[Ljava/lang/Object;"⟩ : MethodName)
theorem ef_17_r (m : MethodId) (x0 : Addr) : entryFrame m #[(.ref x0)] 1 = mkF m 0 #[.val (.ref x0)] [] := by first | (simp [entryFrame, mkF, argsToLocals, Value.category]; done) | rfl
abbrev R_14 : Room := { frames := 3, cells := 1, slots := 1, locals := 46 }
def Q_toA1 (Z : State) (a1 : Addr) (ar1 : Addr) (ak1 : ClassId) (x1 : Addr) (w : Nat → Addr) (h0 : Heap) (n0 : Nat) (v : Option Value) (h : Heap) (L : List Loc) : Prop := ∃ (r : Addr) (k : ClassId), v = some (.ref r) ∧ Fr n0 L ∧ Keep h0 h [] ∧ h0.size ≤ r ∧ Arv Z h r k (.object "java/lang/Object") (1 : Int32) [(.ref x1)] .null
theorem rm_toA1 (l : Launch) (Z : State) (a0 : Array Value) (hw : ∀ d ∈ tables_1, d.before a0 Z = true) (ws : List Jvm.Cond) (a1 : Addr) (ar1 : Addr) (ak1 : ClassId) (x1 : Addr) (w : Nat → Addr) (h0 : Heap) (n0 : Nat) (O0 : Old Z n0 h0) (W : own_World Z w) (E_a1 : Exa Z h0 a1 "java/util/ArrayList") (F_size_a1 : Fld Z h0 a1 "java/util/ArrayList" "size" "I" (.int 1)) (F_elementData_a1 : Fld Z h0 a1 "java/util/ArrayList" "elementData" "[Ljava/lang/Object;" (.ref ar1)) (V_ar1 : Arv Z h0 ar1 ak1 (.object "java/lang/Object") (10 : Int32) [(.ref x1), .null, .null, .null, .null, .null, .null, .null, .null, .null] .null) (E_ar1 : Exa Z h0 ar1 "[Ljava/lang/Object;") (E_x1 : Exa Z h0 x1 "com/example/shiftweave/shiftweave/rostering/ShiftRequest") :
    MetFree l mY20 (head1 (Jvm.Cond.code mY20 jdk_38_method_16_code 1 (some (.array (.object "java/lang/Object"))) :: ws) R_14) (fun a U => a = #[(.ref a1)] ∧ Z.Warmed39 U.vm ∧ U.heap = h0) (fun _ _ _ _ _ => True) (fun _ U o U' => ∃ v L, o = .returned v ∧ Q_toA1 Z a1 ar1 ak1 x1 w h0 n0 v U'.heap L ∧ FrameEnd U o U' L R_14.cells R_14.slots) := by
  refine MetFree.of_bodySF (plainFor_of_name pn_5) hisR ?_
  intro p e s m args below meth c s₁ Bd hml0 hP hK
  obtain ⟨rfl, hZ, hh⟩ := hP
  have hx := Bd.exec
  have hby := Bd.bytes
  have hml : c.maxLocals = 1 := hml0
  have hown : s.vm.findClass "java/util/ArrayList" = some m.cls := findClass_of_methodNamed Bd.named
  have hnm := (name_of_methodNamed Bd.named Bd.method).1
  have X0 : Stand p l e R_14 s m #[(.ref a1)] below meth c s₁ [] 0 0 := Stand.of_body Bd
  have e0 : s₁.heap = h0 := by rw [← hh, Bd.state]; rfl
  have N0 := Fr.nil n0
  show oG p e below s (Q_toA1 Z a1 ar1 ak1 x1 w h0 n0) R_14.cells R_14.slots _
  refine oS (fun t k => castTop (ef_17_r m a1) k) ?_
  show oG _ _ _ _ _ _ _ (s₁.setTop (mkF m 0 #[.val (.ref a1)] []))
  refine oS (fun t k => XS.aloadN X0.here hx rfl (hb hby d17_0) rfl rfl k) ?_
  obtain ⟨T1, X1, e1, st1⟩ := getF X0 hx hZ hown (host := "") (Or.inl (oW hw 25 rfl)) Via.refl e0 F_elementData_a1 (g := (mkF m 1 #[.val (.ref a1)] [(.ref a1)])) rfl rfl (hb hby d17_1)
  refine oS (fun t k => st1 t k) ?_
  try clear st1
  refine oS (fun t k => XS.aloadN X1.here hx rfl (hb hby d17_4) rfl rfl k) ?_
  obtain ⟨T2, X2, e2, st2⟩ := getF X1 hx hZ hown (host := "") (Or.inl (oW hw 41 rfl)) Via.refl e1 F_size_a1 (g := (mkF m 5 #[.val (.ref a1)] [(.ref a1), (.ref ar1)])) rfl rfl (hb hby d17_5)
  refine oS (fun t k => st2 t k) ?_
  try clear st2 X1 e1
  try clear T1
  obtain ⟨_, _, ⟨T3, L3, k3, n3⟩, -, X3, ⟨Lc3, hQ3, l3, y3, z3⟩, st3⟩ := Jvm.LawKit.callS X2 hx (y := mY16) hown (oM hZ hw 124 rfl) (oM hZ hw 125 rfl) (oM hZ hw 126 rfl) (oM hZ hw 127 rfl) (by decide) (backOf (W := 0) (rm_cp2_1 l Z a0 hw [] ar1 ak1 x1 w h0 n0 O0 W V_ar1 E_ar1 E_x1) hZ (oW hw 127 rfl) (oW hw 126 rfl) (by decide) (by decide)) (g := (mkF m 8 #[.val (.ref a1)] [(.int 1), (.ref ar1)])) rfl (by rw [hml]; rfl) (argsL := [(.ref ar1), (.int 1)]) (rest := []) (lenOf pd_7 rfl) rfl (by show 2 * 0 + _ ≤ _; exact Nat.le_of_eq rfl) (hb hby d17_8) (fun _ _ => ⟨rfl, e2, (by decide : 0 + 1 ≤ _), (by decide : 0 + 1 ≤ _)⟩)
  dsimp only [Pt.U, Pt.locs, Pt.cells, Pt.slots] at X3 l3 y3 z3 st3 hQ3
  rw [l3, y3, z3] at X3
  clear l3 y3 z3
  obtain ⟨r3, x3_k, rfl, Nq3, K3, sr3, P3_0⟩ := hQ3
  have N3 := Fr.app N0 Nq3
  have O3 := O0.keep K3 all0
  have Kp3 : Keep h0 T3.heap [] := (Keep.refl h0 []).trans K3 all0
  have gr3 : n0 ≤ r3 := Nat.le_trans (O0.1 ▸ O0.2.1) sr3
  have szrr3 : h0.size ≤ r3 := Nat.le_trans (Nat.le_refl _) sr3
  refine oS (fun t k => st3 t k) ?_
  show oG _ _ _ _ _ _ _ (T3.setTop (mkF m 11 #[.val (.ref a1)] [(.ref r3)]))
  try clear st3 X2 e2
  try clear T2
  exact own_ret (v := some (.ref r3)) X3 (fun h => by rw [Bd.returns] at h; cases h) Bd.notSynchronized (fun fs hr => retOut X3 hx (t := (.array (.object "java/lang/Object"))) Bd.returns rfl (Or.inr (Or.inr (Or.inr (Or.inr ⟨rfl, rfl, rfl⟩)))) (hb hby d17_11) hr) (by exact ⟨r3, x3_k, rfl, N3, Kp3, szrr3, P3_0⟩) (by decide) (by decide)
theorem d21_0 : decode jdk_40_method_47_code 0 = .ok (.aload_n 0, 1) := by decide +kernel
theorem d21_1 : decode jdk_40_method_47_code 1 = .ok (.arraylength, 1) := by decide +kernel
theorem d21_2 : decode jdk_40_method_47_code 2 = .ok (.tableswitch 57 0 2 #[26, 32, 43], 26) := by decide +kernel
theorem d21_34 : decode jdk_40_method_47_code 34 = .ok (.new 96, 3) := by decide +kernel
theorem d21_37 : decode jdk_40_method_47_code 37 = .ok (.dup, 1) := by decide +kernel
theorem d21_38 : decode jdk_40_method_47_code 38 = .ok (.aload_n 0, 1) := by decide +kernel
theorem d21_39 : decode jdk_40_method_47_code 39 = .ok (.iconst 0, 1) := by decide +kernel
theorem d21_40 : decode jdk_40_method_47_code 40 = .ok (.aaload, 1) := by decide +kernel
theorem d21_41 : decode jdk_40_method_47_code 41 = .ok (.invokespecial 98, 3) := by decide +kernel
theorem pd_8 : parseMethodDescriptor "(Ljava/lang/Object;)V" = some ⟨[(.object "java/lang/Object")], none⟩ := by decide +kernel
theorem d21_44 : decode jdk_40_method_47_code 44 = .ok (.areturn, 1) := by decide +kernel
abbrev mY21 : MethodName := (⟨"java/util/List", "of", "([Ljava/lang/Object;)Ljava/util/List;"⟩ : MethodName)
theorem ef_21_r (m : MethodId) (x0 : Addr) : entryFrame m #[(.ref x0)] 2 = mkF m 0 #[.val (.ref x0), .unset] [] := by first | (simp [entryFrame, mkF, argsToLocals, Value.category]; done) | rfl
theorem pn_11 : plainName "java/util/List" = true := by first | (simp [plainName, overriddenIn]; done) | decide +kernel
abbrev R_15 : Room := { frames := 5, cells := 1, slots := 2, locals := 62 }
def Q_of1 (Z : State) (a1 : Addr) (k1 : ClassId) (x1 : Addr) (w : Nat → Addr) (h0 : Heap) (n0 : Nat) (v : Option Value) (h : Heap) (L : List Loc) : Prop := ∃ (r : Addr), v = some (.ref r) ∧ Fr n0 L ∧ Keep h0 h [] ∧ h0.size ≤ r ∧ Exa Z h r "java/util/ImmutableCollections$List12" ∧ Fld Z h r "java/util/ImmutableCollections$List12" "e0" "Ljava/lang/Object;" (.ref x1) ∧ Fld Z h r "java/util/ImmutableCollections$List12" "e1" "Ljava/lang/Object;" (.ref (w 3))
theorem rm_of1 (l : Launch) (Z : State) (a0 : Array Value) (hw : ∀ d ∈ tables_1, d.before a0 Z = true) (ws : List Jvm.Cond) (a1 : Addr) (k1 : ClassId) (x1 : Addr) (w : Nat → Addr) (h0 : Heap) (n0 : Nat) (O0 : Old Z n0 h0) (W : own_World Z w) (V_a1 : Arv Z h0 a1 k1 (.object "java/lang/Object") (1 : Int32) [(.ref x1)] .null) :
    MetFree l mY21 (head1 (Jvm.Cond.code mY21 jdk_40_method_47_code 2 (some (.object "java/util/List")) :: ws) R_15) (fun a U => a = #[(.ref a1)] ∧ Z.Warmed39 U.vm ∧ U.heap = h0) (fun _ _ _ _ _ => True) (fun _ U o U' => ∃ v L, o = .returned v ∧ Q_of1 Z a1 k1 x1 w h0 n0 v U'.heap L ∧ FrameEnd U o U' L R_15.cells R_15.slots) := by
  refine MetFree.of_bodySF (plainFor_of_name pn_11) hisR ?_
  intro p e s m args below meth c s₁ Bd hml0 hP hK
  obtain ⟨rfl, hZ, hh⟩ := hP
  have hx := Bd.exec
  have hby := Bd.bytes
  have hml : c.maxLocals = 2 := hml0
  have hown : s.vm.findClass "java/util/List" = some m.cls := findClass_of_methodNamed Bd.named
  have hnm := (name_of_methodNamed Bd.named Bd.method).1
  have X0 : Stand p l e R_15 s m #[(.ref a1)] below meth c s₁ [] 0 0 := Stand.of_body Bd
  have e0 : s₁.heap = h0 := by rw [← hh, Bd.state]; rfl
  have N0 := Fr.nil n0
  show oG p e below s (Q_of1 Z a1 k1 x1 w h0 n0) R_15.cells R_15.slots _
  refine oS (fun t k => castTop (ef_21_r m a1) k) ?_
  show oG _ _ _ _ _ _ _ (s₁.setTop (mkF m 0 #[.val (.ref a1), .unset] []))
  refine oS (fun t k => XS.aloadN X0.here hx rfl (hb hby d21_0) rfl rfl k) ?_
  obtain ⟨cl1, Ar1, -, Sz1, Ng1, -, -⟩ := id V_a1
  refine oS (S' := (s₁.setTop (mkF m 2 #[.val (.ref a1), .unset] [(.int 1)]))) (fun t k => X0.arraylength hx (by rw [e0]; exact Ar1.1) (State.isArrayOf_alike hZ.alike Ar1.2.1) (g := (mkF m 1 #[.val (.ref a1), .unset] [(.ref a1)])) rfl rfl (hb hby d21_1) t (by rw [len_of Sz1 Ng1]; exact k)) ?_
  refine oS (fun t k => XS.tswIn X0.here hx rfl (pc0 := 2) (pc' := 34) rfl (hb hby d21_2) (i := (1 : Int32)) rfl (by decide) (o := 32) rfl (by decide) (by decide) k) ?_
  obtain ⟨T2, h2, X2, e2, E2, A2, D2, -, st2⟩ := newO X0 hx hZ hown (oW hw 149 rfl) (oW hw 150 rfl) (oW hw 151 rfl) e0 (g := (mkF m 34 #[.val (.ref a1), .unset] [])) rfl (hb hby d21_34) (by decide) (by decide)
  obtain ⟨b2, g2⟩ : ∃ z, z = h0.size := ⟨_, rfl⟩
  rw [← g2] at A2 D2 st2
  have gx2 : n0 ≤ b2 := Nat.le_trans (O0.1 ▸ O0.2.1) (Nat.le_of_eq g2.symm)
  have sz2 : h0.size ≤ b2 := Nat.le_trans (Nat.le_refl _) (Nat.le_of_eq g2.symm)
  have O2 := O0.ext E2
  have Kp2 : Keep h0 h2 [] := (Keep.refl h0 []).ext E2
  have F_e0_b2 : Fld Z h2 b2 "java/util/ImmutableCollections$List12" "e0" "Ljava/lang/Object;" .null := D2 (Or.inr (oW hw 175 rfl)) (ty := (.object "java/lang/Object")) (by decide)
  have F_e1_b2 : Fld Z h2 b2 "java/util/ImmutableCollections$List12" "e1" "Ljava/lang/Object;" .null := D2 (Or.inr (oW hw 177 rfl)) (ty := (.object "java/lang/Object")) (by decide)
  refine oS (fun t k => st2 t k) ?_
  try clear st2
  refine oS (fun t k => XS.dup X2.here hx rfl (hb hby d21_37) rfl rfl k) ?_
  refine oS (fun t k => XS.aloadN X2.here hx rfl (hb hby d21_38) rfl rfl k) ?_
  refine oS (fun t k => oIc li_0 X2.here hx rfl (hb hby d21_39) k) ?_
  show oG _ _ _ _ _ _ _ (T2.setTop (mkF m 40 #[.val (.ref a1), .unset] [(.int 0), (.ref a1), (.ref b2), (.ref b2)]))
  obtain ⟨cl3, Ar3, qk3, Sz3, Ng3, Ha3, Gf3⟩ := id (V_a1.ext E2)
  have hin3 : ¬ ((0 : Int32) < 0 ∨ cl3.slots.size ≤ ((0 : Int32)).toNatClampNeg) := (inb_of Sz3 ⟨by decide, by decide⟩)
  have hat3 : cl3.slots[((0 : Int32)).toNatClampNeg]? = some (.ref x1) := Ha3.at hin3 rfl
  refine oS (fun t k => X2.aaload hx (j := (0 : Int32)) (v := (.ref x1)) (by rw [e2]; exact Ar3.1) (State.isArrayOf_alike hZ.alike Ar3.2.1) rfl Ar3.2.2 hin3 hat3 (g := (mkF m 40 #[.val (.ref a1), .unset] [(.int 0), (.ref a1), (.ref b2), (.ref b2)])) rfl rfl (hb hby d21_40) t k) ?_
  obtain ⟨_, _, ⟨T4, L4, k4, n4⟩, -, X4, ⟨Lc4, hQ4, l4, y4, z4⟩, st4⟩ := X2.specialBack hx (y := mY18) rfl hown (oM hZ hw 178 rfl) (oM hZ hw 179 rfl) (oM hZ hw 180 rfl) (by decide) (backOf (W := 1) (rm_l12_1 l Z a0 hw [] b2 x1 w h2 n0 O2 W A2 gx2 F_e0_b2 F_e1_b2) hZ (oW hw 180 rfl) (oW hw 151 rfl) (by decide) (by decide)) (g := (mkF m 41 #[.val (.ref a1), .unset] [(.ref x1), (.ref b2), (.ref b2)])) rfl (by rw [hml]; rfl) (Steps.refl _) (a := b2) (argsL := [(.ref x1)]) (rest := [(.ref b2)]) (lenOf pd_8 rfl) rfl (by show 2 * 0 + _ ≤ _; exact Nat.le_of_eq rfl) (hb hby d21_41) (fun _ _ => ⟨rfl, e2, (by decide : 1 + 0 ≤ _), (by decide : 2 + 0 ≤ _)⟩)
  dsimp only [Pt.U, Pt.locs, Pt.cells, Pt.slots] at X4 l4 y4 z4 st4 hQ4
  rw [l4, y4, z4] at X4
  clear l4 y4 z4
  obtain ⟨rfl, Nq4, K4, P4_0, P4_1, P4_2⟩ := hQ4
  have N4 := Fr.app N0 Nq4
  have O4 := O2.keep K4 (allS gx2 all0)
  have Kp4 : Keep h0 T4.heap [] := Kp2.trans K4 (allS (Or.inr sz2) all0)
  refine oS (fun t k => st4.trans k) ?_
  show oG _ _ _ _ _ _ _ (T4.setTop (mkF m 44 #[.val (.ref a1), .unset] [(.ref b2)]))
  try clear st4 X2 e2
  try clear T2
  exact own_ret (v := some (.ref b2)) X4 (fun h => by rw [Bd.returns] at h; cases h) Bd.notSynchronized (fun fs hr => retOut X4 hx (t := (.object "java/util/List")) Bd.returns rfl (Or.inr (Or.inr (Or.inr (Or.inr ⟨rfl, rfl, rfl⟩)))) (hb hby d21_44) hr) (by exact ⟨b2, rfl, N4, Kp4, sz2, P4_0, P4_1, P4_2⟩) (by decide) (by decide)
theorem d15_0 : decode jdk_56_method_3_code 0 = .ok (.aload_n 0, 1) := by decide +kernel
theorem d15_1 : decode jdk_56_method_3_code 1 = .ok (.instanceof 10, 3) := by decide +kernel
theorem d15_4 : decode jdk_56_method_3_code 4 = .ok (.ifCond .ne 22, 3) := by decide +kernel
theorem d15_7 : decode jdk_56_method_3_code 7 = .ok (.aload_n 0, 1) := by decide +kernel
theorem d15_8 : decode jdk_56_method_3_code 8 = .ok (.instanceof 12, 3) := by decide +kernel
theorem d15_11 : decode jdk_56_method_3_code 11 = .ok (.ifCond .eq 20, 3) := by decide +kernel
theorem d15_31 : decode jdk_56_method_3_code 31 = .ok (.aload_n 0, 1) := by decide +kernel
theorem d15_32 : decode jdk_56_method_3_code 32 = .ok (.invokeinterface 20 1, 5) := by decide +kernel
theorem pd_9 : parseMethodDescriptor "()Z" = some ⟨[], some .boolean⟩ := by decide +kernel
abbrev mY22 : MethodName := (⟨"java/util/Collection", "isEmpty", "()Z"⟩ : MethodName)
theorem d15_37 : decode jdk_56_method_3_code 37 = .ok (.ifCond .eq 7, 3) := by decide +kernel
theorem d15_44 : decode jdk_56_method_3_code 44 = .ok (.aload_n 0, 1) := by decide +kernel
theorem d15_45 : decode jdk_56_method_3_code 45 = .ok (.invokeinterface 30 1, 5) := by decide +kernel
abbrev mY23 : MethodName := (⟨"java/util/Collection", "toArray", "()[Ljava/lang/Object;"⟩ : MethodName)
theorem d15_50 : decode jdk_56_method_3_code 50 = .ok (.invokestatic 34, 3) := by decide +kernel
theorem pd_10 : parseMethodDescriptor "([Ljava/lang/Object;)Ljava/util/List;" = some ⟨[(.array (.object "java/lang/Object"))], some (.object "java/util/List")⟩ := by decide +kernel
theorem d15_53 : decode jdk_56_method_3_code 53 = .ok (.areturn, 1) := by decide +kernel
abbrev mY24 : MethodName := (⟨"java/util/ImmutableCollections", "listCopy", "(Ljava/util/Collection;)Ljava/util/List;"⟩ : MethodName)
theorem ef_15_r (m : MethodId) (x0 : Addr) : entryFrame m #[(.ref x0)] 2 = mkF m 0 #[.val (.ref x0), .unset] [] := by first | (simp [entryFrame, mkF, argsToLocals, Value.category]; done) | rfl
theorem pn_12 : plainName "java/util/ImmutableCollections" = true := by first | (simp [plainName, overriddenIn]; done) | decide +kernel
abbrev R_16 : Room := { frames := 6, cells := 2, slots := 3, locals := 75 }
def Q_lc1 (Z : State) (a1 : Addr) (ar1 : Addr) (ak1 : ClassId) (x1 : Addr) (w : Nat → Addr) (h0 : Heap) (n0 : Nat) (v : Option Value) (h : Heap) (L : List Loc) : Prop := ∃ (r : Addr), v = some (.ref r) ∧ Fr n0 L ∧ Keep h0 h [] ∧ h0.size ≤ r ∧ Exa Z h r "java/util/ImmutableCollections$List12" ∧ Fld Z h r "java/util/ImmutableCollections$List12" "e0" "Ljava/lang/Object;" (.ref x1) ∧ Fld Z h r "java/util/ImmutableCollections$List12" "e1" "Ljava/lang/Object;" (.ref (w 3))
theorem rm_lc1 (l : Launch) (Z : State) (a0 : Array Value) (hw : ∀ d ∈ tables_1, d.before a0 Z = true) (ws : List Jvm.Cond) (a1 : Addr) (ar1 : Addr) (ak1 : ClassId) (x1 : Addr) (w : Nat → Addr) (h0 : Heap) (n0 : Nat) (O0 : Old Z n0 h0) (W : own_World Z w) (E_a1 : Exa Z h0 a1 "java/util/ArrayList") (F_size_a1 : Fld Z h0 a1 "java/util/ArrayList" "size" "I" (.int 1)) (F_elementData_a1 : Fld Z h0 a1 "java/util/ArrayList" "elementData" "[Ljava/lang/Object;" (.ref ar1)) (V_ar1 : Arv Z h0 ar1 ak1 (.object "java/lang/Object") (10 : Int32) [(.ref x1), .null, .null, .null, .null, .null, .null, .null, .null, .null] .null) (E_ar1 : Exa Z h0 ar1 "[Ljava/lang/Object;") (E_x1 : Exa Z h0 x1 "com/example/shiftweave/shiftweave/rostering/ShiftRequest") :
    MetFree l mY24 (head1 (Jvm.Cond.code mY24 jdk_56_method_3_code 2 (some (.object "java/util/List")) :: ws) R_16) (fun a U => a = #[(.ref a1)] ∧ Z.Warmed39 U.vm ∧ U.heap = h0) (fun _ _ _ _ _ => True) (fun _ U o U' => ∃ v L, o = .returned v ∧ Q_lc1 Z a1 ar1 ak1 x1 w h0 n0 v U'.heap L ∧ FrameEnd U o U' L R_16.cells R_16.slots) := by
  refine MetFree.of_bodySF (plainFor_of_name pn_12) hisR ?_
  intro p e s m args below meth c s₁ Bd hml0 hP hK
  obtain ⟨rfl, hZ, hh⟩ := hP
  have hx := Bd.exec
  have hby := Bd.bytes
  have hml : c.maxLocals = 2 := hml0
  have hown : s.vm.findClass "java/util/ImmutableCollections" = some m.cls := findClass_of_methodNamed Bd.named
  have hnm := (name_of_methodNamed Bd.named Bd.method).1
  have X0 : Stand p l e R_16 s m #[(.ref a1)] below meth c s₁ [] 0 0 := Stand.of_body Bd
  have e0 : s₁.heap = h0 := by rw [← hh, Bd.state]; rfl
  have N0 := Fr.nil n0
  show oG p e below s (Q_lc1 Z a1 ar1 ak1 x1 w h0 n0) R_16.cells R_16.slots _
  refine oS (fun t k => castTop (ef_15_r m a1) k) ?_
  show oG _ _ _ _ _ _ _ (s₁.setTop (mkF m 0 #[.val (.ref a1), .unset] []))
  refine oS (fun t k => XS.aloadN X0.here hx rfl (hb hby d15_0) rfl rfl k) ?_
  obtain ⟨T1, X1, e1, st1⟩ := instNo X0 hx hZ hown (oW hw 101 rfl) e0 E_a1 (own_no (S := "java/util/AbstractList") (oW hw 102 rfl) (own_NI.inst (oW hw 150 rfl)) (NS.step (oW hw 102 rfl) (NS.step (oW hw 103 rfl) (NS.step (oW hw 104 rfl) (own_root (oW hw 105 rfl) (own_NI.inst (oW hw 150 rfl)) (by decide)) (by decide)) (by decide)) (by decide)) (by decide)) (g := (mkF m 1 #[.val (.ref a1), .unset] [(.ref a1)])) rfl rfl (hb hby d15_1)
  refine oS (fun t k => st1 t k) ?_
  try clear st1
  refine oS (fun t k => XS.ifNo X1.here hx rfl (hb hby d15_4) rfl ((if0 _ _).trans (teq (by decide)).2) k) ?_
  refine oS (fun t k => XS.aloadN X1.here hx rfl (hb hby d15_7) rfl rfl k) ?_
  obtain ⟨T2, X2, e2, st2⟩ := instNo X1 hx hZ hown (oW hw 106 rfl) e1 E_a1 (own_no (S := "java/util/AbstractList") (oW hw 102 rfl) (own_NI.sel (oW hw 262 rfl)) (NS.step (oW hw 102 rfl) (NS.step (oW hw 103 rfl) (NS.step (oW hw 104 rfl) (own_root (oW hw 105 rfl) (own_NI.sel (oW hw 262 rfl)) (by decide)) (by decide)) (by decide)) (by decide)) (by decide)) (g := (mkF m 8 #[.val (.ref a1), .unset] [(.ref a1)])) rfl rfl (hb hby d15_8)
  refine oS (fun t k => st2 t k) ?_
  try clear st2 X1 e1
  try clear T1
  refine oS (fun t k => XS.ifYes X2.here hx rfl (pc0 := 11) (pc' := 31) rfl (hb hby d15_11) rfl ((if0 _ _).trans (teq (by decide)).1) (by decide) (by decide) k) ?_
  refine oS (fun t k => XS.aloadN X2.here hx rfl (hb hby d15_31) rfl rfl k) ?_
  show oG _ _ _ _ _ _ _ (T2.setTop (mkF m 32 #[.val (.ref a1), .unset] [(.ref a1)]))
  obtain ⟨cq3, kq3, q3a, q3b, q3c⟩ := isOf hZ e2 E_a1
  obtain ⟨_, _, ⟨T3, L3, k3, n3⟩, -, X3, ⟨Lc3, hQ3, l3, y3, z3⟩, st3⟩ := X2.interfaceBack hx (xi := mY22) (y := mY14) hown (oM hZ hw 107 rfl) (oM hZ hw 108 rfl) (oM hZ hw 109 rfl) (oM hZ hw 110 rfl) (oM hZ hw 111 rfl) (oM hZ hw 112 rfl) (oM hZ hw 113 rfl) (oM hZ hw 114 rfl) (by decide) (backOf (W := 0) (rm_isE1 l Z a0 hw [] a1  h0 n0 O0  F_size_a1) hZ (oW hw 115 rfl) (oW hw 3 rfl) (by decide) (by decide)) q3a q3b q3c (g := (mkF m 32 #[.val (.ref a1), .unset] [(.ref a1)])) rfl (by rw [hml]; rfl) (Steps.refl _) (argsL := []) (rest := []) (lenOf pd_9 rfl) rfl (by show 2 * 0 + _ ≤ _; exact Nat.le_of_eq rfl) (hb hby d15_32) (fun _ _ => ⟨rfl, e2, (by decide : 0 + 0 ≤ _), (by decide : 0 + 0 ≤ _)⟩)
  dsimp only [Pt.U, Pt.locs, Pt.cells, Pt.slots] at X3 l3 y3 z3 st3 hQ3
  rw [l3, y3, z3] at X3
  clear l3 y3 z3
  obtain ⟨rfl, Nq3, e3⟩ := hQ3
  have N3 := Fr.app N0 Nq3
  refine oS (fun t k => st3.trans k) ?_
  show oG _ _ _ _ _ _ _ (T3.setTop (mkF m 37 #[.val (.ref a1), .unset] [(.int 0)]))
  try clear st3 X2 e2
  try clear T2
  refine oS (fun t k => XS.ifYes X3.here hx rfl (pc0 := 37) (pc' := 44) rfl (hb hby d15_37) rfl ((if0 _ _).trans (teq (by decide)).1) (by decide) (by decide) k) ?_
  refine oS (fun t k => XS.aloadN X3.here hx rfl (hb hby d15_44) rfl rfl k) ?_
  obtain ⟨cq4, kq4, q4a, q4b, q4c⟩ := isOf hZ e3 E_a1
  obtain ⟨_, _, ⟨T4, L4, k4, n4⟩, -, X4, ⟨Lc4, hQ4, l4, y4, z4⟩, st4⟩ := X3.interfaceBack hx (xi := mY23) (y := mY20) hown (oM hZ hw 116 rfl) (oM hZ hw 117 rfl) (oM hZ hw 118 rfl) (oM hZ hw 119 rfl) (oM hZ hw 120 rfl) (oM hZ hw 121 rfl) (oM hZ hw 122 rfl) (oM hZ hw 114 rfl) (by decide) (backOf (W := 0) (rm_toA1 l Z a0 hw [] a1 ar1 ak1 x1 w h0 n0 O0 W E_a1 F_size_a1 F_elementData_a1 V_ar1 E_ar1 E_x1) hZ (oW hw 123 rfl) (oW hw 3 rfl) (by decide) (by decide)) q4a q4b q4c (g := (mkF m 45 #[.val (.ref a1), .unset] [(.ref a1)])) rfl (by rw [hml]; rfl) (Steps.refl _) (argsL := []) (rest := []) (lenOf pd_3 rfl) rfl (by show 2 * 0 + _ ≤ _; exact Nat.le_of_eq rfl) (hb hby d15_45) (fun _ _ => ⟨rfl, e3, (by decide : 0 + 1 ≤ _), (by decide : 0 + 1 ≤ _)⟩)
  dsimp only [Pt.U, Pt.locs, Pt.cells, Pt.slots] at X4 l4 y4 z4 st4 hQ4
  rw [l4, y4, z4] at X4
  clear l4 y4 z4
  obtain ⟨r4, x4_k, rfl, Nq4, K4, sr4, P4_0⟩ := hQ4
  have N4 := Fr.app N3 Nq4
  have O4 := O0.keep K4 all0
  have Kp4 : Keep h0 T4.heap [] := (Keep.refl h0 []).trans K4 all0
  have gr4 : n0 ≤ r4 := Nat.le_trans (O0.1 ▸ O0.2.1) sr4
  have szrr4 : h0.size ≤ r4 := Nat.le_trans (Nat.le_refl _) sr4
  refine oS (fun t k => st4.trans k) ?_
  show oG _ _ _ _ _ _ _ (T4.setTop (mkF m 50 #[.val (.ref a1), .unset] [(.ref r4)]))
  try clear st4 X3 e3
  obtain ⟨_, _, ⟨T5, L5, k5, n5⟩, -, X5, ⟨Lc5, hQ5, l5, y5, z5⟩, st5⟩ := Jvm.LawKit.callS X4 hx (y := mY21) hown (oM hZ hw 146 rfl) (oM hZ hw 147 rfl) (oM hZ hw 95 rfl) (oM hZ hw 148 rfl) (by decide) (backOf (W := 0) (rm_of1 l Z a0 hw [] r4 x4_k x1 w T4.heap n0 O4 W P4_0) hZ (oW hw 148 rfl) (oW hw 95 rfl) (by decide) (by decide)) (g := (mkF m 50 #[.val (.ref a1), .unset] [(.ref r4)])) rfl (by rw [hml]; rfl) (argsL := [(.ref r4)]) (rest := []) (lenOf pd_10 rfl) rfl (by show 2 * 0 + _ ≤ _; exact Nat.le_of_eq rfl) (hb hby d15_50) (fun _ _ => ⟨rfl, rfl, (by decide : 1 + 1 ≤ _), (by decide : 1 + 2 ≤ _)⟩)
  dsimp only [Pt.U, Pt.locs, Pt.cells, Pt.slots] at X5 l5 y5 z5 st5 hQ5
  rw [l5, y5, z5] at X5
  clear l5 y5 z5
  obtain ⟨r5, rfl, Nq5, K5, sr5, P5_0, P5_1, P5_2⟩ := hQ5
  have N5 := Fr.app N4 Nq5
  have O5 := O4.keep K5 all0
  have Kp5 : Keep h0 T5.heap [] := Kp4.trans K5 all0
  have gr5 : n0 ≤ r5 := Nat.le_trans (O4.1 ▸ O4.2.1) sr5
  have ne_r4_r5 : r4 ≠ r5 := Nat.ne_of_lt (Nat.lt_of_lt_of_le P4_0.lt sr5)
  have szrr5 : h0.size ≤ r5 := Nat.le_trans Kp4.1 sr5
  refine oS (fun t k => st5 t k) ?_
  show oG _ _ _ _ _ _ _ (T5.setTop (mkF m 53 #[.val (.ref a1), .unset] [(.ref r5)]))
  try clear st5 X4 e4
  exact own_ret (v := some (.ref r5)) X5 (fun h => by rw [Bd.returns] at h; cases h) Bd.notSynchronized (fun fs hr => retOut X5 hx (t := (.object "java/util/List")) Bd.returns rfl (Or.inr (Or.inr (Or.inr (Or.inr ⟨rfl, rfl, rfl⟩)))) (hb hby d15_53) hr) (by exact ⟨r5, rfl, N5, Kp5, szrr5, P5_0, P5_1, P5_2⟩) (by decide) (by decide)
theorem d14_0 : decode jdk_40_method_48_code 0 = .ok (.aload_n 0, 1) := by decide +kernel
theorem d14_1 : decode jdk_40_method_48_code 1 = .ok (.invokestatic 112, 3) := by decide +kernel
theorem pd_11 : parseMethodDescriptor "(Ljava/util/Collection;)Ljava/util/List;" = some ⟨[(.object "java/util/Collection")], some (.object "java/util/List")⟩ := by decide +kernel
theorem d14_4 : decode jdk_40_method_48_code 4 = .ok (.areturn, 1) := by decide +kernel
abbrev mY25 : MethodName := (⟨"java/util/List", "copyOf", "(Ljava/util/Collection;)Ljava/util/List;"⟩ : MethodName)
theorem ef_14_r (m : MethodId) (x0 : Addr) : entryFrame m #[(.ref x0)] 1 = mkF m 0 #[.val (.ref x0)] [] := by first | (simp [entryFrame, mkF, argsToLocals, Value.category]; done) | rfl
abbrev R_17 : Room := { frames := 7, cells := 2, slots := 3, locals := 88 }
def Q_co1 (Z : State) (a1 : Addr) (ar1 : Addr) (ak1 : ClassId) (x1 : Addr) (w : Nat → Addr) (h0 : Heap) (n0 : Nat) (v : Option Value) (h : Heap) (L : List Loc) : Prop := ∃ (r : Addr), v = some (.ref r) ∧ Fr n0 L ∧ Keep h0 h [] ∧ h0.size ≤ r ∧ Exa Z h r "java/util/ImmutableCollections$List12" ∧ Fld Z h r "java/util/ImmutableCollections$List12" "e0" "Ljava/lang/Object;" (.ref x1) ∧ Fld Z h r "java/util/ImmutableCollections$List12" "e1" "Ljava/lang/Object;" (.ref (w 3))
theorem rm_co1 (l : Launch) (Z : State) (a0 : Array Value) (hw : ∀ d ∈ tables_1, d.before a0 Z = true) (ws : List Jvm.Cond) (a1 : Addr) (ar1 : Addr) (ak1 : ClassId) (x1 : Addr) (w : Nat → Addr) (h0 : Heap) (n0 : Nat) (O0 : Old Z n0 h0) (W : own_World Z w) (E_a1 : Exa Z h0 a1 "java/util/ArrayList") (F_size_a1 : Fld Z h0 a1 "java/util/ArrayList" "size" "I" (.int 1)) (F_elementData_a1 : Fld Z h0 a1 "java/util/ArrayList" "elementData" "[Ljava/lang/Object;" (.ref ar1)) (V_ar1 : Arv Z h0 ar1 ak1 (.object "java/lang/Object") (10 : Int32) [(.ref x1), .null, .null, .null, .null, .null, .null, .null, .null, .null] .null) (E_ar1 : Exa Z h0 ar1 "[Ljava/lang/Object;") (E_x1 : Exa Z h0 x1 "com/example/shiftweave/shiftweave/rostering/ShiftRequest") :
    MetFree l mY25 (head1 (Jvm.Cond.code mY25 jdk_40_method_48_code 1 (some (.object "java/util/List")) :: ws) R_17) (fun a U => a = #[(.ref a1)] ∧ Z.Warmed39 U.vm ∧ U.heap = h0) (fun _ _ _ _ _ => True) (fun _ U o U' => ∃ v L, o = .returned v ∧ Q_co1 Z a1 ar1 ak1 x1 w h0 n0 v U'.heap L ∧ FrameEnd U o U' L R_17.cells R_17.slots) := by
  refine MetFree.of_bodySF (plainFor_of_name pn_11) hisR ?_
  intro p e s m args below meth c s₁ Bd hml0 hP hK
  obtain ⟨rfl, hZ, hh⟩ := hP
  have hx := Bd.exec
  have hby := Bd.bytes
  have hml : c.maxLocals = 1 := hml0
  have hown : s.vm.findClass "java/util/List" = some m.cls := findClass_of_methodNamed Bd.named
  have hnm := (name_of_methodNamed Bd.named Bd.method).1
  have X0 : Stand p l e R_17 s m #[(.ref a1)] below meth c s₁ [] 0 0 := Stand.of_body Bd
  have e0 : s₁.heap = h0 := by rw [← hh, Bd.state]; rfl
  have N0 := Fr.nil n0
  show oG p e below s (Q_co1 Z a1 ar1 ak1 x1 w h0 n0) R_17.cells R_17.slots _
  refine oS (fun t k => castTop (ef_14_r m a1) k) ?_
  show oG _ _ _ _ _ _ _ (s₁.setTop (mkF m 0 #[.val (.ref a1)] []))
  refine oS (fun t k => XS.aloadN X0.here hx rfl (hb hby d14_0) rfl rfl k) ?_
  obtain ⟨_, _, ⟨T1, L1, k1, n1⟩, -, X1, ⟨Lc1, hQ1, l1, y1, z1⟩, st1⟩ := Jvm.LawKit.callS X0 hx (y := mY24) hown (oM hZ hw 97 rfl) (oM hZ hw 98 rfl) (oM hZ hw 99 rfl) (oM hZ hw 100 rfl) (by decide) (backOf (W := 0) (rm_lc1 l Z a0 hw [] a1 ar1 ak1 x1 w h0 n0 O0 W E_a1 F_size_a1 F_elementData_a1 V_ar1 E_ar1 E_x1) hZ (oW hw 100 rfl) (oW hw 99 rfl) (by decide) (by decide)) (g := (mkF m 1 #[.val (.ref a1)] [(.ref a1)])) rfl (by rw [hml]; rfl) (argsL := [(.ref a1)]) (rest := []) (lenOf pd_11 rfl) rfl (by show 2 * 0 + _ ≤ _; exact Nat.le_of_eq rfl) (hb hby d14_1) (fun _ _ => ⟨rfl, e0, (by decide : 0 + 2 ≤ _), (by decide : 0 + 3 ≤ _)⟩)
  dsimp only [Pt.U, Pt.locs, Pt.cells, Pt.slots] at X1 l1 y1 z1 st1 hQ1
  rw [l1, y1, z1] at X1
  clear l1 y1 z1
  obtain ⟨r1, rfl, Nq1, K1, sr1, P1_0, P1_1, P1_2⟩ := hQ1
  have N1 := Fr.app N0 Nq1
  have O1 := O0.keep K1 all0
  have Kp1 : Keep h0 T1.heap [] := (Keep.refl h0 []).trans K1 all0
  have gr1 : n0 ≤ r1 := Nat.le_trans (O0.1 ▸ O0.2.1) sr1
  have szrr1 : h0.size ≤ r1 := Nat.le_trans (Nat.le_refl _) sr1
  refine oS (fun t k => st1 t k) ?_
  show oG _ _ _ _ _ _ _ (T1.setTop (mkF m 4 #[.val (.ref a1)] [(.ref r1)]))
  try clear st1
  exact own_ret (v := some (.ref r1)) X1 (fun h => by rw [Bd.returns] at h; cases h) Bd.notSynchronized (fun fs hr => retOut X1 hx (t := (.object "java/util/List")) Bd.returns rfl (Or.inr (Or.inr (Or.inr (Or.inr ⟨rfl, rfl, rfl⟩)))) (hb hby d14_4) hr) (by exact ⟨r1, rfl, N1, Kp1, szrr1, P1_0, P1_1, P1_2⟩) (by decide) (by decide)
abbrev R_18 : Room := { frames := 3, cells := 1, slots := 2, locals := 46 }
def Q_toA2 (Z : State) (a1 : Addr) (ar1 : Addr) (ak1 : ClassId) (x1 : Addr) (x2 : Addr) (w : Nat → Addr) (h0 : Heap) (n0 : Nat) (v : Option Value) (h : Heap) (L : List Loc) : Prop := ∃ (r : Addr) (k : ClassId), v = some (.ref r) ∧ Fr n0 L ∧ Keep h0 h [] ∧ h0.size ≤ r ∧ Arv Z h r k (.object "java/lang/Object") (2 : Int32) [(.ref x1), (.ref x2)] .null
theorem rm_toA2 (l : Launch) (Z : State) (a0 : Array Value) (hw : ∀ d ∈ tables_1, d.before a0 Z = true) (ws : List Jvm.Cond) (a1 : Addr) (ar1 : Addr) (ak1 : ClassId) (x1 : Addr) (x2 : Addr) (w : Nat → Addr) (h0 : Heap) (n0 : Nat) (O0 : Old Z n0 h0) (W : own_World Z w) (E_a1 : Exa Z h0 a1 "java/util/ArrayList") (F_size_a1 : Fld Z h0 a1 "java/util/ArrayList" "size" "I" (.int 2)) (F_elementData_a1 : Fld Z h0 a1 "java/util/ArrayList" "elementData" "[Ljava/lang/Object;" (.ref ar1)) (V_ar1 : Arv Z h0 ar1 ak1 (.object "java/lang/Object") (10 : Int32) [(.ref x1), (.ref x2), .null, .null, .null, .null, .null, .null, .null, .null] .null) (E_ar1 : Exa Z h0 ar1 "[Ljava/lang/Object;") (E_x1 : Exa Z h0 x1 "java/lang/Integer") (E_x2 : Exa Z h0 x2 "java/lang/Integer") :
    MetFree l mY20 (head1 (Jvm.Cond.code mY20 jdk_38_method_16_code 1 (some (.array (.object "java/lang/Object"))) :: ws) R_18) (fun a U => a = #[(.ref a1)] ∧ Z.Warmed39 U.vm ∧ U.heap = h0) (fun _ _ _ _ _ => True) (fun _ U o U' => ∃ v L, o = .returned v ∧ Q_toA2 Z a1 ar1 ak1 x1 x2 w h0 n0 v U'.heap L ∧ FrameEnd U o U' L R_18.cells R_18.slots) := by
  refine MetFree.of_bodySF (plainFor_of_name pn_5) hisR ?_
  intro p e s m args below meth c s₁ Bd hml0 hP hK
  obtain ⟨rfl, hZ, hh⟩ := hP
  have hx := Bd.exec
  have hby := Bd.bytes
  have hml : c.maxLocals = 1 := hml0
  have hown : s.vm.findClass "java/util/ArrayList" = some m.cls := findClass_of_methodNamed Bd.named
  have hnm := (name_of_methodNamed Bd.named Bd.method).1
  have X0 : Stand p l e R_18 s m #[(.ref a1)] below meth c s₁ [] 0 0 := Stand.of_body Bd
  have e0 : s₁.heap = h0 := by rw [← hh, Bd.state]; rfl
  have N0 := Fr.nil n0
  show oG p e below s (Q_toA2 Z a1 ar1 ak1 x1 x2 w h0 n0) R_18.cells R_18.slots _
  refine oS (fun t k => castTop (ef_17_r m a1) k) ?_
  show oG _ _ _ _ _ _ _ (s₁.setTop (mkF m 0 #[.val (.ref a1)] []))
  refine oS (fun t k => XS.aloadN X0.here hx rfl (hb hby d17_0) rfl rfl k) ?_
  obtain ⟨T1, X1, e1, st1⟩ := getF X0 hx hZ hown (host := "") (Or.inl (oW hw 25 rfl)) Via.refl e0 F_elementData_a1 (g := (mkF m 1 #[.val (.ref a1)] [(.ref a1)])) rfl rfl (hb hby d17_1)
  refine oS (fun t k => st1 t k) ?_
  try clear st1
  refine oS (fun t k => XS.aloadN X1.here hx rfl (hb hby d17_4) rfl rfl k) ?_
  obtain ⟨T2, X2, e2, st2⟩ := getF X1 hx hZ hown (host := "") (Or.inl (oW hw 41 rfl)) Via.refl e1 F_size_a1 (g := (mkF m 5 #[.val (.ref a1)] [(.ref a1), (.ref ar1)])) rfl rfl (hb hby d17_5)
  refine oS (fun t k => st2 t k) ?_
  try clear st2 X1 e1
  try clear T1
  obtain ⟨_, _, ⟨T3, L3, k3, n3⟩, -, X3, ⟨Lc3, hQ3, l3, y3, z3⟩, st3⟩ := Jvm.LawKit.callS X2 hx (y := mY16) hown (oM hZ hw 124 rfl) (oM hZ hw 125 rfl) (oM hZ hw 126 rfl) (oM hZ hw 127 rfl) (by decide) (backOf (W := 0) (rm_cp2_2 l Z a0 hw [] ar1 ak1 x1 x2 w h0 n0 O0 W V_ar1 E_ar1 E_x1 E_x2) hZ (oW hw 127 rfl) (oW hw 126 rfl) (by decide) (by decide)) (g := (mkF m 8 #[.val (.ref a1)] [(.int 2), (.ref ar1)])) rfl (by rw [hml]; rfl) (argsL := [(.ref ar1), (.int 2)]) (rest := []) (lenOf pd_7 rfl) rfl (by show 2 * 0 + _ ≤ _; exact Nat.le_of_eq rfl) (hb hby d17_8) (fun _ _ => ⟨rfl, e2, (by decide : 0 + 1 ≤ _), (by decide : 0 + 2 ≤ _)⟩)
  dsimp only [Pt.U, Pt.locs, Pt.cells, Pt.slots] at X3 l3 y3 z3 st3 hQ3
  rw [l3, y3, z3] at X3
  clear l3 y3 z3
  obtain ⟨r3, x3_k, rfl, Nq3, K3, sr3, P3_0⟩ := hQ3
  have N3 := Fr.app N0 Nq3
  have O3 := O0.keep K3 all0
  have Kp3 : Keep h0 T3.heap [] := (Keep.refl h0 []).trans K3 all0
  have gr3 : n0 ≤ r3 := Nat.le_trans (O0.1 ▸ O0.2.1) sr3
  have szrr3 : h0.size ≤ r3 := Nat.le_trans (Nat.le_refl _) sr3
  refine oS (fun t k => st3 t k) ?_
  show oG _ _ _ _ _ _ _ (T3.setTop (mkF m 11 #[.val (.ref a1)] [(.ref r3)]))
  try clear st3 X2 e2
  try clear T2
  exact own_ret (v := some (.ref r3)) X3 (fun h => by rw [Bd.returns] at h; cases h) Bd.notSynchronized (fun fs hr => retOut X3 hx (t := (.array (.object "java/lang/Object"))) Bd.returns rfl (Or.inr (Or.inr (Or.inr (Or.inr ⟨rfl, rfl, rfl⟩)))) (hb hby d17_11) hr) (by exact ⟨r3, x3_k, rfl, N3, Kp3, szrr3, P3_0⟩) (by decide) (by decide)
theorem d21_45 : decode jdk_40_method_47_code 45 = .ok (.new 96, 3) := by decide +kernel
theorem d21_48 : decode jdk_40_method_47_code 48 = .ok (.dup, 1) := by decide +kernel
theorem d21_49 : decode jdk_40_method_47_code 49 = .ok (.aload_n 0, 1) := by decide +kernel
theorem d21_50 : decode jdk_40_method_47_code 50 = .ok (.iconst 0, 1) := by decide +kernel
theorem d21_51 : decode jdk_40_method_47_code 51 = .ok (.aaload, 1) := by decide +kernel
theorem d21_52 : decode jdk_40_method_47_code 52 = .ok (.aload_n 0, 1) := by decide +kernel
theorem d21_53 : decode jdk_40_method_47_code 53 = .ok (.iconst 1, 1) := by decide +kernel
theorem d21_54 : decode jdk_40_method_47_code 54 = .ok (.aaload, 1) := by decide +kernel
theorem d21_55 : decode jdk_40_method_47_code 55 = .ok (.invokespecial 100, 3) := by decide +kernel
theorem pd_12 : parseMethodDescriptor "(Ljava/lang/Object;Ljava/lang/Object;)V" = some ⟨[(.object "java/lang/Object"), (.object "java/lang/Object")], none⟩ := by decide +kernel
theorem d21_58 : decode jdk_40_method_47_code 58 = .ok (.areturn, 1) := by decide +kernel
abbrev R_19 : Room := { frames := 5, cells := 1, slots := 2, locals := 63 }
def Q_of2 (Z : State) (a1 : Addr) (k1 : ClassId) (x1 : Addr) (x2 : Addr) (w : Nat → Addr) (h0 : Heap) (n0 : Nat) (v : Option Value) (h : Heap) (L : List Loc) : Prop := ∃ (r : Addr), v = some (.ref r) ∧ Fr n0 L ∧ Keep h0 h [] ∧ h0.size ≤ r ∧ Exa Z h r "java/util/ImmutableCollections$List12" ∧ Fld Z h r "java/util/ImmutableCollections$List12" "e0" "Ljava/lang/Object;" (.ref x1) ∧ Fld Z h r "java/util/ImmutableCollections$List12" "e1" "Ljava/lang/Object;" (.ref x2)
theorem rm_of2 (l : Launch) (Z : State) (a0 : Array Value) (hw : ∀ d ∈ tables_1, d.before a0 Z = true) (ws : List Jvm.Cond) (a1 : Addr) (k1 : ClassId) (x1 : Addr) (x2 : Addr) (w : Nat → Addr) (h0 : Heap) (n0 : Nat) (O0 : Old Z n0 h0) (W : own_World Z w) (V_a1 : Arv Z h0 a1 k1 (.object "java/lang/Object") (2 : Int32) [(.ref x1), (.ref x2)] .null) :
    MetFree l mY21 (head1 (Jvm.Cond.code mY21 jdk_40_method_47_code 2 (some (.object "java/util/List")) :: ws) R_19) (fun a U => a = #[(.ref a1)] ∧ Z.Warmed39 U.vm ∧ U.heap = h0) (fun _ _ _ _ _ => True) (fun _ U o U' => ∃ v L, o = .returned v ∧ Q_of2 Z a1 k1 x1 x2 w h0 n0 v U'.heap L ∧ FrameEnd U o U' L R_19.cells R_19.slots) := by
  refine MetFree.of_bodySF (plainFor_of_name pn_11) hisR ?_
  intro p e s m args below meth c s₁ Bd hml0 hP hK
  obtain ⟨rfl, hZ, hh⟩ := hP
  have hx := Bd.exec
  have hby := Bd.bytes
  have hml : c.maxLocals = 2 := hml0
  have hown : s.vm.findClass "java/util/List" = some m.cls := findClass_of_methodNamed Bd.named
  have hnm := (name_of_methodNamed Bd.named Bd.method).1
  have X0 : Stand p l e R_19 s m #[(.ref a1)] below meth c s₁ [] 0 0 := Stand.of_body Bd
  have e0 : s₁.heap = h0 := by rw [← hh, Bd.state]; rfl
  have N0 := Fr.nil n0
  show oG p e below s (Q_of2 Z a1 k1 x1 x2 w h0 n0) R_19.cells R_19.slots _
  refine oS (fun t k => castTop (ef_21_r m a1) k) ?_
  show oG _ _ _ _ _ _ _ (s₁.setTop (mkF m 0 #[.val (.ref a1), .unset] []))
  refine oS (fun t k => XS.aloadN X0.here hx rfl (hb hby d21_0) rfl rfl k) ?_
  obtain ⟨cl1, Ar1, -, Sz1, Ng1, -, -⟩ := id V_a1
  refine oS (S' := (s₁.setTop (mkF m 2 #[.val (.ref a1), .unset] [(.int 2)]))) (fun t k => X0.arraylength hx (by rw [e0]; exact Ar1.1) (State.isArrayOf_alike hZ.alike Ar1.2.1) (g := (mkF m 1 #[.val (.ref a1), .unset] [(.ref a1)])) rfl rfl (hb hby d21_1) t (by rw [len_of Sz1 Ng1]; exact k)) ?_
  refine oS (fun t k => XS.tswIn X0.here hx rfl (pc0 := 2) (pc' := 45) rfl (hb hby d21_2) (i := (2 : Int32)) rfl (by decide) (o := 43) rfl (by decide) (by decide) k) ?_
  obtain ⟨T2, h2, X2, e2, E2, A2, D2, -, st2⟩ := newO X0 hx hZ hown (oW hw 149 rfl) (oW hw 150 rfl) (oW hw 151 rfl) e0 (g := (mkF m 45 #[.val (.ref a1), .unset] [])) rfl (hb hby d21_45) (by decide) (by decide)
  obtain ⟨b2, g2⟩ : ∃ z, z = h0.size := ⟨_, rfl⟩
  rw [← g2] at A2 D2 st2
  have gx2 : n0 ≤ b2 := Nat.le_trans (O0.1 ▸ O0.2.1) (Nat.le_of_eq g2.symm)
  have sz2 : h0.size ≤ b2 := Nat.le_trans (Nat.le_refl _) (Nat.le_of_eq g2.symm)
  have O2 := O0.ext E2
  have Kp2 : Keep h0 h2 [] := (Keep.refl h0 []).ext E2
  have F_e0_b2 : Fld Z h2 b2 "java/util/ImmutableCollections$List12" "e0" "Ljava/lang/Object;" .null := D2 (Or.inr (oW hw 175 rfl)) (ty := (.object "java/lang/Object")) (by decide)
  have F_e1_b2 : Fld Z h2 b2 "java/util/ImmutableCollections$List12" "e1" "Ljava/lang/Object;" .null := D2 (Or.inr (oW hw 177 rfl)) (ty := (.object "java/lang/Object")) (by decide)
  refine oS (fun t k => st2 t k) ?_
  try clear st2
  refine oS (fun t k => XS.dup X2.here hx rfl (hb hby d21_48) rfl rfl k) ?_
  refine oS (fun t k => XS.aloadN X2.here hx rfl (hb hby d21_49) rfl rfl k) ?_
  refine oS (fun t k => oIc li_0 X2.here hx rfl (hb hby d21_50) k) ?_
  show oG _ _ _ _ _ _ _ (T2.setTop (mkF m 51 #[.val (.ref a1), .unset] [(.int 0), (.ref a1), (.ref b2), (.ref b2)]))
  obtain ⟨cl3, Ar3, qk3, Sz3, Ng3, Ha3, Gf3⟩ := id (V_a1.ext E2)
  have hin3 : ¬ ((0 : Int32) < 0 ∨ cl3.slots.size ≤ ((0 : Int32)).toNatClampNeg) := (inb_of Sz3 ⟨by decide, by decide⟩)
  have hat3 : cl3.slots[((0 : Int32)).toNatClampNeg]? = some (.ref x1) := Ha3.at hin3 rfl
  refine oS (fun t k => X2.aaload hx (j := (0 : Int32)) (v := (.ref x1)) (by rw [e2]; exact Ar3.1) (State.isArrayOf_alike hZ.alike Ar3.2.1) rfl Ar3.2.2 hin3 hat3 (g := (mkF m 51 #[.val (.ref a1), .unset] [(.int 0), (.ref a1), (.ref b2), (.ref b2)])) rfl rfl (hb hby d21_51) t k) ?_
  refine oS (fun t k => XS.aloadN X2.here hx rfl (hb hby d21_52) rfl rfl k) ?_
  refine oS (fun t k => oIc li_1 X2.here hx rfl (hb hby d21_53) k) ?_
  obtain ⟨cl4, Ar4, qk4, Sz4, Ng4, Ha4, Gf4⟩ := id (V_a1.ext E2)
  have hin4 : ¬ ((1 : Int32) < 0 ∨ cl4.slots.size ≤ ((1 : Int32)).toNatClampNeg) := (inb_of Sz4 ⟨by decide, by decide⟩)
  have hat4 : cl4.slots[((1 : Int32)).toNatClampNeg]? = some (.ref x2) := Ha4.at hin4 rfl
  refine oS (fun t k => X2.aaload hx (j := (1 : Int32)) (v := (.ref x2)) (by rw [e2]; exact Ar4.1) (State.isArrayOf_alike hZ.alike Ar4.2.1) rfl Ar4.2.2 hin4 hat4 (g := (mkF m 54 #[.val (.ref a1), .unset] [(.int 1), (.ref a1), (.ref x1), (.ref b2), (.ref b2)])) rfl rfl (hb hby d21_54) t k) ?_
  obtain ⟨_, _, ⟨T5, L5, k5, n5⟩, -, X5, ⟨Lc5, hQ5, l5, y5, z5⟩, st5⟩ := X2.specialBack hx (y := mY19) rfl hown (oM hZ hw 152 rfl) (oM hZ hw 153 rfl) (oM hZ hw 155 rfl) (by decide) (backOf (W := 1) (rm_l12_2 l Z a0 hw [] b2 x1 x2 w h2 n0 O2 W A2 gx2 F_e0_b2 F_e1_b2) hZ (oW hw 155 rfl) (oW hw 151 rfl) (by decide) (by decide)) (g := (mkF m 55 #[.val (.ref a1), .unset] [(.ref x2), (.ref x1), (.ref b2), (.ref b2)])) rfl (by rw [hml]; rfl) (Steps.refl _) (a := b2) (argsL := [(.ref x1), (.ref x2)]) (rest := [(.ref b2)]) (lenOf pd_12 rfl) rfl (by show 2 * 0 + _ ≤ _; exact Nat.le_of_eq rfl) (hb hby d21_55) (fun _ _ => ⟨rfl, e2, (by decide : 1 + 0 ≤ _), (by decide : 2 + 0 ≤ _)⟩)
  dsimp only [Pt.U, Pt.locs, Pt.cells, Pt.slots] at X5 l5 y5 z5 st5 hQ5
  rw [l5, y5, z5] at X5
  clear l5 y5 z5
  obtain ⟨rfl, Nq5, K5, P5_0, P5_1, P5_2⟩ := hQ5
  have N5 := Fr.app N0 Nq5
  have O5 := O2.keep K5 (allS gx2 all0)
  have Kp5 : Keep h0 T5.heap [] := Kp2.trans K5 (allS (Or.inr sz2) all0)
  refine oS (fun t k => st5.trans k) ?_
  show oG _ _ _ _ _ _ _ (T5.setTop (mkF m 58 #[.val (.ref a1), .unset] [(.ref b2)]))
  try clear st5 X2 e2
  try clear T2
  exact own_ret (v := some (.ref b2)) X5 (fun h => by rw [Bd.returns] at h; cases h) Bd.notSynchronized (fun fs hr => retOut X5 hx (t := (.object "java/util/List")) Bd.returns rfl (Or.inr (Or.inr (Or.inr (Or.inr ⟨rfl, rfl, rfl⟩)))) (hb hby d21_58) hr) (by exact ⟨b2, rfl, N5, Kp5, sz2, P5_0, P5_1, P5_2⟩) (by decide) (by decide)
abbrev R_20 : Room := { frames := 6, cells := 2, slots := 4, locals := 76 }
def Q_lc2 (Z : State) (a1 : Addr) (ar1 : Addr) (ak1 : ClassId) (x1 : Addr) (x2 : Addr) (w : Nat → Addr) (h0 : Heap) (n0 : Nat) (v : Option Value) (h : Heap) (L : List Loc) : Prop := ∃ (r : Addr), v = some (.ref r) ∧ Fr n0 L ∧ Keep h0 h [] ∧ h0.size ≤ r ∧ Exa Z h r "java/util/ImmutableCollections$List12" ∧ Fld Z h r "java/util/ImmutableCollections$List12" "e0" "Ljava/lang/Object;" (.ref x1) ∧ Fld Z h r "java/util/ImmutableCollections$List12" "e1" "Ljava/lang/Object;" (.ref x2)
theorem rm_lc2 (l : Launch) (Z : State) (a0 : Array Value) (hw : ∀ d ∈ tables_1, d.before a0 Z = true) (ws : List Jvm.Cond) (a1 : Addr) (ar1 : Addr) (ak1 : ClassId) (x1 : Addr) (x2 : Addr) (w : Nat → Addr) (h0 : Heap) (n0 : Nat) (O0 : Old Z n0 h0) (W : own_World Z w) (E_a1 : Exa Z h0 a1 "java/util/ArrayList") (F_size_a1 : Fld Z h0 a1 "java/util/ArrayList" "size" "I" (.int 2)) (F_elementData_a1 : Fld Z h0 a1 "java/util/ArrayList" "elementData" "[Ljava/lang/Object;" (.ref ar1)) (V_ar1 : Arv Z h0 ar1 ak1 (.object "java/lang/Object") (10 : Int32) [(.ref x1), (.ref x2), .null, .null, .null, .null, .null, .null, .null, .null] .null) (E_ar1 : Exa Z h0 ar1 "[Ljava/lang/Object;") (E_x1 : Exa Z h0 x1 "java/lang/Integer") (E_x2 : Exa Z h0 x2 "java/lang/Integer") :
    MetFree l mY24 (head1 (Jvm.Cond.code mY24 jdk_56_method_3_code 2 (some (.object "java/util/List")) :: ws) R_20) (fun a U => a = #[(.ref a1)] ∧ Z.Warmed39 U.vm ∧ U.heap = h0) (fun _ _ _ _ _ => True) (fun _ U o U' => ∃ v L, o = .returned v ∧ Q_lc2 Z a1 ar1 ak1 x1 x2 w h0 n0 v U'.heap L ∧ FrameEnd U o U' L R_20.cells R_20.slots) := by
  refine MetFree.of_bodySF (plainFor_of_name pn_12) hisR ?_
  intro p e s m args below meth c s₁ Bd hml0 hP hK
  obtain ⟨rfl, hZ, hh⟩ := hP
  have hx := Bd.exec
  have hby := Bd.bytes
  have hml : c.maxLocals = 2 := hml0
  have hown : s.vm.findClass "java/util/ImmutableCollections" = some m.cls := findClass_of_methodNamed Bd.named
  have hnm := (name_of_methodNamed Bd.named Bd.method).1
  have X0 : Stand p l e R_20 s m #[(.ref a1)] below meth c s₁ [] 0 0 := Stand.of_body Bd
  have e0 : s₁.heap = h0 := by rw [← hh, Bd.state]; rfl
  have N0 := Fr.nil n0
  show oG p e below s (Q_lc2 Z a1 ar1 ak1 x1 x2 w h0 n0) R_20.cells R_20.slots _
  refine oS (fun t k => castTop (ef_15_r m a1) k) ?_
  show oG _ _ _ _ _ _ _ (s₁.setTop (mkF m 0 #[.val (.ref a1), .unset] []))
  refine oS (fun t k => XS.aloadN X0.here hx rfl (hb hby d15_0) rfl rfl k) ?_
  obtain ⟨T1, X1, e1, st1⟩ := instNo X0 hx hZ hown (oW hw 101 rfl) e0 E_a1 (own_no (S := "java/util/AbstractList") (oW hw 102 rfl) (own_NI.inst (oW hw 150 rfl)) (NS.step (oW hw 102 rfl) (NS.step (oW hw 103 rfl) (NS.step (oW hw 104 rfl) (own_root (oW hw 105 rfl) (own_NI.inst (oW hw 150 rfl)) (by decide)) (by decide)) (by decide)) (by decide)) (by decide)) (g := (mkF m 1 #[.val (.ref a1), .unset] [(.ref a1)])) rfl rfl (hb hby d15_1)
  refine oS (fun t k => st1 t k) ?_
  try clear st1
  refine oS (fun t k => XS.ifNo X1.here hx rfl (hb hby d15_4) rfl ((if0 _ _).trans (teq (by decide)).2) k) ?_
  refine oS (fun t k => XS.aloadN X1.here hx rfl (hb hby d15_7) rfl rfl k) ?_
  obtain ⟨T2, X2, e2, st2⟩ := instNo X1 hx hZ hown (oW hw 106 rfl) e1 E_a1 (own_no (S := "java/util/AbstractList") (oW hw 102 rfl) (own_NI.sel (oW hw 262 rfl)) (NS.step (oW hw 102 rfl) (NS.step (oW hw 103 rfl) (NS.step (oW hw 104 rfl) (own_root (oW hw 105 rfl) (own_NI.sel (oW hw 262 rfl)) (by decide)) (by decide)) (by decide)) (by decide)) (by decide)) (g := (mkF m 8 #[.val (.ref a1), .unset] [(.ref a1)])) rfl rfl (hb hby d15_8)
  refine oS (fun t k => st2 t k) ?_
  try clear st2 X1 e1
  try clear T1
  refine oS (fun t k => XS.ifYes X2.here hx rfl (pc0 := 11) (pc' := 31) rfl (hb hby d15_11) rfl ((if0 _ _).trans (teq (by decide)).1) (by decide) (by decide) k) ?_
  refine oS (fun t k => XS.aloadN X2.here hx rfl (hb hby d15_31) rfl rfl k) ?_
  show oG _ _ _ _ _ _ _ (T2.setTop (mkF m 32 #[.val (.ref a1), .unset] [(.ref a1)]))
  obtain ⟨cq3, kq3, q3a, q3b, q3c⟩ := isOf hZ e2 E_a1
  obtain ⟨_, _, ⟨T3, L3, k3, n3⟩, -, X3, ⟨Lc3, hQ3, l3, y3, z3⟩, st3⟩ := X2.interfaceBack hx (xi := mY22) (y := mY14) hown (oM hZ hw 107 rfl) (oM hZ hw 108 rfl) (oM hZ hw 109 rfl) (oM hZ hw 110 rfl) (oM hZ hw 111 rfl) (oM hZ hw 112 rfl) (oM hZ hw 113 rfl) (oM hZ hw 114 rfl) (by decide) (backOf (W := 0) (rm_isE2 l Z a0 hw [] a1  h0 n0 O0  F_size_a1) hZ (oW hw 115 rfl) (oW hw 3 rfl) (by decide) (by decide)) q3a q3b q3c (g := (mkF m 32 #[.val (.ref a1), .unset] [(.ref a1)])) rfl (by rw [hml]; rfl) (Steps.refl _) (argsL := []) (rest := []) (lenOf pd_9 rfl) rfl (by show 2 * 0 + _ ≤ _; exact Nat.le_of_eq rfl) (hb hby d15_32) (fun _ _ => ⟨rfl, e2, (by decide : 0 + 0 ≤ _), (by decide : 0 + 0 ≤ _)⟩)
  dsimp only [Pt.U, Pt.locs, Pt.cells, Pt.slots] at X3 l3 y3 z3 st3 hQ3
  rw [l3, y3, z3] at X3
  clear l3 y3 z3
  obtain ⟨rfl, Nq3, e3⟩ := hQ3
  have N3 := Fr.app N0 Nq3
  refine oS (fun t k => st3.trans k) ?_
  show oG _ _ _ _ _ _ _ (T3.setTop (mkF m 37 #[.val (.ref a1), .unset] [(.int 0)]))
  try clear st3 X2 e2
  try clear T2
  refine oS (fun t k => XS.ifYes X3.here hx rfl (pc0 := 37) (pc' := 44) rfl (hb hby d15_37) rfl ((if0 _ _).trans (teq (by decide)).1) (by decide) (by decide) k) ?_
  refine oS (fun t k => XS.aloadN X3.here hx rfl (hb hby d15_44) rfl rfl k) ?_
  obtain ⟨cq4, kq4, q4a, q4b, q4c⟩ := isOf hZ e3 E_a1
  obtain ⟨_, _, ⟨T4, L4, k4, n4⟩, -, X4, ⟨Lc4, hQ4, l4, y4, z4⟩, st4⟩ := X3.interfaceBack hx (xi := mY23) (y := mY20) hown (oM hZ hw 116 rfl) (oM hZ hw 117 rfl) (oM hZ hw 118 rfl) (oM hZ hw 119 rfl) (oM hZ hw 120 rfl) (oM hZ hw 121 rfl) (oM hZ hw 122 rfl) (oM hZ hw 114 rfl) (by decide) (backOf (W := 0) (rm_toA2 l Z a0 hw [] a1 ar1 ak1 x1 x2 w h0 n0 O0 W E_a1 F_size_a1 F_elementData_a1 V_ar1 E_ar1 E_x1 E_x2) hZ (oW hw 123 rfl) (oW hw 3 rfl) (by decide) (by decide)) q4a q4b q4c (g := (mkF m 45 #[.val (.ref a1), .unset] [(.ref a1)])) rfl (by rw [hml]; rfl) (Steps.refl _) (argsL := []) (rest := []) (lenOf pd_3 rfl) rfl (by show 2 * 0 + _ ≤ _; exact Nat.le_of_eq rfl) (hb hby d15_45) (fun _ _ => ⟨rfl, e3, (by decide : 0 + 1 ≤ _), (by decide : 0 + 2 ≤ _)⟩)
  dsimp only [Pt.U, Pt.locs, Pt.cells, Pt.slots] at X4 l4 y4 z4 st4 hQ4
  rw [l4, y4, z4] at X4
  clear l4 y4 z4
  obtain ⟨r4, x4_k, rfl, Nq4, K4, sr4, P4_0⟩ := hQ4
  have N4 := Fr.app N3 Nq4
  have O4 := O0.keep K4 all0
  have Kp4 : Keep h0 T4.heap [] := (Keep.refl h0 []).trans K4 all0
  have gr4 : n0 ≤ r4 := Nat.le_trans (O0.1 ▸ O0.2.1) sr4
  have szrr4 : h0.size ≤ r4 := Nat.le_trans (Nat.le_refl _) sr4
  refine oS (fun t k => st4.trans k) ?_
  show oG _ _ _ _ _ _ _ (T4.setTop (mkF m 50 #[.val (.ref a1), .unset] [(.ref r4)]))
  try clear st4 X3 e3
  obtain ⟨_, _, ⟨T5, L5, k5, n5⟩, -, X5, ⟨Lc5, hQ5, l5, y5, z5⟩, st5⟩ := Jvm.LawKit.callS X4 hx (y := mY21) hown (oM hZ hw 146 rfl) (oM hZ hw 147 rfl) (oM hZ hw 95 rfl) (oM hZ hw 148 rfl) (by decide) (backOf (W := 0) (rm_of2 l Z a0 hw [] r4 x4_k x1 x2 w T4.heap n0 O4 W P4_0) hZ (oW hw 148 rfl) (oW hw 95 rfl) (by decide) (by decide)) (g := (mkF m 50 #[.val (.ref a1), .unset] [(.ref r4)])) rfl (by rw [hml]; rfl) (argsL := [(.ref r4)]) (rest := []) (lenOf pd_10 rfl) rfl (by show 2 * 0 + _ ≤ _; exact Nat.le_of_eq rfl) (hb hby d15_50) (fun _ _ => ⟨rfl, rfl, (by decide : 1 + 1 ≤ _), (by decide : 2 + 2 ≤ _)⟩)
  dsimp only [Pt.U, Pt.locs, Pt.cells, Pt.slots] at X5 l5 y5 z5 st5 hQ5
  rw [l5, y5, z5] at X5
  clear l5 y5 z5
  obtain ⟨r5, rfl, Nq5, K5, sr5, P5_0, P5_1, P5_2⟩ := hQ5
  have N5 := Fr.app N4 Nq5
  have O5 := O4.keep K5 all0
  have Kp5 : Keep h0 T5.heap [] := Kp4.trans K5 all0
  have gr5 : n0 ≤ r5 := Nat.le_trans (O4.1 ▸ O4.2.1) sr5
  have ne_r4_r5 : r4 ≠ r5 := Nat.ne_of_lt (Nat.lt_of_lt_of_le P4_0.lt sr5)
  have szrr5 : h0.size ≤ r5 := Nat.le_trans Kp4.1 sr5
  refine oS (fun t k => st5 t k) ?_
  show oG _ _ _ _ _ _ _ (T5.setTop (mkF m 53 #[.val (.ref a1), .unset] [(.ref r5)]))
  try clear st5 X4 e4
  exact own_ret (v := some (.ref r5)) X5 (fun h => by rw [Bd.returns] at h; cases h) Bd.notSynchronized (fun fs hr => retOut X5 hx (t := (.object "java/util/List")) Bd.returns rfl (Or.inr (Or.inr (Or.inr (Or.inr ⟨rfl, rfl, rfl⟩)))) (hb hby d15_53) hr) (by exact ⟨r5, rfl, N5, Kp5, szrr5, P5_0, P5_1, P5_2⟩) (by decide) (by decide)
abbrev R_21 : Room := { frames := 7, cells := 2, slots := 4, locals := 89 }
def Q_co2 (Z : State) (a1 : Addr) (ar1 : Addr) (ak1 : ClassId) (x1 : Addr) (x2 : Addr) (w : Nat → Addr) (h0 : Heap) (n0 : Nat) (v : Option Value) (h : Heap) (L : List Loc) : Prop := ∃ (r : Addr), v = some (.ref r) ∧ Fr n0 L ∧ Keep h0 h [] ∧ h0.size ≤ r ∧ Exa Z h r "java/util/ImmutableCollections$List12" ∧ Fld Z h r "java/util/ImmutableCollections$List12" "e0" "Ljava/lang/Object;" (.ref x1) ∧ Fld Z h r "java/util/ImmutableCollections$List12" "e1" "Ljava/lang/Object;" (.ref x2)
theorem rm_co2 (l : Launch) (Z : State) (a0 : Array Value) (hw : ∀ d ∈ tables_1, d.before a0 Z = true) (ws : List Jvm.Cond) (a1 : Addr) (ar1 : Addr) (ak1 : ClassId) (x1 : Addr) (x2 : Addr) (w : Nat → Addr) (h0 : Heap) (n0 : Nat) (O0 : Old Z n0 h0) (W : own_World Z w) (E_a1 : Exa Z h0 a1 "java/util/ArrayList") (F_size_a1 : Fld Z h0 a1 "java/util/ArrayList" "size" "I" (.int 2)) (F_elementData_a1 : Fld Z h0 a1 "java/util/ArrayList" "elementData" "[Ljava/lang/Object;" (.ref ar1)) (V_ar1 : Arv Z h0 ar1 ak1 (.object "java/lang/Object") (10 : Int32) [(.ref x1), (.ref x2), .null, .null, .null, .null, .null, .null, .null, .null] .null) (E_ar1 : Exa Z h0 ar1 "[Ljava/lang/Object;") (E_x1 : Exa Z h0 x1 "java/lang/Integer") (E_x2 : Exa Z h0 x2 "java/lang/Integer") :
    MetFree l mY25 (head1 (Jvm.Cond.code mY25 jdk_40_method_48_code 1 (some (.object "java/util/List")) :: ws) R_21) (fun a U => a = #[(.ref a1)] ∧ Z.Warmed39 U.vm ∧ U.heap = h0) (fun _ _ _ _ _ => True) (fun _ U o U' => ∃ v L, o = .returned v ∧ Q_co2 Z a1 ar1 ak1 x1 x2 w h0 n0 v U'.heap L ∧ FrameEnd U o U' L R_21.cells R_21.slots) := by
  refine MetFree.of_bodySF (plainFor_of_name pn_11) hisR ?_
  intro p e s m args below meth c s₁ Bd hml0 hP hK
  obtain ⟨rfl, hZ, hh⟩ := hP
  have hx := Bd.exec
  have hby := Bd.bytes
  have hml : c.maxLocals = 1 := hml0
  have hown : s.vm.findClass "java/util/List" = some m.cls := findClass_of_methodNamed Bd.named
  have hnm := (name_of_methodNamed Bd.named Bd.method).1
  have X0 : Stand p l e R_21 s m #[(.ref a1)] below meth c s₁ [] 0 0 := Stand.of_body Bd
  have e0 : s₁.heap = h0 := by rw [← hh, Bd.state]; rfl
  have N0 := Fr.nil n0
  show oG p e below s (Q_co2 Z a1 ar1 ak1 x1 x2 w h0 n0) R_21.cells R_21.slots _
  refine oS (fun t k => castTop (ef_14_r m a1) k) ?_
  show oG _ _ _ _ _ _ _ (s₁.setTop (mkF m 0 #[.val (.ref a1)] []))
  refine oS (fun t k => XS.aloadN X0.here hx rfl (hb hby d14_0) rfl rfl k) ?_
  obtain ⟨_, _, ⟨T1, L1, k1, n1⟩, -, X1, ⟨Lc1, hQ1, l1, y1, z1⟩, st1⟩ := Jvm.LawKit.callS X0 hx (y := mY24) hown (oM hZ hw 97 rfl) (oM hZ hw 98 rfl) (oM hZ hw 99 rfl) (oM hZ hw 100 rfl) (by decide) (backOf (W := 0) (rm_lc2 l Z a0 hw [] a1 ar1 ak1 x1 x2 w h0 n0 O0 W E_a1 F_size_a1 F_elementData_a1 V_ar1 E_ar1 E_x1 E_x2) hZ (oW hw 100 rfl) (oW hw 99 rfl) (by decide) (by decide)) (g := (mkF m 1 #[.val (.ref a1)] [(.ref a1)])) rfl (by rw [hml]; rfl) (argsL := [(.ref a1)]) (rest := []) (lenOf pd_11 rfl) rfl (by show 2 * 0 + _ ≤ _; exact Nat.le_of_eq rfl) (hb hby d14_1) (fun _ _ => ⟨rfl, e0, (by decide : 0 + 2 ≤ _), (by decide : 0 + 4 ≤ _)⟩)
  dsimp only [Pt.U, Pt.locs, Pt.cells, Pt.slots] at X1 l1 y1 z1 st1 hQ1
  rw [l1, y1, z1] at X1
  clear l1 y1 z1
  obtain ⟨r1, rfl, Nq1, K1, sr1, P1_0, P1_1, P1_2⟩ := hQ1
  have N1 := Fr.app N0 Nq1
  have O1 := O0.keep K1 all0
  have Kp1 : Keep h0 T1.heap [] := (Keep.refl h0 []).trans K1 all0
  have gr1 : n0 ≤ r1 := Nat.le_trans (O0.1 ▸ O0.2.1) sr1
  have szrr1 : h0.size ≤ r1 := Nat.le_trans (Nat.le_refl _) sr1
  refine oS (fun t k => st1 t k) ?_
  show oG _ _ _ _ _ _ _ (T1.setTop (mkF m 4 #[.val (.ref a1)] [(.ref r1)]))
  try clear st1
  exact own_ret (v := some (.ref r1)) X1 (fun h => by rw [Bd.returns] at h; cases h) Bd.notSynchronized (fun fs hr => retOut X1 hx (t := (.object "java/util/List")) Bd.returns rfl (Or.inr (Or.inr (Or.inr (Or.inr ⟨rfl, rfl, rfl⟩)))) (hb hby d14_4) hr) (by exact ⟨r1, rfl, N1, Kp1, szrr1, P1_0, P1_1, P1_2⟩) (by decide) (by decide)
theorem d27_0 : decode jdk_40_method_36_code 0 = .ok (.getstatic 90, 3) := by decide +kernel
theorem d27_3 : decode jdk_40_method_36_code 3 = .ok (.areturn, 1) := by decide +kernel
abbrev mY26 : MethodName := (⟨"java/util/List", "of", "()Ljava/util/List;"⟩ : MethodName)
theorem ef_27_0 (m : MethodId)  : entryFrame m #[] 0 = mkF m 0 #[] [] := by first | (simp [entryFrame, mkF, argsToLocals, Value.category]; done) | rfl
def Q_of0 (Z : State)  (w : Nat → Addr) (h0 : Heap) (n0 : Nat) (v : Option Value) (h : Heap) (L : List Loc) : Prop := v = some (.ref (w 4)) ∧ Fr n0 L ∧ h = h0
theorem rm_of0 (l : Launch) (Z : State) (a0 : Array Value) (hw : ∀ d ∈ tables_1, d.before a0 Z = true) (ws : List Jvm.Cond)  (w : Nat → Addr) (h0 : Heap) (n0 : Nat) (O0 : Old Z n0 h0) (W : own_World Z w) :
    MetFree l mY26 (head1 (Jvm.Cond.code mY26 jdk_40_method_36_code 0 (some (.object "java/util/List")) :: ws) R_3) (fun a U => a = #[] ∧ Z.Warmed39 U.vm ∧ U.heap = h0) (fun _ _ _ _ _ => True) (fun _ U o U' => ∃ v L, o = .returned v ∧ Q_of0 Z  w h0 n0 v U'.heap L ∧ FrameEnd U o U' L R_3.cells R_3.slots) := by
  refine MetFree.of_bodySF (plainFor_of_name pn_11) hisR ?_
  intro p e s m args below meth c s₁ Bd hml0 hP hK
  obtain ⟨rfl, hZ, hh⟩ := hP
  have hx := Bd.exec
  have hby := Bd.bytes
  have hml : c.maxLocals = 0 := hml0
  have hown : s.vm.findClass "java/util/List" = some m.cls := findClass_of_methodNamed Bd.named
  have hnm := (name_of_methodNamed Bd.named Bd.method).1
  have X0 : Stand p l e R_3 s m #[] below meth c s₁ [] 0 0 := Stand.of_body Bd
  have e0 : s₁.heap = h0 := by rw [← hh, Bd.state]; rfl
  have N0 := Fr.nil n0
  show oG p e below s (Q_of0 Z  w h0 n0) R_3.cells R_3.slots _
  refine oS (fun t k => castTop (ef_27_0 m ) k) ?_
  show oG _ _ _ _ _ _ _ (s₁.setTop (mkF m 0 #[] []))
  obtain ⟨T1, X1, e1, st1⟩ := getS2 X0 hx hZ hown (host := "") (Or.inl (oW hw 185 rfl)) Via.refl e0 ((wS4 W).ext O0.2) (g := (mkF m 0 #[] [])) rfl (hb hby d27_0)
  refine oS (fun t k => st1 t k) ?_
  try clear st1
  exact own_ret (v := some (.ref (w 4))) X1 (fun h => by rw [Bd.returns] at h; cases h) Bd.notSynchronized (fun fs hr => retOut X1 hx (t := (.object "java/util/List")) Bd.returns rfl (Or.inr (Or.inr (Or.inr (Or.inr ⟨rfl, rfl, rfl⟩)))) (hb hby d27_3) hr) (by rw [e1]; exact ⟨rfl, N0, rfl⟩) (by decide) (by decide)
theorem d15_40 : decode jdk_56_method_3_code 40 = .ok (.invokestatic 26, 3) := by decide +kernel
theorem pd_13 : parseMethodDescriptor "()Ljava/util/List;" = some ⟨[], some (.object "java/util/List")⟩ := by decide +kernel
theorem d15_43 : decode jdk_56_method_3_code 43 = .ok (.areturn, 1) := by decide +kernel
def Q_lc0 (Z : State) (a1 : Addr) (w : Nat → Addr) (h0 : Heap) (n0 : Nat) (v : Option Value) (h : Heap) (L : List Loc) : Prop := v = some (.ref (w 4)) ∧ Fr n0 L ∧ h = h0
theorem rm_lc0 (l : Launch) (Z : State) (a0 : Array Value) (hw : ∀ d ∈ tables_1, d.before a0 Z = true) (ws : List Jvm.Cond) (a1 : Addr) (w : Nat → Addr) (h0 : Heap) (n0 : Nat) (O0 : Old Z n0 h0) (W : own_World Z w) (E_a1 : Exa Z h0 a1 "java/util/ArrayList") (F_size_a1 : Fld Z h0 a1 "java/util/ArrayList" "size" "I" (.int 0)) :
    MetFree l mY24 (head1 (Jvm.Cond.code mY24 jdk_56_method_3_code 2 (some (.object "java/util/List")) :: ws) R_0) (fun a U => a = #[(.ref a1)] ∧ Z.Warmed39 U.vm ∧ U.heap = h0) (fun _ _ _ _ _ => True) (fun _ U o U' => ∃ v L, o = .returned v ∧ Q_lc0 Z a1 w h0 n0 v U'.heap L ∧ FrameEnd U o U' L R_0.cells R_0.slots) := by
  refine MetFree.of_bodySF (plainFor_of_name pn_12) hisR ?_
  intro p e s m args below meth c s₁ Bd hml0 hP hK
  obtain ⟨rfl, hZ, hh⟩ := hP
  have hx := Bd.exec
  have hby := Bd.bytes
  have hml : c.maxLocals = 2 := hml0
  have hown : s.vm.findClass "java/util/ImmutableCollections" = some m.cls := findClass_of_methodNamed Bd.named
  have hnm := (name_of_methodNamed Bd.named Bd.method).1
  have X0 : Stand p l e R_0 s m #[(.ref a1)] below meth c s₁ [] 0 0 := Stand.of_body Bd
  have e0 : s₁.heap = h0 := by rw [← hh, Bd.state]; rfl
  have N0 := Fr.nil n0
  show oG p e below s (Q_lc0 Z a1 w h0 n0) R_0.cells R_0.slots _
  refine oS (fun t k => castTop (ef_15_r m a1) k) ?_
  show oG _ _ _ _ _ _ _ (s₁.setTop (mkF m 0 #[.val (.ref a1), .unset] []))
  refine oS (fun t k => XS.aloadN X0.here hx rfl (hb hby d15_0) rfl rfl k) ?_
  obtain ⟨T1, X1, e1, st1⟩ := instNo X0 hx hZ hown (oW hw 101 rfl) e0 E_a1 (own_no (S := "java/util/AbstractList") (oW hw 102 rfl) (own_NI.inst (oW hw 150 rfl)) (NS.step (oW hw 102 rfl) (NS.step (oW hw 103 rfl) (NS.step (oW hw 104 rfl) (own_root (oW hw 105 rfl) (own_NI.inst (oW hw 150 rfl)) (by decide)) (by decide)) (by decide)) (by decide)) (by decide)) (g := (mkF m 1 #[.val (.ref a1), .unset] [(.ref a1)])) rfl rfl (hb hby d15_1)
  refine oS (fun t k => st1 t k) ?_
  try clear st1
  refine oS (fun t k => XS.ifNo X1.here hx rfl (hb hby d15_4) rfl ((if0 _ _).trans (teq (by decide)).2) k) ?_
  refine oS (fun t k => XS.aloadN X1.here hx rfl (hb hby d15_7) rfl rfl k) ?_
  obtain ⟨T2, X2, e2, st2⟩ := instNo X1 hx hZ hown (oW hw 106 rfl) e1 E_a1 (own_no (S := "java/util/AbstractList") (oW hw 102 rfl) (own_NI.sel (oW hw 262 rfl)) (NS.step (oW hw 102 rfl) (NS.step (oW hw 103 rfl) (NS.step (oW hw 104 rfl) (own_root (oW hw 105 rfl) (own_NI.sel (oW hw 262 rfl)) (by decide)) (by decide)) (by decide)) (by decide)) (by decide)) (g := (mkF m 8 #[.val (.ref a1), .unset] [(.ref a1)])) rfl rfl (hb hby d15_8)
  refine oS (fun t k => st2 t k) ?_
  try clear st2 X1 e1
  try clear T1
  refine oS (fun t k => XS.ifYes X2.here hx rfl (pc0 := 11) (pc' := 31) rfl (hb hby d15_11) rfl ((if0 _ _).trans (teq (by decide)).1) (by decide) (by decide) k) ?_
  refine oS (fun t k => XS.aloadN X2.here hx rfl (hb hby d15_31) rfl rfl k) ?_
  show oG _ _ _ _ _ _ _ (T2.setTop (mkF m 32 #[.val (.ref a1), .unset] [(.ref a1)]))
  obtain ⟨cq3, kq3, q3a, q3b, q3c⟩ := isOf hZ e2 E_a1
  obtain ⟨_, _, ⟨T3, L3, k3, n3⟩, -, X3, ⟨Lc3, hQ3, l3, y3, z3⟩, st3⟩ := X2.interfaceBack hx (xi := mY22) (y := mY14) hown (oM hZ hw 107 rfl) (oM hZ hw 108 rfl) (oM hZ hw 109 rfl) (oM hZ hw 110 rfl) (oM hZ hw 111 rfl) (oM hZ hw 112 rfl) (oM hZ hw 113 rfl) (oM hZ hw 114 rfl) (by decide) (backOf (W := 0) (rm_isE0 l Z a0 hw [] a1  h0 n0 O0  F_size_a1) hZ (oW hw 115 rfl) (oW hw 3 rfl) (by decide) (by decide)) q3a q3b q3c (g := (mkF m 32 #[.val (.ref a1), .unset] [(.ref a1)])) rfl (by rw [hml]; rfl) (Steps.refl _) (argsL := []) (rest := []) (lenOf pd_9 rfl) rfl (by show 2 * 0 + _ ≤ _; exact Nat.le_of_eq rfl) (hb hby d15_32) (fun _ _ => ⟨rfl, e2, (by decide : 0 + 0 ≤ _), (by decide : 0 + 0 ≤ _)⟩)
  dsimp only [Pt.U, Pt.locs, Pt.cells, Pt.slots] at X3 l3 y3 z3 st3 hQ3
  rw [l3, y3, z3] at X3
  clear l3 y3 z3
  obtain ⟨rfl, Nq3, e3⟩ := hQ3
  have N3 := Fr.app N0 Nq3
  refine oS (fun t k => st3.trans k) ?_
  show oG _ _ _ _ _ _ _ (T3.setTop (mkF m 37 #[.val (.ref a1), .unset] [(.int 1)]))
  try clear st3 X2 e2
  try clear T2
  refine oS (fun t k => XS.ifNo X3.here hx rfl (hb hby d15_37) rfl ((if0 _ _).trans (feq (by decide)).1) k) ?_
  obtain ⟨_, _, ⟨T4, L4, k4, n4⟩, -, X4, ⟨Lc4, hQ4, l4, y4, z4⟩, st4⟩ := Jvm.LawKit.callS X3 hx (y := mY26) hown (oM hZ hw 182 rfl) (oM hZ hw 183 rfl) (oM hZ hw 95 rfl) (oM hZ hw 184 rfl) (by decide) (backOf (W := 0) (rm_of0 l Z a0 hw []  w h0 n0 O0 W ) hZ (oW hw 184 rfl) (oW hw 95 rfl) (by decide) (by decide)) (g := (mkF m 40 #[.val (.ref a1), .unset] [])) rfl (by rw [hml]; rfl) (argsL := []) (rest := []) (lenOf pd_13 rfl) rfl (by show 2 * 0 + _ ≤ _; exact Nat.le_of_eq rfl) (hb hby d15_40) (fun _ _ => ⟨rfl, e3, (by decide : 0 + 0 ≤ _), (by decide : 0 + 0 ≤ _)⟩)
  dsimp only [Pt.U, Pt.locs, Pt.cells, Pt.slots] at X4 l4 y4 z4 st4 hQ4
  rw [l4, y4, z4] at X4
  clear l4 y4 z4
  obtain ⟨rfl, Nq4, e4⟩ := hQ4
  have N4 := Fr.app N3 Nq4
  refine oS (fun t k => st4 t k) ?_
  show oG _ _ _ _ _ _ _ (T4.setTop (mkF m 43 #[.val (.ref a1), .unset] [(.ref (w 4))]))
  try clear st4 X3 e3
  exact own_ret (v := some (.ref (w 4))) X4 (fun h => by rw [Bd.returns] at h; cases h) Bd.notSynchronized (fun fs hr => retOut X4 hx (t := (.object "java/util/List")) Bd.returns rfl (Or.inr (Or.inr (Or.inr (Or.inr ⟨rfl, rfl, rfl⟩)))) (hb hby d15_43) hr) (by rw [e4]; exact ⟨rfl, N4, rfl⟩) (by decide) (by decide)
abbrev R_22 : Room := { frames := 2, cells := 0, slots := 0, locals := 25 }
def Q_co0 (Z : State) (a1 : Addr) (w : Nat → Addr) (h0 : Heap) (n0 : Nat) (v : Option Value) (h : Heap) (L : List Loc) : Prop := v = some (.ref (w 4)) ∧ Fr n0 L ∧ h = h0
theorem rm_co0 (l : Launch) (Z : State) (a0 : Array Value) (hw : ∀ d ∈ tables_1, d.before a0 Z = true) (ws : List Jvm.Cond) (a1 : Addr) (w : Nat → Addr) (h0 : Heap) (n0 : Nat) (O0 : Old Z n0 h0) (W : own_World Z w) (E_a1 : Exa Z h0 a1 "java/util/ArrayList") (F_size_a1 : Fld Z h0 a1 "java/util/ArrayList" "size" "I" (.int 0)) :
    MetFree l mY25 (head1 (Jvm.Cond.code mY25 jdk_40_method_48_code 1 (some (.object "java/util/List")) :: ws) R_22) (fun a U => a = #[(.ref a1)] ∧ Z.Warmed39 U.vm ∧ U.heap = h0) (fun _ _ _ _ _ => True) (fun _ U o U' => ∃ v L, o = .returned v ∧ Q_co0 Z a1 w h0 n0 v U'.heap L ∧ FrameEnd U o U' L R_22.cells R_22.slots) := by
  refine MetFree.of_bodySF (plainFor_of_name pn_11) hisR ?_
  intro p e s m args below meth c s₁ Bd hml0 hP hK
  obtain ⟨rfl, hZ, hh⟩ := hP
  have hx := Bd.exec
  have hby := Bd.bytes
  have hml : c.maxLocals = 1 := hml0
  have hown : s.vm.findClass "java/util/List" = some m.cls := findClass_of_methodNamed Bd.named
  have hnm := (name_of_methodNamed Bd.named Bd.method).1
  have X0 : Stand p l e R_22 s m #[(.ref a1)] below meth c s₁ [] 0 0 := Stand.of_body Bd
  have e0 : s₁.heap = h0 := by rw [← hh, Bd.state]; rfl
  have N0 := Fr.nil n0
  show oG p e below s (Q_co0 Z a1 w h0 n0) R_22.cells R_22.slots _
  refine oS (fun t k => castTop (ef_14_r m a1) k) ?_
  show oG _ _ _ _ _ _ _ (s₁.setTop (mkF m 0 #[.val (.ref a1)] []))
  refine oS (fun t k => XS.aloadN X0.here hx rfl (hb hby d14_0) rfl rfl k) ?_
  obtain ⟨_, _, ⟨T1, L1, k1, n1⟩, -, X1, ⟨Lc1, hQ1, l1, y1, z1⟩, st1⟩ := Jvm.LawKit.callS X0 hx (y := mY24) hown (oM hZ hw 97 rfl) (oM hZ hw 98 rfl) (oM hZ hw 99 rfl) (oM hZ hw 100 rfl) (by decide) (backOf (W := 0) (rm_lc0 l Z a0 hw [] a1 w h0 n0 O0 W E_a1 F_size_a1) hZ (oW hw 100 rfl) (oW hw 99 rfl) (by decide) (by decide)) (g := (mkF m 1 #[.val (.ref a1)] [(.ref a1)])) rfl (by rw [hml]; rfl) (argsL := [(.ref a1)]) (rest := []) (lenOf pd_11 rfl) rfl (by show 2 * 0 + _ ≤ _; exact Nat.le_of_eq rfl) (hb hby d14_1) (fun _ _ => ⟨rfl, e0, (by decide : 0 + 0 ≤ _), (by decide : 0 + 0 ≤ _)⟩)
  dsimp only [Pt.U, Pt.locs, Pt.cells, Pt.slots] at X1 l1 y1 z1 st1 hQ1
  rw [l1, y1, z1] at X1
  clear l1 y1 z1
  obtain ⟨rfl, Nq1, e1⟩ := hQ1
  have N1 := Fr.app N0 Nq1
  refine oS (fun t k => st1 t k) ?_
  show oG _ _ _ _ _ _ _ (T1.setTop (mkF m 4 #[.val (.ref a1)] [(.ref (w 4))]))
  try clear st1
  exact own_ret (v := some (.ref (w 4))) X1 (fun h => by rw [Bd.returns] at h; cases h) Bd.notSynchronized (fun fs hr => retOut X1 hx (t := (.object "java/util/List")) Bd.returns rfl (Or.inr (Or.inr (Or.inr (Or.inr ⟨rfl, rfl, rfl⟩)))) (hb hby d14_4) hr) (by rw [e1]; exact ⟨rfl, N1, rfl⟩) (by decide) (by decide)
theorem d13_0 : decode prog_83_method_1_code 0 = .ok (.aload_n 0, 1) := by decide +kernel
theorem d13_1 : decode prog_83_method_1_code 1 = .ok (.invokespecial 1, 3) := by decide +kernel
theorem d13_4 : decode prog_83_method_1_code 4 = .ok (.aload_n 2, 1) := by decide +kernel
theorem d13_5 : decode prog_83_method_1_code 5 = .ok (.invokestatic 7, 3) := by decide +kernel
theorem d13_8 : decode prog_83_method_1_code 8 = .ok (.astore_n 2, 1) := by decide +kernel
theorem d13_9 : decode prog_83_method_1_code 9 = .ok (.aload_n 3, 1) := by decide +kernel
theorem d13_10 : decode prog_83_method_1_code 10 = .ok (.invokestatic 7, 3) := by decide +kernel
theorem d13_13 : decode prog_83_method_1_code 13 = .ok (.astore_n 3, 1) := by decide +kernel
theorem d13_14 : decode prog_83_method_1_code 14 = .ok (.aload 4, 2) := by decide +kernel
theorem d13_16 : decode prog_83_method_1_code 16 = .ok (.invokestatic 7, 3) := by decide +kernel
theorem d13_19 : decode prog_83_method_1_code 19 = .ok (.astore 4, 2) := by decide +kernel
theorem d13_21 : decode prog_83_method_1_code 21 = .ok (.aload 5, 2) := by decide +kernel
theorem d13_23 : decode prog_83_method_1_code 23 = .ok (.invokestatic 7, 3) := by decide +kernel
theorem d13_26 : decode prog_83_method_1_code 26 = .ok (.astore 5, 2) := by decide +kernel
theorem d13_28 : decode prog_83_method_1_code 28 = .ok (.aload 6, 2) := by decide +kernel
theorem d13_30 : decode prog_83_method_1_code 30 = .ok (.invokestatic 7, 3) := by decide +kernel
theorem d13_33 : decode prog_83_method_1_code 33 = .ok (.astore 6, 2) := by decide +kernel
theorem d13_35 : decode prog_83_method_1_code 35 = .ok (.aload_n 0, 1) := by decide +kernel
theorem d13_36 : decode prog_83_method_1_code 36 = .ok (.iload_n 1, 1) := by decide +kernel
theorem d13_37 : decode prog_83_method_1_code 37 = .ok (.putfield 13, 3) := by decide +kernel
theorem d13_40 : decode prog_83_method_1_code 40 = .ok (.aload_n 0, 1) := by decide +kernel
theorem d13_41 : decode prog_83_method_1_code 41 = .ok (.aload_n 2, 1) := by decide +kernel
theorem d13_42 : decode prog_83_method_1_code 42 = .ok (.putfield 19, 3) := by decide +kernel
theorem d13_45 : decode prog_83_method_1_code 45 = .ok (.aload_n 0, 1) := by decide +kernel
theorem d13_46 : decode prog_83_method_1_code 46 = .ok (.aload_n 3, 1) := by decide +kernel
theorem d13_47 : decode prog_83_method_1_code 47 = .ok (.putfield 23, 3) := by decide +kernel
theorem d13_50 : decode prog_83_method_1_code 50 = .ok (.aload_n 0, 1) := by decide +kernel
theorem d13_51 : decode prog_83_method_1_code 51 = .ok (.aload 4, 2) := by decide +kernel
theorem d13_53 : decode prog_83_method_1_code 53 = .ok (.putfield 26, 3) := by decide +kernel
theorem d13_56 : decode prog_83_method_1_code 56 = .ok (.aload_n 0, 1) := by decide +kernel
theorem d13_57 : decode prog_83_method_1_code 57 = .ok (.aload 5, 2) := by decide +kernel
theorem d13_59 : decode prog_83_method_1_code 59 = .ok (.putfield 29, 3) := by decide +kernel
theorem d13_62 : decode prog_83_method_1_code 62 = .ok (.aload_n 0, 1) := by decide +kernel
theorem d13_63 : decode prog_83_method_1_code 63 = .ok (.aload 6, 2) := by decide +kernel
theorem d13_65 : decode prog_83_method_1_code 65 = .ok (.putfield 32, 3) := by decide +kernel
theorem d13_68 : decode prog_83_method_1_code 68 = .ok (.return_, 1) := by decide +kernel
abbrev mY27 : MethodName := (⟨"com/example/shiftweave/shiftweave/rostering/Ward", "<init>", "(ILjava/util/List;Ljava/util/List;Ljava/util/List;Ljava/util/List;Ljava/util/List;)V"⟩ : MethodName)
theorem ef_13_rirrrrr_2 (m : MethodId) (x0 : Addr) (x2 : Addr) (x3 : Addr) (x4 : Addr) (x5 : Addr) (x6 : Addr) : entryFrame m #[(.ref x0), (.int 2), (.ref x2), (.ref x3), (.ref x4), (.ref x5), (.ref x6)] 7 = mkF m 0 #[.val (.ref x0), .val (.int 2), .val (.ref x2), .val (.ref x3), .val (.ref x4), .val (.ref x5), .val (.ref x6)] [] := by first | (simp [entryFrame, mkF, argsToLocals, Value.category]; done) | rfl
theorem pn_13 : plainName "com/example/shiftweave/shiftweave/rostering/Ward" = true := by first | (simp [plainName, overriddenIn]; done) | decide +kernel
abbrev R_23 : Room := { frames := 8, cells := 8, slots := 14, locals := 101 }
def Q_ward (Z : State) (a1 : Addr) (a2 : Addr) (ar2 : Addr) (ak2 : ClassId) (u2 : Addr) (v2 : Addr) (a3 : Addr) (ar3 : Addr) (ak3 : ClassId) (u3 : Addr) (v3 : Addr) (a4 : Addr) (ar4 : Addr) (ak4 : ClassId) (u4 : Addr) (a5 : Addr) (ar5 : Addr) (ak5 : ClassId) (u5 : Addr) (a6 : Addr) (w : Nat → Addr) (h0 : Heap) (n0 : Nat) (v : Option Value) (h : Heap) (L : List Loc) : Prop := ∃ (z2 : Addr) (z3 : Addr) (z4 : Addr) (z5 : Addr), v = none ∧ Fr n0 L ∧ Keep h0 h [a1] ∧ h0.size ≤ z2 ∧ h0.size ≤ z3 ∧ h0.size ≤ z4 ∧ h0.size ≤ z5 ∧ Fld Z h a1 "com/example/shiftweave/shiftweave/rostering/Ward" "days" "I" (.int 2) ∧ Fld Z h a1 "com/example/shiftweave/shiftweave/rostering/Ward" "shifts" "Ljava/util/List;" (.ref z2) ∧ Fld Z h a1 "com/example/shiftweave/shiftweave/rostering/Ward" "staff" "Ljava/util/List;" (.ref z3) ∧ Fld Z h a1 "com/example/shiftweave/shiftweave/rostering/Ward" "onRequests" "Ljava/util/List;" (.ref z4) ∧ Fld Z h a1 "com/example/shiftweave/shiftweave/rostering/Ward" "offRequests" "Ljava/util/List;" (.ref z5) ∧ Fld Z h a1 "com/example/shiftweave/shiftweave/rostering/Ward" "cover" "Ljava/util/List;" (.ref (w 4)) ∧ Exa Z h z2 "java/util/ImmutableCollections$List12" ∧ Fld Z h z2 "java/util/ImmutableCollections$List12" "e0" "Ljava/lang/Object;" (.ref u2) ∧ Fld Z h z2 "java/util/ImmutableCollections$List12" "e1" "Ljava/lang/Object;" (.ref v2) ∧ Exa Z h z3 "java/util/ImmutableCollections$List12" ∧ Fld Z h z3 "java/util/ImmutableCollections$List12" "e0" "Ljava/lang/Object;" (.ref u3) ∧ Fld Z h z3 "java/util/ImmutableCollections$List12" "e1" "Ljava/lang/Object;" (.ref v3) ∧ Exa Z h z4 "java/util/ImmutableCollections$List12" ∧ Fld Z h z4 "java/util/ImmutableCollections$List12" "e0" "Ljava/lang/Object;" (.ref u4) ∧ Fld Z h z4 "java/util/ImmutableCollections$List12" "e1" "Ljava/lang/Object;" (.ref (w 3)) ∧ Exa Z h z5 "java/util/ImmutableCollections$List12" ∧ Fld Z h z5 "java/util/ImmutableCollections$List12" "e0" "Ljava/lang/Object;" (.ref u5) ∧ Fld Z h z5 "java/util/ImmutableCollections$List12" "e1" "Ljava/lang/Object;" (.ref (w 3))
theorem rm_ward (l : Launch) (Z : State) (a0 : Array Value) (hw : ∀ d ∈ tables_1, d.before a0 Z = true) (ws : List Jvm.Cond) (a1 : Addr) (a2 : Addr) (ar2 : Addr) (ak2 : ClassId) (u2 : Addr) (v2 : Addr) (a3 : Addr) (ar3 : Addr) (ak3 : ClassId) (u3 : Addr) (v3 : Addr) (a4 : Addr) (ar4 : Addr) (ak4 : ClassId) (u4 : Addr) (a5 : Addr) (ar5 : Addr) (ak5 : ClassId) (u5 : Addr) (a6 : Addr) (w : Nat → Addr) (h0 : Heap) (n0 : Nat) (O0 : Old Z n0 h0) (W : own_World Z w) (E_a1 : Exa Z h0 a1 "com/example/shiftweave/shiftweave/rostering/Ward") (g_a1 : n0 ≤ a1) (F_days_a1 : Fld Z h0 a1 "com/example/shiftweave/shiftweave/rostering/Ward" "days" "I" (.int 0)) (F_shifts_a1 : Fld Z h0 a1 "com/example/shiftweave/shiftweave/rostering/Ward" "shifts" "Ljava/util/List;" .null) (F_staff_a1 : Fld Z h0 a1 "com/example/shiftweave/shiftweave/rostering/Ward" "staff" "Ljava/util/List;" .null) (F_onRequests_a1 : Fld Z h0 a1 "com/example/shiftweave/shiftweave/rostering/Ward" "onRequests" "Ljava/util/List;" .null) (F_offRequests_a1 : Fld Z h0 a1 "com/example/shiftweave/shiftweave/rostering/Ward" "offRequests" "Ljava/util/List;" .null) (F_cover_a1 : Fld Z h0 a1 "com/example/shiftweave/shiftweave/rostering/Ward" "cover" "Ljava/util/List;" .null) (E_a2 : Exa Z h0 a2 "java/util/ArrayList") (F_size_a2 : Fld Z h0 a2 "java/util/ArrayList" "size" "I" (.int 2)) (F_elementData_a2 : Fld Z h0 a2 "java/util/ArrayList" "elementData" "[Ljava/lang/Object;" (.ref ar2)) (V_ar2 : Arv Z h0 ar2 ak2 (.object "java/lang/Object") (10 : Int32) [(.ref u2), (.ref v2), .null, .null, .null, .null, .null, .null, .null, .null] .null) (E_ar2 : Exa Z h0 ar2 "[Ljava/lang/Object;") (E_u2 : Exa Z h0 u2 "java/lang/Integer") (E_v2 : Exa Z h0 v2 "java/lang/Integer") (E_a3 : Exa Z h0 a3 "java/util/ArrayList") (F_size_a3 : Fld Z h0 a3 "java/util/ArrayList" "size" "I" (.int 2)) (F_elementData_a3 : Fld Z h0 a3 "java/util/ArrayList" "elementData" "[Ljava/lang/Object;" (.ref ar3)) (V_ar3 : Arv Z h0 ar3 ak3 (.object "java/lang/Object") (10 : Int32) [(.ref u3), (.ref v3), .null, .null, .null, .null, .null, .null, .null, .null] .null) (E_ar3 : Exa Z h0 ar3 "[Ljava/lang/Object;") (E_u3 : Exa Z h0 u3 "java/lang/Integer") (E_v3 : Exa Z h0 v3 "java/lang/Integer") (E_a4 : Exa Z h0 a4 "java/util/ArrayList") (F_size_a4 : Fld Z h0 a4 "java/util/ArrayList" "size" "I" (.int 1)) (F_elementData_a4 : Fld Z h0 a4 "java/util/ArrayList" "elementData" "[Ljava/lang/Object;" (.ref ar4)) (V_ar4 : Arv Z h0 ar4 ak4 (.object "java/lang/Object") (10 : Int32) [(.ref u4), .null, .null, .null, .null, .null, .null, .null, .null, .null] .null) (E_ar4 : Exa Z h0 ar4 "[Ljava/lang/Object;") (E_u4 : Exa Z h0 u4 "com/example/shiftweave/shiftweave/rostering/ShiftRequest") (E_a5 : Exa Z h0 a5 "java/util/ArrayList") (F_size_a5 : Fld Z h0 a5 "java/util/ArrayList" "size" "I" (.int 1)) (F_elementData_a5 : Fld Z h0 a5 "java/util/ArrayList" "elementData" "[Ljava/lang/Object;" (.ref ar5)) (V_ar5 : Arv Z h0 ar5 ak5 (.object "java/lang/Object") (10 : Int32) [(.ref u5), .null, .null, .null, .null, .null, .null, .null, .null, .null] .null) (E_ar5 : Exa Z h0 ar5 "[Ljava/lang/Object;") (E_u5 : Exa Z h0 u5 "com/example/shiftweave/shiftweave/rostering/ShiftRequest") (E_a6 : Exa Z h0 a6 "java/util/ArrayList") (F_size_a6 : Fld Z h0 a6 "java/util/ArrayList" "size" "I" (.int 0)) :
    MetFree l mY27 (head1 (Jvm.Cond.code mY27 prog_83_method_1_code 7 none :: ws) R_23) (fun a U => a = #[(.ref a1), (.int 2), (.ref a2), (.ref a3), (.ref a4), (.ref a5), (.ref a6)] ∧ Z.Warmed39 U.vm ∧ U.heap = h0) (fun _ _ _ _ _ => True) (fun _ U o U' => ∃ v L, o = .returned v ∧ Q_ward Z a1 a2 ar2 ak2 u2 v2 a3 ar3 ak3 u3 v3 a4 ar4 ak4 u4 a5 ar5 ak5 u5 a6 w h0 n0 v U'.heap L ∧ FrameEnd U o U' L R_23.cells R_23.slots) := by
  refine MetFree.of_bodySF (plainFor_of_name pn_13) hisR ?_
  intro p e s m args below meth c s₁ Bd hml0 hP hK
  obtain ⟨rfl, hZ, hh⟩ := hP
  have hx := Bd.exec
  have hby := Bd.bytes
  have hml : c.maxLocals = 7 := hml0
  have hown : s.vm.findClass "com/example/shiftweave/shiftweave/rostering/Ward" = some m.cls := findClass_of_methodNamed Bd.named
  have hnm := (name_of_methodNamed Bd.named Bd.method).1
  have X0 : Stand p l e R_23 s m #[(.ref a1), (.int 2), (.ref a2), (.ref a3), (.ref a4), (.ref a5), (.ref a6)] below meth c s₁ [] 0 0 := Stand.of_body Bd
  have e0 : s₁.heap = h0 := by rw [← hh, Bd.state]; rfl
  have N0 := Fr.nil n0
  show oG p e below s (Q_ward Z a1 a2 ar2 ak2 u2 v2 a3 ar3 ak3 u3 v3 a4 ar4 ak4 u4 a5 ar5 ak5 u5 a6 w h0 n0) R_23.cells R_23.slots _
  refine oS (fun t k => castTop (ef_13_rirrrrr_2 m a1 a2 a3 a4 a5 a6) k) ?_
  show oG _ _ _ _ _ _ _ (s₁.setTop (mkF m 0 #[.val (.ref a1), .val (.int 2), .val (.ref a2), .val (.ref a3), .val (.ref a4), .val (.ref a5), .val (.ref a6)] []))
  refine oS (fun t k => XS.aloadN X0.here hx rfl (hb hby d13_0) rfl rfl k) ?_
  obtain ⟨_, _, ⟨T1, L1, k1, n1⟩, -, X1, ⟨Lc1, hQ1, l1, y1, z1⟩, st1⟩ := X0.specialBack hx (y := mY1) rfl hown (oM hZ hw 92 rfl) (oM hZ hw 72 rfl) (oM hZ hw 75 rfl) (by decide) (backOf (W := 0) (rm_rec l Z a0 hw [] a1  h0 n0 O0  ) hZ (oW hw 75 rfl) (oW hw 74 rfl) (by decide) (by decide)) (g := (mkF m 1 #[.val (.ref a1), .val (.int 2), .val (.ref a2), .val (.ref a3), .val (.ref a4), .val (.ref a5), .val (.ref a6)] [(.ref a1)])) rfl (by rw [hml]; rfl) (Steps.refl _) (a := a1) (argsL := []) (rest := []) (lenOf pd_0 rfl) rfl (by show 2 * 0 + _ ≤ _; exact Nat.le_of_eq rfl) (hb hby d13_1) (fun _ _ => ⟨rfl, e0, (by decide : 0 + 0 ≤ _), (by decide : 0 + 0 ≤ _)⟩)
  dsimp only [Pt.U, Pt.locs, Pt.cells, Pt.slots] at X1 l1 y1 z1 st1 hQ1
  rw [l1, y1, z1] at X1
  clear l1 y1 z1
  obtain ⟨rfl, Nq1, e1⟩ := hQ1
  have N1 := Fr.app N0 Nq1
  refine oS (fun t k => st1.trans k) ?_
  show oG _ _ _ _ _ _ _ (T1.setTop (mkF m 4 #[.val (.ref a1), .val (.int 2), .val (.ref a2), .val (.ref a3), .val (.ref a4), .val (.ref a5), .val (.ref a6)] []))
  try clear st1
  refine oS (fun t k => XS.aloadN X1.here hx rfl (hb hby d13_4) rfl rfl k) ?_
  obtain ⟨_, _, ⟨T2, L2, k2, n2⟩, -, X2, ⟨Lc2, hQ2, l2, y2, z2⟩, st2⟩ := Jvm.LawKit.callS X1 hx (y := mY25) hown (oM hZ hw 93 rfl) (oM hZ hw 94 rfl) (oM hZ hw 95 rfl) (oM hZ hw 96 rfl) (by decide) (backOf (W := 0) (rm_co2 l Z a0 hw [] a2 ar2 ak2 u2 v2 w h0 n0 O0 W E_a2 F_size_a2 F_elementData_a2 V_ar2 E_ar2 E_u2 E_v2) hZ (oW hw 96 rfl) (oW hw 95 rfl) (by decide) (by decide)) (g := (mkF m 5 #[.val (.ref a1), .val (.int 2), .val (.ref a2), .val (.ref a3), .val (.ref a4), .val (.ref a5), .val (.ref a6)] [(.ref a2)])) rfl (by rw [hml]; rfl) (argsL := [(.ref a2)]) (rest := []) (lenOf pd_11 rfl) rfl (by show 2 * 0 + _ ≤ _; exact Nat.le_of_eq rfl) (hb hby d13_5) (fun _ _ => ⟨rfl, e1, (by decide : 0 + 2 ≤ _), (by decide : 0 + 4 ≤ _)⟩)
  dsimp only [Pt.U, Pt.locs, Pt.cells, Pt.slots] at X2 l2 y2 z2 st2 hQ2
  rw [l2, y2, z2] at X2
  clear l2 y2 z2
  obtain ⟨r2, rfl, Nq2, K2, sr2, P2_0, P2_1, P2_2⟩ := hQ2
  have N2 := Fr.app N1 Nq2
  have O2 := O0.keep K2 all0
  have Kp2 : Keep h0 T2.heap [a1] := (Keep.refl h0 [a1]).trans K2 all0
  have gr2 : n0 ≤ r2 := Nat.le_trans (O0.1 ▸ O0.2.1) sr2
  have ne_a1_r2 : a1 ≠ r2 := Nat.ne_of_lt (Nat.lt_of_lt_of_le E_a1.lt sr2)
  have szrr2 : h0.size ≤ r2 := Nat.le_trans (Nat.le_refl _) sr2
  refine oS (fun t k => st2 t k) ?_
  show oG _ _ _ _ _ _ _ (T2.setTop (mkF m 8 #[.val (.ref a1), .val (.int 2), .val (.ref a2), .val (.ref a3), .val (.ref a4), .val (.ref a5), .val (.ref a6)] [(.ref r2)]))
  try clear st2 X1 e1
  refine oS (fun t k => XS.astoreN X2.here hx rfl (hb hby d13_8) rfl rfl (l' := #[.val (.ref a1), .val (.int 2), .val (.ref r2), .val (.ref a3), .val (.ref a4), .val (.ref a5), .val (.ref a6)]) rfl k) ?_
  refine oS (fun t k => XS.aloadN X2.here hx rfl (hb hby d13_9) rfl rfl k) ?_
  obtain ⟨_, _, ⟨T3, L3, k3, n3⟩, -, X3, ⟨Lc3, hQ3, l3, y3, z3⟩, st3⟩ := Jvm.LawKit.callS X2 hx (y := mY25) hown (oM hZ hw 93 rfl) (oM hZ hw 94 rfl) (oM hZ hw 95 rfl) (oM hZ hw 96 rfl) (by decide) (backOf (W := 0) (rm_co2 l Z a0 hw [] a3 ar3 ak3 u3 v3 w T2.heap n0 O2 W (E_a3.keep K2) (F_size_a3.keep K2 List.not_mem_nil) (F_elementData_a3.keep K2 List.not_mem_nil) (V_ar3.keep K2 List.not_mem_nil) (E_ar3.keep K2) (E_u3.keep K2) (E_v3.keep K2)) hZ (oW hw 96 rfl) (oW hw 95 rfl) (by decide) (by decide)) (g := (mkF m 10 #[.val (.ref a1), .val (.int 2), .val (.ref r2), .val (.ref a3), .val (.ref a4), .val (.ref a5), .val (.ref a6)] [(.ref a3)])) rfl (by rw [hml]; rfl) (argsL := [(.ref a3)]) (rest := []) (lenOf pd_11 rfl) rfl (by show 2 * 0 + _ ≤ _; exact Nat.le_of_eq rfl) (hb hby d13_10) (fun _ _ => ⟨rfl, rfl, (by decide : 2 + 2 ≤ _), (by decide : 4 + 4 ≤ _)⟩)
  dsimp only [Pt.U, Pt.locs, Pt.cells, Pt.slots] at X3 l3 y3 z3 st3 hQ3
  rw [l3, y3, z3] at X3
  clear l3 y3 z3
  obtain ⟨r3, rfl, Nq3, K3, sr3, P3_0, P3_1, P3_2⟩ := hQ3
  have N3 := Fr.app N2 Nq3
  have O3 := O2.keep K3 all0
  have Kp3 : Keep h0 T3.heap [a1] := Kp2.trans K3 all0
  have gr3 : n0 ≤ r3 := Nat.le_trans (O2.1 ▸ O2.2.1) sr3
  have ne_a1_r3 : a1 ≠ r3 := Nat.ne_of_lt (Nat.lt_of_lt_of_le (E_a1.keep K2).lt sr3)
  have ne_r2_r3 : r2 ≠ r3 := Nat.ne_of_lt (Nat.lt_of_lt_of_le P2_0.lt sr3)
  have szrr3 : h0.size ≤ r3 := Nat.le_trans Kp2.1 sr3
  refine oS (fun t k => st3 t k) ?_
  show oG _ _ _ _ _ _ _ (T3.setTop (mkF m 13 #[.val (.ref a1), .val (.int 2), .val (.ref r2), .val (.ref a3), .val (.ref a4), .val (.ref a5), .val (.ref a6)] [(.ref r3)]))
  try clear st3 X2 e2
  refine oS (fun t k => XS.astoreN X3.here hx rfl (hb hby d13_13) rfl rfl (l' := #[.val (.ref a1), .val (.int 2), .val (.ref r2), .val (.ref r3), .val (.ref a4), .val (.ref a5), .val (.ref a6)]) rfl k) ?_
  refine oS (fun t k => XS.aload X3.here hx rfl (hb hby d13_14) rfl rfl k) ?_
  obtain ⟨_, _, ⟨T4, L4, k4, n4⟩, -, X4, ⟨Lc4, hQ4, l4, y4, z4⟩, st4⟩ := Jvm.LawKit.callS X3 hx (y := mY25) hown (oM hZ hw 93 rfl) (oM hZ hw 94 rfl) (oM hZ hw 95 rfl) (oM hZ hw 96 rfl) (by decide) (backOf (W := 0) (rm_co1 l Z a0 hw [] a4 ar4 ak4 u4 w T3.heap n0 O3 W ((E_a4.keep K2).keep K3) ((F_size_a4.keep K2 List.not_mem_nil).keep K3 List.not_mem_nil) ((F_elementData_a4.keep K2 List.not_mem_nil).keep K3 List.not_mem_nil) ((V_ar4.keep K2 List.not_mem_nil).keep K3 List.not_mem_nil) ((E_ar4.keep K2).keep K3) ((E_u4.keep K2).keep K3)) hZ (oW hw 96 rfl) (oW hw 95 rfl) (by decide) (by decide)) (g := (mkF m 16 #[.val (.ref a1), .val (.int 2), .val (.ref r2), .val (.ref r3), .val (.ref a4), .val (.ref a5), .val (.ref a6)] [(.ref a4)])) rfl (by rw [hml]; rfl) (argsL := [(.ref a4)]) (rest := []) (lenOf pd_11 rfl) rfl (by show 2 * 0 + _ ≤ _; exact Nat.le_of_eq rfl) (hb hby d13_16) (fun _ _ => ⟨rfl, rfl, (by decide : 4 + 2 ≤ _), (by decide : 8 + 3 ≤ _)⟩)
  dsimp only [Pt.U, Pt.locs, Pt.cells, Pt.slots] at X4 l4 y4 z4 st4 hQ4
  rw [l4, y4, z4] at X4
  clear l4 y4 z4
  obtain ⟨r4, rfl, Nq4, K4, sr4, P4_0, P4_1, P4_2⟩ := hQ4
  have N4 := Fr.app N3 Nq4
  have O4 := O3.keep K4 all0
  have Kp4 : Keep h0 T4.heap [a1] := Kp3.trans K4 all0
  have gr4 : n0 ≤ r4 := Nat.le_trans (O3.1 ▸ O3.2.1) sr4
  have ne_a1_r4 : a1 ≠ r4 := Nat.ne_of_lt (Nat.lt_of_lt_of_le ((E_a1.keep K2).keep K3).lt sr4)
  have ne_r2_r4 : r2 ≠ r4 := Nat.ne_of_lt (Nat.lt_of_lt_of_le (P2_0.keep K3).lt sr4)
  have ne_r3_r4 : r3 ≠ r4 := Nat.ne_of_lt (Nat.lt_of_lt_of_le P3_0.lt sr4)
  have szrr4 : h0.size ≤ r4 := Nat.le_trans Kp3.1 sr4
  refine oS (fun t k => st4 t k) ?_
  show oG _ _ _ _ _ _ _ (T4.setTop (mkF m 19 #[.val (.ref a1), .val (.int 2), .val (.ref r2), .val (.ref r3), .val (.ref a4), .val (.ref a5), .val (.ref a6)] [(.ref r4)]))
  try clear st4 X3 e3
  refine oS (fun t k => XS.astore X4.here hx rfl (hb hby d13_19) rfl rfl (l' := #[.val (.ref a1), .val (.int 2), .val (.ref r2), .val (.ref r3), .val (.ref r4), .val (.ref a5), .val (.ref a6)]) rfl k) ?_
  refine oS (fun t k => XS.aload X4.here hx rfl (hb hby d13_21) rfl rfl k) ?_
  obtain ⟨_, _, ⟨T5, L5, k5, n5⟩, -, X5, ⟨Lc5, hQ5, l5, y5, z5⟩, st5⟩ := Jvm.LawKit.callS X4 hx (y := mY25) hown (oM hZ hw 93 rfl) (oM hZ hw 94 rfl) (oM hZ hw 95 rfl) (oM hZ hw 96 rfl) (by decide) (backOf (W := 0) (rm_co1 l Z a0 hw [] a5 ar5 ak5 u5 w T4.heap n0 O4 W (((E_a5.keep K2).keep K3).keep K4) (((F_size_a5.keep K2 List.not_mem_nil).keep K3 List.not_mem_nil).keep K4 List.not_mem_nil) (((F_elementData_a5.keep K2 List.not_mem_nil).keep K3 List.not_mem_nil).keep K4 List.not_mem_nil) (((V_ar5.keep K2 List.not_mem_nil).keep K3 List.not_mem_nil).keep K4 List.not_mem_nil) (((E_ar5.keep K2).keep K3).keep K4) (((E_u5.keep K2).keep K3).keep K4)) hZ (oW hw 96 rfl) (oW hw 95 rfl) (by decide) (by decide)) (g := (mkF m 23 #[.val (.ref a1), .val (.int 2), .val (.ref r2), .val (.ref r3), .val (.ref r4), .val (.ref a5), .val (.ref a6)] [(.ref a5)])) rfl (by rw [hml]; rfl) (argsL := [(.ref a5)]) (rest := []) (lenOf pd_11 rfl) rfl (by show 2 * 0 + _ ≤ _; exact Nat.le_of_eq rfl) (hb hby d13_23) (fun _ _ => ⟨rfl, rfl, (by decide : 6 + 2 ≤ _), (by decide : 11 + 3 ≤ _)⟩)
  dsimp only [Pt.U, Pt.locs, Pt.cells, Pt.slots] at X5 l5 y5 z5 st5 hQ5
  rw [l5, y5, z5] at X5
  clear l5 y5 z5
  obtain ⟨r5, rfl, Nq5, K5, sr5, P5_0, P5_1, P5_2⟩ := hQ5
  have N5 := Fr.app N4 Nq5
  have O5 := O4.keep K5 all0
  have Kp5 : Keep h0 T5.heap [a1] := Kp4.trans K5 all0
  have gr5 : n0 ≤ r5 := Nat.le_trans (O4.1 ▸ O4.2.1) sr5
  have ne_a1_r5 : a1 ≠ r5 := Nat.ne_of_lt (Nat.lt_of_lt_of_le (((E_a1.keep K2).keep K3).keep K4).lt sr5)
  have ne_r2_r5 : r2 ≠ r5 := Nat.ne_of_lt (Nat.lt_of_lt_of_le ((P2_0.keep K3).keep K4).lt sr5)
  have ne_r3_r5 : r3 ≠ r5 := Nat.ne_of_lt (Nat.lt_of_lt_of_le (P3_0.keep K4).lt sr5)
  have ne_r4_r5 : r4 ≠ r5 := Nat.ne_of_lt (Nat.lt_of_lt_of_le P4_0.lt sr5)
  have szrr5 : h0.size ≤ r5 := Nat.le_trans Kp4.1 sr5
  refine oS (fun t k => st5 t k) ?_
  show oG _ _ _ _ _ _ _ (T5.setTop (mkF m 26 #[.val (.ref a1), .val (.int 2), .val (.ref r2), .val (.ref r3), .val (.ref r4), .val (.ref a5), .val (.ref a6)] [(.ref r5)]))
  try clear st5 X4 e4
  refine oS (fun t k => XS.astore X5.here hx rfl (hb hby d13_26) rfl rfl (l' := #[.val (.ref a1), .val (.int 2), .val (.ref r2), .val (.ref r3), .val (.ref r4), .val (.ref r5), .val (.ref a6)]) rfl k) ?_
  refine oS (fun t k => XS.aload X5.here hx rfl (hb hby d13_28) rfl rfl k) ?_
  obtain ⟨_, _, ⟨T6, L6, k6, n6⟩, -, X6, ⟨Lc6, hQ6, l6, y6, z6⟩, st6⟩ := Jvm.LawKit.callS X5 hx (y := mY25) hown (oM hZ hw 93 rfl) (oM hZ hw 94 rfl) (oM hZ hw 95 rfl) (oM hZ hw 96 rfl) (by decide) (backOf (W := 0) (rm_co0 l Z a0 hw [] a6 w T5.heap n0 O5 W ((((E_a6.keep K2).keep K3).keep K4).keep K5) ((((F_size_a6.keep K2 List.not_mem_nil).keep K3 List.not_mem_nil).keep K4 List.not_mem_nil).keep K5 List.not_mem_nil)) hZ (oW hw 96 rfl) (oW hw 95 rfl) (by decide) (by decide)) (g := (mkF m 30 #[.val (.ref a1), .val (.int 2), .val (.ref r2), .val (.ref r3), .val (.ref r4), .val (.ref r5), .val (.ref a6)] [(.ref a6)])) rfl (by rw [hml]; rfl) (argsL := [(.ref a6)]) (rest := []) (lenOf pd_11 rfl) rfl (by show 2 * 0 + _ ≤ _; exact Nat.le_of_eq rfl) (hb hby d13_30) (fun _ _ => ⟨rfl, rfl, (by decide : 8 + 0 ≤ _), (by decide : 14 + 0 ≤ _)⟩)
  dsimp only [Pt.U, Pt.locs, Pt.cells, Pt.slots] at X6 l6 y6 z6 st6 hQ6
  rw [l6, y6, z6] at X6
  clear l6 y6 z6
  obtain ⟨rfl, Nq6, e6⟩ := hQ6
  have N6 := Fr.app N5 Nq6
  refine oS (fun t k => st6 t k) ?_
  show oG _ _ _ _ _ _ _ (T6.setTop (mkF m 33 #[.val (.ref a1), .val (.int 2), .val (.ref r2), .val (.ref r3), .val (.ref r4), .val (.ref r5), .val (.ref a6)] [(.ref (w 4))]))
  try clear st6 X5 e5
  refine oS (fun t k => XS.astore X6.here hx rfl (hb hby d13_33) rfl rfl (l' := #[.val (.ref a1), .val (.int 2), .val (.ref r2), .val (.ref r3), .val (.ref r4), .val (.ref r5), .val (.ref (w 4))]) rfl k) ?_
  refine oS (fun t k => XS.aloadN X6.here hx rfl (hb hby d13_35) rfl rfl k) ?_
  refine oS (fun t k => XS.iloadN X6.here hx rfl (hb hby d13_36) rfl k) ?_
  obtain ⟨T7, h7, X7, e7, W7, st7⟩ := putF X6 hx hZ hown (host := "") (Or.inl (oW hw 186 rfl)) Via.refl e6 ((((F_days_a1.keep K2 List.not_mem_nil).keep K3 List.not_mem_nil).keep K4 List.not_mem_nil).keep K5 List.not_mem_nil) ((((E_a1.keep K2).keep K3).keep K4).keep K5) (Or.inr ⟨(oW hw 187 rfl), rfl, hnm⟩) (oW hw 87 rfl) (ty := .int) (by decide) rfl rfl (g := (mkF m 37 #[.val (.ref a1), .val (.int 2), .val (.ref r2), .val (.ref r3), .val (.ref r4), .val (.ref r5), .val (.ref (w 4))] [(.int 2), (.ref a1)])) rfl rfl (hb hby d13_37)
  have O7 := O5.wr W7 g_a1
  have N7 := Fr.snoc X7 N6 g_a1
  have Kp7 : Keep h0 h7 [a1] := Kp5.wr W7 (Or.inl (List.mem_of_getElem? (i := 0) rfl))
  have Fw7 := ((((F_days_a1.keep K2 List.not_mem_nil).keep K3 List.not_mem_nil).keep K4 List.not_mem_nil).keep K5 List.not_mem_nil).same W7
  refine oS (fun t k => st7 t k) ?_
  try clear st7 X6 e6
  refine oS (fun t k => XS.aloadN X7.here hx rfl (hb hby d13_40) rfl rfl k) ?_
  refine oS (fun t k => XS.aloadN X7.here hx rfl (hb hby d13_41) rfl rfl k) ?_
  obtain ⟨T8, h8, X8, e8, W8, st8⟩ := putF X7 hx hZ hown (host := "") (Or.inl (oW hw 188 rfl)) Via.refl e7 (((((F_shifts_a1.keep K2 List.not_mem_nil).keep K3 List.not_mem_nil).keep K4 List.not_mem_nil).keep K5 List.not_mem_nil).other W7 (Or.inr (slot_ne (Or.inr (oW hw 189 rfl)) (Or.inr (oW hw 187 rfl)) (by decide) (t := (.object "java/util/List")) (t' := .int) (by decide) (by decide)))) (((((E_a1.keep K2).keep K3).keep K4).keep K5).wr W7) (Or.inr ⟨(oW hw 189 rfl), rfl, hnm⟩) (oW hw 87 rfl) (ty := (.object "java/util/List")) (by decide) rfl rfl (g := (mkF m 42 #[.val (.ref a1), .val (.int 2), .val (.ref r2), .val (.ref r3), .val (.ref r4), .val (.ref r5), .val (.ref (w 4))] [(.ref r2), (.ref a1)])) rfl rfl (hb hby d13_42)
  have O8 := O7.wr W8 g_a1
  have N8 := Fr.snoc X8 N7 g_a1
  have Kp8 : Keep h0 h8 [a1] := Kp7.wr W8 (Or.inl (List.mem_of_getElem? (i := 0) rfl))
  have Fw8 := (((((F_shifts_a1.keep K2 List.not_mem_nil).keep K3 List.not_mem_nil).keep K4 List.not_mem_nil).keep K5 List.not_mem_nil).other W7 (Or.inr (slot_ne (Or.inr (oW hw 189 rfl)) (Or.inr (oW hw 187 rfl)) (by decide) (t := (.object "java/util/List")) (t' := .int) (by decide) (by decide)))).same W8
  refine oS (fun t k => st8 t k) ?_
  show oG _ _ _ _ _ _ _ (T8.setTop (mkF m 45 #[.val (.ref a1), .val (.int 2), .val (.ref r2), .val (.ref r3), .val (.ref r4), .val (.ref r5), .val (.ref (w 4))] []))
  try clear st8 X7 e7
  try clear T7
  refine oS (fun t k => XS.aloadN X8.here hx rfl (hb hby d13_45) rfl rfl k) ?_
  refine oS (fun t k => XS.aloadN X8.here hx rfl (hb hby d13_46) rfl rfl k) ?_
  obtain ⟨T9, h9, X9, e9, W9, st9⟩ := putF X8 hx hZ hown (host := "") (Or.inl (oW hw 190 rfl)) Via.refl e8 ((((((F_staff_a1.keep K2 List.not_mem_nil).keep K3 List.not_mem_nil).keep K4 List.not_mem_nil).keep K5 List.not_mem_nil).other W7 (Or.inr (slot_ne (Or.inr (oW hw 191 rfl)) (Or.inr (oW hw 187 rfl)) (by decide) (t := (.object "java/util/List")) (t' := .int) (by decide) (by decide)))).other W8 (Or.inr (slot_ne (Or.inr (oW hw 191 rfl)) (Or.inr (oW hw 189 rfl)) (by decide) (t := (.object "java/util/List")) (t' := (.object "java/util/List")) (by decide) (by decide)))) ((((((E_a1.keep K2).keep K3).keep K4).keep K5).wr W7).wr W8) (Or.inr ⟨(oW hw 191 rfl), rfl, hnm⟩) (oW hw 87 rfl) (ty := (.object "java/util/List")) (by decide) rfl rfl (g := (mkF m 47 #[.val (.ref a1), .val (.int 2), .val (.ref r2), .val (.ref r3), .val (.ref r4), .val (.ref r5), .val (.ref (w 4))] [(.ref r3), (.ref a1)])) rfl rfl (hb hby d13_47)
  have O9 := O8.wr W9 g_a1
  have N9 := Fr.snoc X9 N8 g_a1
  have Kp9 : Keep h0 h9 [a1] := Kp8.wr W9 (Or.inl (List.mem_of_getElem? (i := 0) rfl))
  have Fw9 := ((((((F_staff_a1.keep K2 List.not_mem_nil).keep K3 List.not_mem_nil).keep K4 List.not_mem_nil).keep K5 List.not_mem_nil).other W7 (Or.inr (slot_ne (Or.inr (oW hw 191 rfl)) (Or.inr (oW hw 187 rfl)) (by decide) (t := (.object "java/util/List")) (t' := .int) (by decide) (by decide)))).other W8 (Or.inr (slot_ne (Or.inr (oW hw 191 rfl)) (Or.inr (oW hw 189 rfl)) (by decide) (t := (.object "java/util/List")) (t' := (.object "java/util/List")) (by decide) (by decide)))).same W9
  refine oS (fun t k => st9 t k) ?_
  try clear st9 X8 e8
  try clear T8
  refine oS (fun t k => XS.aloadN X9.here hx rfl (hb hby d13_50) rfl rfl k) ?_
  refine oS (fun t k => XS.aload X9.here hx rfl (hb hby d13_51) rfl rfl k) ?_
  obtain ⟨T10, h10, X10, e10, W10, st10⟩ := putF X9 hx hZ hown (host := "") (Or.inl (oW hw 192 rfl)) Via.refl e9 (((((((F_onRequests_a1.keep K2 List.not_mem_nil).keep K3 List.not_mem_nil).keep K4 List.not_mem_nil).keep K5 List.not_mem_nil).other W7 (Or.inr (slot_ne (Or.inr (oW hw 193 rfl)) (Or.inr (oW hw 187 rfl)) (by decide) (t := (.object "java/util/List")) (t' := .int) (by decide) (by decide)))).other W8 (Or.inr (slot_ne (Or.inr (oW hw 193 rfl)) (Or.inr (oW hw 189 rfl)) (by decide) (t := (.object "java/util/List")) (t' := (.object "java/util/List")) (by decide) (by decide)))).other W9 (Or.inr (slot_ne (Or.inr (oW hw 193 rfl)) (Or.inr (oW hw 191 rfl)) (by decide) (t := (.object "java/util/List")) (t' := (.object "java/util/List")) (by decide) (by decide)))) (((((((E_a1.keep K2).keep K3).keep K4).keep K5).wr W7).wr W8).wr W9) (Or.inr ⟨(oW hw 193 rfl), rfl, hnm⟩) (oW hw 87 rfl) (ty := (.object "java/util/List")) (by decide) rfl rfl (g := (mkF m 53 #[.val (.ref a1), .val (.int 2), .val (.ref r2), .val (.ref r3), .val (.ref r4), .val (.ref r5), .val (.ref (w 4))] [(.ref r4), (.ref a1)])) rfl rfl (hb hby d13_53)
  have O10 := O9.wr W10 g_a1
  have N10 := Fr.snoc X10 N9 g_a1
  have Kp10 : Keep h0 h10 [a1] := Kp9.wr W10 (Or.inl (List.mem_of_getElem? (i := 0) rfl))
  have Fw10 := (((((((F_onRequests_a1.keep K2 List.not_mem_nil).keep K3 List.not_mem_nil).keep K4 List.not_mem_nil).keep K5 List.not_mem_nil).other W7 (Or.inr (slot_ne (Or.inr (oW hw 193 rfl)) (Or.inr (oW hw 187 rfl)) (by decide) (t := (.object "java/util/List")) (t' := .int) (by decide) (by decide)))).other W8 (Or.inr (slot_ne (Or.inr (oW hw 193 rfl)) (Or.inr (oW hw 189 rfl)) (by decide) (t := (.object "java/util/List")) (t' := (.object "java/util/List")) (by decide) (by decide)))).other W9 (Or.inr (slot_ne (Or.inr (oW hw 193 rfl)) (Or.inr (oW hw 191 rfl)) (by decide) (t := (.object "java/util/List")) (t' := (.object "java/util/List")) (by decide) (by decide)))).same W10
  refine oS (fun t k => st10 t k) ?_
  try clear st10 X9 e9
  try clear T9
  refine oS (fun t k => XS.aloadN X10.here hx rfl (hb hby d13_56) rfl rfl k) ?_
  show oG _ _ _ _ _ _ _ (T10.setTop (mkF m 57 #[.val (.ref a1), .val (.int 2), .val (.ref r2), .val (.ref r3), .val (.ref r4), .val (.ref r5), .val (.ref (w 4))] [(.ref a1)]))
  refine oS (fun t k => XS.aload X10.here hx rfl (hb hby d13_57) rfl rfl k) ?_
  obtain ⟨T11, h11, X11, e11, W11, st11⟩ := putF X10 hx hZ hown (host := "") (Or.inl (oW hw 194 rfl)) Via.refl e10 ((((((((F_offRequests_a1.keep K2 List.not_mem_nil).keep K3 List.not_mem_nil).keep K4 List.not_mem_nil).keep K5 List.not_mem_nil).other W7 (Or.inr (slot_ne (Or.inr (oW hw 195 rfl)) (Or.inr (oW hw 187 rfl)) (by decide) (t := (.object "java/util/List")) (t' := .int) (by decide) (by decide)))).other W8 (Or.inr (slot_ne (Or.inr (oW hw 195 rfl)) (Or.inr (oW hw 189 rfl)) (by decide) (t := (.object "java/util/List")) (t' := (.object "java/util/List")) (by decide) (by decide)))).other W9 (Or.inr (slot_ne (Or.inr (oW hw 195 rfl)) (Or.inr (oW hw 191 rfl)) (by decide) (t := (.object "java/util/List")) (t' := (.object "java/util/List")) (by decide) (by decide)))).other W10 (Or.inr (slot_ne (Or.inr (oW hw 195 rfl)) (Or.inr (oW hw 193 rfl)) (by decide) (t := (.object "java/util/List")) (t' := (.object "java/util/List")) (by decide) (by decide)))) ((((((((E_a1.keep K2).keep K3).keep K4).keep K5).wr W7).wr W8).wr W9).wr W10) (Or.inr ⟨(oW hw 195 rfl), rfl, hnm⟩) (oW hw 87 rfl) (ty := (.object "java/util/List")) (by decide) rfl rfl (g := (mkF m 59 #[.val (.ref a1), .val (.int 2), .val (.ref r2), .val (.ref r3), .val (.ref r4), .val (.ref r5), .val (.ref (w 4))] [(.ref r5), (.ref a1)])) rfl rfl (hb hby d13_59)
  have O11 := O10.wr W11 g_a1
  have N11 := Fr.snoc X11 N10 g_a1
  have Kp11 : Keep h0 h11 [a1] := Kp10.wr W11 (Or.inl (List.mem_of_getElem? (i := 0) rfl))
  have Fw11 := ((((((((F_offRequests_a1.keep K2 List.not_mem_nil).keep K3 List.not_mem_nil).keep K4 List.not_mem_nil).keep K5 List.not_mem_nil).other W7 (Or.inr (slot_ne (Or.inr (oW hw 195 rfl)) (Or.inr (oW hw 187 rfl)) (by decide) (t := (.object "java/util/List")) (t' := .int) (by decide) (by decide)))).other W8 (Or.inr (slot_ne (Or.inr (oW hw 195 rfl)) (Or.inr (oW hw 189 rfl)) (by decide) (t := (.object "java/util/List")) (t' := (.object "java/util/List")) (by decide) (by decide)))).other W9 (Or.inr (slot_ne (Or.inr (oW hw 195 rfl)) (Or.inr (oW hw 191 rfl)) (by decide) (t := (.object "java/util/List")) (t' := (.object "java/util/List")) (by decide) (by decide)))).other W10 (Or.inr (slot_ne (Or.inr (oW hw 195 rfl)) (Or.inr (oW hw 193 rfl)) (by decide) (t := (.object "java/util/List")) (t' := (.object "java/util/List")) (by decide) (by decide)))).same W11
  refine oS (fun t k => st11 t k) ?_
  try clear st11 X10 e10
  try clear T10
  refine oS (fun t k => XS.aloadN X11.here hx rfl (hb hby d13_62) rfl rfl k) ?_
  refine oS (fun t k => XS.aload X11.here hx rfl (hb hby d13_63) rfl rfl k) ?_
  obtain ⟨T12, h12, X12, e12, W12, st12⟩ := putF X11 hx hZ hown (host := "") (Or.inl (oW hw 196 rfl)) Via.refl e11 (((((((((F_cover_a1.keep K2 List.not_mem_nil).keep K3 List.not_mem_nil).keep K4 List.not_mem_nil).keep K5 List.not_mem_nil).other W7 (Or.inr (slot_ne (Or.inr (oW hw 197 rfl)) (Or.inr (oW hw 187 rfl)) (by decide) (t := (.object "java/util/List")) (t' := .int) (by decide) (by decide)))).other W8 (Or.inr (slot_ne (Or.inr (oW hw 197 rfl)) (Or.inr (oW hw 189 rfl)) (by decide) (t := (.object "java/util/List")) (t' := (.object "java/util/List")) (by decide) (by decide)))).other W9 (Or.inr (slot_ne (Or.inr (oW hw 197 rfl)) (Or.inr (oW hw 191 rfl)) (by decide) (t := (.object "java/util/List")) (t' := (.object "java/util/List")) (by decide) (by decide)))).other W10 (Or.inr (slot_ne (Or.inr (oW hw 197 rfl)) (Or.inr (oW hw 193 rfl)) (by decide) (t := (.object "java/util/List")) (t' := (.object "java/util/List")) (by decide) (by decide)))).other W11 (Or.inr (slot_ne (Or.inr (oW hw 197 rfl)) (Or.inr (oW hw 195 rfl)) (by decide) (t := (.object "java/util/List")) (t' := (.object "java/util/List")) (by decide) (by decide)))) (((((((((E_a1.keep K2).keep K3).keep K4).keep K5).wr W7).wr W8).wr W9).wr W10).wr W11) (Or.inr ⟨(oW hw 197 rfl), rfl, hnm⟩) (oW hw 87 rfl) (ty := (.object "java/util/List")) (by decide) rfl rfl (g := (mkF m 65 #[.val (.ref a1), .val (.int 2), .val (.ref r2), .val (.ref r3), .val (.ref r4), .val (.ref r5), .val (.ref (w 4))] [(.ref (w 4)), (.ref a1)])) rfl rfl (hb hby d13_65)
  have O12 := O11.wr W12 g_a1
  have N12 := Fr.snoc X12 N11 g_a1
  have Kp12 : Keep h0 h12 [a1] := Kp11.wr W12 (Or.inl (List.mem_of_getElem? (i := 0) rfl))
  have Fw12 := (((((((((F_cover_a1.keep K2 List.not_mem_nil).keep K3 List.not_mem_nil).keep K4 List.not_mem_nil).keep K5 List.not_mem_nil).other W7 (Or.inr (slot_ne (Or.inr (oW hw 197 rfl)) (Or.inr (oW hw 187 rfl)) (by decide) (t := (.object "java/util/List")) (t' := .int) (by decide) (by decide)))).other W8 (Or.inr (slot_ne (Or.inr (oW hw 197 rfl)) (Or.inr (oW hw 189 rfl)) (by decide) (t := (.object "java/util/List")) (t' := (.object "java/util/List")) (by decide) (by decide)))).other W9 (Or.inr (slot_ne (Or.inr (oW hw 197 rfl)) (Or.inr (oW hw 191 rfl)) (by decide) (t := (.object "java/util/List")) (t' := (.object "java/util/List")) (by decide) (by decide)))).other W10 (Or.inr (slot_ne (Or.inr (oW hw 197 rfl)) (Or.inr (oW hw 193 rfl)) (by decide) (t := (.object "java/util/List")) (t' := (.object "java/util/List")) (by decide) (by decide)))).other W11 (Or.inr (slot_ne (Or.inr (oW hw 197 rfl)) (Or.inr (oW hw 195 rfl)) (by decide) (t := (.object "java/util/List")) (t' := (.object "java/util/List")) (by decide) (by decide)))).same W12
  refine oS (fun t k => st12 t k) ?_
  try clear st12 X11 e11
  try clear T11
  exact own_ret (v := none) X12 (fun _ => rfl) Bd.notSynchronized (fun fs hr => X12.returnOut hx Bd.returns (hb hby d13_68) hr) (by rw [e12]; exact ⟨r2, r3, r4, r5, rfl, N12, Kp12, szrr2, szrr3, szrr4, szrr5, (((((Fw7.other W8 (Or.inr (slot_ne (Or.inr (oW hw 187 rfl)) (Or.inr (oW hw 189 rfl)) (by decide) (t := .int) (t' := (.object "java/util/List")) (by decide) (by decide)))).other W9 (Or.inr (slot_ne (Or.inr (oW hw 187 rfl)) (Or.inr (oW hw 191 rfl)) (by decide) (t := .int) (t' := (.object "java/util/List")) (by decide) (by decide)))).other W10 (Or.inr (slot_ne (Or.inr (oW hw 187 rfl)) (Or.inr (oW hw 193 rfl)) (by decide) (t := .int) (t' := (.object "java/util/List")) (by decide) (by decide)))).other W11 (Or.inr (slot_ne (Or.inr (oW hw 187 rfl)) (Or.inr (oW hw 195 rfl)) (by decide) (t := .int) (t' := (.object "java/util/List")) (by decide) (by decide)))).other W12 (Or.inr (slot_ne (Or.inr (oW hw 187 rfl)) (Or.inr (oW hw 197 rfl)) (by decide) (t := .int) (t' := (.object "java/util/List")) (by decide) (by decide)))), ((((Fw8.other W9 (Or.inr (slot_ne (Or.inr (oW hw 189 rfl)) (Or.inr (oW hw 191 rfl)) (by decide) (t := (.object "java/util/List")) (t' := (.object "java/util/List")) (by decide) (by decide)))).other W10 (Or.inr (slot_ne (Or.inr (oW hw 189 rfl)) (Or.inr (oW hw 193 rfl)) (by decide) (t := (.object "java/util/List")) (t' := (.object "java/util/List")) (by decide) (by decide)))).other W11 (Or.inr (slot_ne (Or.inr (oW hw 189 rfl)) (Or.inr (oW hw 195 rfl)) (by decide) (t := (.object "java/util/List")) (t' := (.object "java/util/List")) (by decide) (by decide)))).other W12 (Or.inr (slot_ne (Or.inr (oW hw 189 rfl)) (Or.inr (oW hw 197 rfl)) (by decide) (t := (.object "java/util/List")) (t' := (.object "java/util/List")) (by decide) (by decide)))), (((Fw9.other W10 (Or.inr (slot_ne (Or.inr (oW hw 191 rfl)) (Or.inr (oW hw 193 rfl)) (by decide) (t := (.object "java/util/List")) (t' := (.object "java/util/List")) (by decide) (by decide)))).other W11 (Or.inr (slot_ne (Or.inr (oW hw 191 rfl)) (Or.inr (oW hw 195 rfl)) (by decide) (t := (.object "java/util/List")) (t' := (.object "java/util/List")) (by decide) (by decide)))).other W12 (Or.inr (slot_ne (Or.inr (oW hw 191 rfl)) (Or.inr (oW hw 197 rfl)) (by decide) (t := (.object "java/util/List")) (t' := (.object "java/util/List")) (by decide) (by decide)))), ((Fw10.other W11 (Or.inr (slot_ne (Or.inr (oW hw 193 rfl)) (Or.inr (oW hw 195 rfl)) (by decide) (t := (.object "java/util/List")) (t' := (.object "java/util/List")) (by decide) (by decide)))).other W12 (Or.inr (slot_ne (Or.inr (oW hw 193 rfl)) (Or.inr (oW hw 197 rfl)) (by decide) (t := (.object "java/util/List")) (t' := (.object "java/util/List")) (by decide) (by decide)))), (Fw11.other W12 (Or.inr (slot_ne (Or.inr (oW hw 195 rfl)) (Or.inr (oW hw 197 rfl)) (by decide) (t := (.object "java/util/List")) (t' := (.object "java/util/List")) (by decide) (by decide)))), Fw12, (((((((((P2_0.keep K3).keep K4).keep K5).wr W7).wr W8).wr W9).wr W10).wr W11).wr W12), (((((((((P2_1.keep K3 List.not_mem_nil).keep K4 List.not_mem_nil).keep K5 List.not_mem_nil).other W7 (Or.inl (Ne.symm ne_a1_r2))).other W8 (Or.inl (Ne.symm ne_a1_r2))).other W9 (Or.inl (Ne.symm ne_a1_r2))).other W10 (Or.inl (Ne.symm ne_a1_r2))).other W11 (Or.inl (Ne.symm ne_a1_r2))).other W12 (Or.inl (Ne.symm ne_a1_r2))), (((((((((P2_2.keep K3 List.not_mem_nil).keep K4 List.not_mem_nil).keep K5 List.not_mem_nil).other W7 (Or.inl (Ne.symm ne_a1_r2))).other W8 (Or.inl (Ne.symm ne_a1_r2))).other W9 (Or.inl (Ne.symm ne_a1_r2))).other W10 (Or.inl (Ne.symm ne_a1_r2))).other W11 (Or.inl (Ne.symm ne_a1_r2))).other W12 (Or.inl (Ne.symm ne_a1_r2))), ((((((((P3_0.keep K4).keep K5).wr W7).wr W8).wr W9).wr W10).wr W11).wr W12), ((((((((P3_1.keep K4 List.not_mem_nil).keep K5 List.not_mem_nil).other W7 (Or.inl (Ne.symm ne_a1_r3))).other W8 (Or.inl (Ne.symm ne_a1_r3))).other W9 (Or.inl (Ne.symm ne_a1_r3))).other W10 (Or.inl (Ne.symm ne_a1_r3))).other W11 (Or.inl (Ne.symm ne_a1_r3))).other W12 (Or.inl (Ne.symm ne_a1_r3))), ((((((((P3_2.keep K4 List.not_mem_nil).keep K5 List.not_mem_nil).other W7 (Or.inl (Ne.symm ne_a1_r3))).other W8 (Or.inl (Ne.symm ne_a1_r3))).other W9 (Or.inl (Ne.symm ne_a1_r3))).other W10 (Or.inl (Ne.symm ne_a1_r3))).other W11 (Or.inl (Ne.symm ne_a1_r3))).other W12 (Or.inl (Ne.symm ne_a1_r3))), (((((((P4_0.keep K5).wr W7).wr W8).wr W9).wr W10).wr W11).wr W12), (((((((P4_1.keep K5 List.not_mem_nil).other W7 (Or.inl (Ne.symm ne_a1_r4))).other W8 (Or.inl (Ne.symm ne_a1_r4))).other W9 (Or.inl (Ne.symm ne_a1_r4))).other W10 (Or.inl (Ne.symm ne_a1_r4))).other W11 (Or.inl (Ne.symm ne_a1_r4))).other W12 (Or.inl (Ne.symm ne_a1_r4))), (((((((P4_2.keep K5 List.not_mem_nil).other W7 (Or.inl (Ne.symm ne_a1_r4))).other W8 (Or.inl (Ne.symm ne_a1_r4))).other W9 (Or.inl (Ne.symm ne_a1_r4))).other W10 (Or.inl (Ne.symm ne_a1_r4))).other W11 (Or.inl (Ne.symm ne_a1_r4))).other W12 (Or.inl (Ne.symm ne_a1_r4))), ((((((P5_0.wr W7).wr W8).wr W9).wr W10).wr W11).wr W12), ((((((P5_1.other W7 (Or.inl (Ne.symm ne_a1_r5))).other W8 (Or.inl (Ne.symm ne_a1_r5))).other W9 (Or.inl (Ne.symm ne_a1_r5))).other W10 (Or.inl (Ne.symm ne_a1_r5))).other W11 (Or.inl (Ne.symm ne_a1_r5))).other W12 (Or.inl (Ne.symm ne_a1_r5))), ((((((P5_2.other W7 (Or.inl (Ne.symm ne_a1_r5))).other W8 (Or.inl (Ne.symm ne_a1_r5))).other W9 (Or.inl (Ne.symm ne_a1_r5))).other W10 (Or.inl (Ne.symm ne_a1_r5))).other W11 (Or.inl (Ne.symm ne_a1_r5))).other W12 (Or.inl (Ne.symm ne_a1_r5)))⟩) (by decide) (by decide)
theorem d29_0 : decode prog_83_method_8_code 0 = .ok (.aload_n 0, 1) := by decide +kernel
theorem d29_1 : decode prog_83_method_8_code 1 = .ok (.getfield 19, 3) := by decide +kernel
theorem d29_4 : decode prog_83_method_8_code 4 = .ok (.areturn, 1) := by decide +kernel
abbrev mY28 : MethodName := (⟨"com/example/shiftweave/shiftweave/rostering/Ward", "shifts", "()Ljava/util/List;"⟩ : MethodName)
theorem ef_29_r (m : MethodId) (x0 : Addr) : entryFrame m #[(.ref x0)] 1 = mkF m 0 #[.val (.ref x0)] [] := by first | (simp [entryFrame, mkF, argsToLocals, Value.category]; done) | rfl
def Q_w_shifts (Z : State) (a1 : Addr) (a2 : Addr) (h0 : Heap) (n0 : Nat) (v : Option Value) (h : Heap) (L : List Loc) : Prop := v = some (.ref a2) ∧ Fr n0 L ∧ h = h0
theorem rm_w_shifts (l : Launch) (Z : State) (a0 : Array Value) (hw : ∀ d ∈ tables_1, d.before a0 Z = true) (ws : List Jvm.Cond) (a1 : Addr) (a2 : Addr) (h0 : Heap) (n0 : Nat) (O0 : Old Z n0 h0) (F_shifts_a1 : Fld Z h0 a1 "com/example/shiftweave/shiftweave/rostering/Ward" "shifts" "Ljava/util/List;" (.ref a2)) :
    MetFree l mY28 (head1 (Jvm.Cond.code mY28 prog_83_method_8_code 1 (some (.object "java/util/List")) :: ws) R_3) (fun a U => a = #[(.ref a1)] ∧ Z.Warmed39 U.vm ∧ U.heap = h0) (fun _ _ _ _ _ => True) (fun _ U o U' => ∃ v L, o = .returned v ∧ Q_w_shifts Z a1 a2 h0 n0 v U'.heap L ∧ FrameEnd U o U' L R_3.cells R_3.slots) := by
  refine MetFree.of_bodySF (plainFor_of_name pn_13) hisR ?_
  intro p e s m args below meth c s₁ Bd hml0 hP hK
  obtain ⟨rfl, hZ, hh⟩ := hP
  have hx := Bd.exec
  have hby := Bd.bytes
  have hml : c.maxLocals = 1 := hml0
  have hown : s.vm.findClass "com/example/shiftweave/shiftweave/rostering/Ward" = some m.cls := findClass_of_methodNamed Bd.named
  have hnm := (name_of_methodNamed Bd.named Bd.method).1
  have X0 : Stand p l e R_3 s m #[(.ref a1)] below meth c s₁ [] 0 0 := Stand.of_body Bd
  have e0 : s₁.heap = h0 := by rw [← hh, Bd.state]; rfl
  have N0 := Fr.nil n0
  show oG p e below s (Q_w_shifts Z a1 a2 h0 n0) R_3.cells R_3.slots _
  refine oS (fun t k => castTop (ef_29_r m a1) k) ?_
  show oG _ _ _ _ _ _ _ (s₁.setTop (mkF m 0 #[.val (.ref a1)] []))
  refine oS (fun t k => XS.aloadN X0.here hx rfl (hb hby d29_0) rfl rfl k) ?_
  obtain ⟨T1, X1, e1, st1⟩ := getF X0 hx hZ hown (host := "") (Or.inl (oW hw 188 rfl)) Via.refl e0 F_shifts_a1 (g := (mkF m 1 #[.val (.ref a1)] [(.ref a1)])) rfl rfl (hb hby d29_1)
  refine oS (fun t k => st1 t k) ?_
  try clear st1
  exact own_ret (v := some (.ref a2)) X1 (fun h => by rw [Bd.returns] at h; cases h) Bd.notSynchronized (fun fs hr => retOut X1 hx (t := (.object "java/util/List")) Bd.returns rfl (Or.inr (Or.inr (Or.inr (Or.inr ⟨rfl, rfl, rfl⟩)))) (hb hby d29_4) hr) (by rw [e1]; exact ⟨rfl, N0, rfl⟩) (by decide) (by decide)
theorem d31_0 : decode prog_83_method_9_code 0 = .ok (.aload_n 0, 1) := by decide +kernel
theorem d31_1 : decode prog_83_method_9_code 1 = .ok (.getfield 23, 3) := by decide +kernel
theorem d31_4 : decode prog_83_method_9_code 4 = .ok (.areturn, 1) := by decide +kernel
abbrev mY29 : MethodName := (⟨"com/example/shiftweave/shiftweave/rostering/Ward", "staff", "()Ljava/util/List;"⟩ : MethodName)
theorem ef_31_r (m : MethodId) (x0 : Addr) : entryFrame m #[(.ref x0)] 1 = mkF m 0 #[.val (.ref x0)] [] := by first | (simp [entryFrame, mkF, argsToLocals, Value.category]; done) | rfl
def Q_w_staff (Z : State) (a1 : Addr) (a2 : Addr) (h0 : Heap) (n0 : Nat) (v : Option Value) (h : Heap) (L : List Loc) : Prop := v = some (.ref a2) ∧ Fr n0 L ∧ h = h0
theorem rm_w_staff (l : Launch) (Z : State) (a0 : Array Value) (hw : ∀ d ∈ tables_1, d.before a0 Z = true) (ws : List Jvm.Cond) (a1 : Addr) (a2 : Addr) (h0 : Heap) (n0 : Nat) (O0 : Old Z n0 h0) (F_staff_a1 : Fld Z h0 a1 "com/example/shiftweave/shiftweave/rostering/Ward" "staff" "Ljava/util/List;" (.ref a2)) :
    MetFree l mY29 (head1 (Jvm.Cond.code mY29 prog_83_method_9_code 1 (some (.object "java/util/List")) :: ws) R_3) (fun a U => a = #[(.ref a1)] ∧ Z.Warmed39 U.vm ∧ U.heap = h0) (fun _ _ _ _ _ => True) (fun _ U o U' => ∃ v L, o = .returned v ∧ Q_w_staff Z a1 a2 h0 n0 v U'.heap L ∧ FrameEnd U o U' L R_3.cells R_3.slots) := by
  refine MetFree.of_bodySF (plainFor_of_name pn_13) hisR ?_
  intro p e s m args below meth c s₁ Bd hml0 hP hK
  obtain ⟨rfl, hZ, hh⟩ := hP
  have hx := Bd.exec
  have hby := Bd.bytes
  have hml : c.maxLocals = 1 := hml0
  have hown : s.vm.findClass "com/example/shiftweave/shiftweave/rostering/Ward" = some m.cls := findClass_of_methodNamed Bd.named
  have hnm := (name_of_methodNamed Bd.named Bd.method).1
  have X0 : Stand p l e R_3 s m #[(.ref a1)] below meth c s₁ [] 0 0 := Stand.of_body Bd
  have e0 : s₁.heap = h0 := by rw [← hh, Bd.state]; rfl
  have N0 := Fr.nil n0
  show oG p e below s (Q_w_staff Z a1 a2 h0 n0) R_3.cells R_3.slots _
  refine oS (fun t k => castTop (ef_31_r m a1) k) ?_
  show oG _ _ _ _ _ _ _ (s₁.setTop (mkF m 0 #[.val (.ref a1)] []))
  refine oS (fun t k => XS.aloadN X0.here hx rfl (hb hby d31_0) rfl rfl k) ?_
  obtain ⟨T1, X1, e1, st1⟩ := getF X0 hx hZ hown (host := "") (Or.inl (oW hw 190 rfl)) Via.refl e0 F_staff_a1 (g := (mkF m 1 #[.val (.ref a1)] [(.ref a1)])) rfl rfl (hb hby d31_1)
  refine oS (fun t k => st1 t k) ?_
  try clear st1
  exact own_ret (v := some (.ref a2)) X1 (fun h => by rw [Bd.returns] at h; cases h) Bd.notSynchronized (fun fs hr => retOut X1 hx (t := (.object "java/util/List")) Bd.returns rfl (Or.inr (Or.inr (Or.inr (Or.inr ⟨rfl, rfl, rfl⟩)))) (hb hby d31_4) hr) (by rw [e1]; exact ⟨rfl, N0, rfl⟩) (by decide) (by decide)
theorem d40_0 : decode prog_83_method_10_code 0 = .ok (.aload_n 0, 1) := by decide +kernel
theorem d40_1 : decode prog_83_method_10_code 1 = .ok (.getfield 26, 3) := by decide +kernel
theorem d40_4 : decode prog_83_method_10_code 4 = .ok (.areturn, 1) := by decide +kernel
abbrev mY30 : MethodName := (⟨"com/example/shiftweave/shiftweave/rostering/Ward", "onRequests", "()Ljava/util/List;"⟩ : MethodName)
theorem ef_40_r (m : MethodId) (x0 : Addr) : entryFrame m #[(.ref x0)] 1 = mkF m 0 #[.val (.ref x0)] [] := by first | (simp [entryFrame, mkF, argsToLocals, Value.category]; done) | rfl
def Q_w_onRequests (Z : State) (a1 : Addr) (a2 : Addr) (h0 : Heap) (n0 : Nat) (v : Option Value) (h : Heap) (L : List Loc) : Prop := v = some (.ref a2) ∧ Fr n0 L ∧ h = h0
theorem rm_w_onRequests (l : Launch) (Z : State) (a0 : Array Value) (hw : ∀ d ∈ tables_1, d.before a0 Z = true) (ws : List Jvm.Cond) (a1 : Addr) (a2 : Addr) (h0 : Heap) (n0 : Nat) (O0 : Old Z n0 h0) (F_onRequests_a1 : Fld Z h0 a1 "com/example/shiftweave/shiftweave/rostering/Ward" "onRequests" "Ljava/util/List;" (.ref a2)) :
    MetFree l mY30 (head1 (Jvm.Cond.code mY30 prog_83_method_10_code 1 (some (.object "java/util/List")) :: ws) R_3) (fun a U => a = #[(.ref a1)] ∧ Z.Warmed39 U.vm ∧ U.heap = h0) (fun _ _ _ _ _ => True) (fun _ U o U' => ∃ v L, o = .returned v ∧ Q_w_onRequests Z a1 a2 h0 n0 v U'.heap L ∧ FrameEnd U o U' L R_3.cells R_3.slots) := by
  refine MetFree.of_bodySF (plainFor_of_name pn_13) hisR ?_
  intro p e s m args below meth c s₁ Bd hml0 hP hK
  obtain ⟨rfl, hZ, hh⟩ := hP
  have hx := Bd.exec
  have hby := Bd.bytes
  have hml : c.maxLocals = 1 := hml0
  have hown : s.vm.findClass "com/example/shiftweave/shiftweave/rostering/Ward" = some m.cls := findClass_of_methodNamed Bd.named
  have hnm := (name_of_methodNamed Bd.named Bd.method).1
  have X0 : Stand p l e R_3 s m #[(.ref a1)] below meth c s₁ [] 0 0 := Stand.of_body Bd
  have e0 : s₁.heap = h0 := by rw [← hh, Bd.state]; rfl
  have N0 := Fr.nil n0
  show oG p e below s (Q_w_onRequests Z a1 a2 h0 n0) R_3.cells R_3.slots _
  refine oS (fun t k => castTop (ef_40_r m a1) k) ?_
  show oG _ _ _ _ _ _ _ (s₁.setTop (mkF m 0 #[.val (.ref a1)] []))
  refine oS (fun t k => XS.aloadN X0.here hx rfl (hb hby d40_0) rfl rfl k) ?_
  obtain ⟨T1, X1, e1, st1⟩ := getF X0 hx hZ hown (host := "") (Or.inl (oW hw 192 rfl)) Via.refl e0 F_onRequests_a1 (g := (mkF m 1 #[.val (.ref a1)] [(.ref a1)])) rfl rfl (hb hby d40_1)
  refine oS (fun t k => st1 t k) ?_
  try clear st1
  exact own_ret (v := some (.ref a2)) X1 (fun h => by rw [Bd.returns] at h; cases h) Bd.notSynchronized (fun fs hr => retOut X1 hx (t := (.object "java/util/List")) Bd.returns rfl (Or.inr (Or.inr (Or.inr (Or.inr ⟨rfl, rfl, rfl⟩)))) (hb hby d40_4) hr) (by rw [e1]; exact ⟨rfl, N0, rfl⟩) (by decide) (by decide)
theorem d47_0 : decode prog_83_method_11_code 0 = .ok (.aload_n 0, 1) := by decide +kernel
theorem d47_1 : decode prog_83_method_11_code 1 = .ok (.getfield 29, 3) := by decide +kernel
theorem d47_4 : decode prog_83_method_11_code 4 = .ok (.areturn, 1) := by decide +kernel
abbrev mY31 : MethodName := (⟨"com/example/shiftweave/shiftweave/rostering/Ward", "offRequests", "()Ljava/util/List;"⟩ : MethodName)
theorem ef_47_r (m : MethodId) (x0 : Addr) : entryFrame m #[(.ref x0)] 1 = mkF m 0 #[.val (.ref x0)] [] := by first | (simp [entryFrame, mkF, argsToLocals, Value.category]; done) | rfl
def Q_w_offRequests (Z : State) (a1 : Addr) (a2 : Addr) (h0 : Heap) (n0 : Nat) (v : Option Value) (h : Heap) (L : List Loc) : Prop := v = some (.ref a2) ∧ Fr n0 L ∧ h = h0
theorem rm_w_offRequests (l : Launch) (Z : State) (a0 : Array Value) (hw : ∀ d ∈ tables_1, d.before a0 Z = true) (ws : List Jvm.Cond) (a1 : Addr) (a2 : Addr) (h0 : Heap) (n0 : Nat) (O0 : Old Z n0 h0) (F_offRequests_a1 : Fld Z h0 a1 "com/example/shiftweave/shiftweave/rostering/Ward" "offRequests" "Ljava/util/List;" (.ref a2)) :
    MetFree l mY31 (head1 (Jvm.Cond.code mY31 prog_83_method_11_code 1 (some (.object "java/util/List")) :: ws) R_3) (fun a U => a = #[(.ref a1)] ∧ Z.Warmed39 U.vm ∧ U.heap = h0) (fun _ _ _ _ _ => True) (fun _ U o U' => ∃ v L, o = .returned v ∧ Q_w_offRequests Z a1 a2 h0 n0 v U'.heap L ∧ FrameEnd U o U' L R_3.cells R_3.slots) := by
  refine MetFree.of_bodySF (plainFor_of_name pn_13) hisR ?_
  intro p e s m args below meth c s₁ Bd hml0 hP hK
  obtain ⟨rfl, hZ, hh⟩ := hP
  have hx := Bd.exec
  have hby := Bd.bytes
  have hml : c.maxLocals = 1 := hml0
  have hown : s.vm.findClass "com/example/shiftweave/shiftweave/rostering/Ward" = some m.cls := findClass_of_methodNamed Bd.named
  have hnm := (name_of_methodNamed Bd.named Bd.method).1
  have X0 : Stand p l e R_3 s m #[(.ref a1)] below meth c s₁ [] 0 0 := Stand.of_body Bd
  have e0 : s₁.heap = h0 := by rw [← hh, Bd.state]; rfl
  have N0 := Fr.nil n0
  show oG p e below s (Q_w_offRequests Z a1 a2 h0 n0) R_3.cells R_3.slots _
  refine oS (fun t k => castTop (ef_47_r m a1) k) ?_
  show oG _ _ _ _ _ _ _ (s₁.setTop (mkF m 0 #[.val (.ref a1)] []))
  refine oS (fun t k => XS.aloadN X0.here hx rfl (hb hby d47_0) rfl rfl k) ?_
  obtain ⟨T1, X1, e1, st1⟩ := getF X0 hx hZ hown (host := "") (Or.inl (oW hw 194 rfl)) Via.refl e0 F_offRequests_a1 (g := (mkF m 1 #[.val (.ref a1)] [(.ref a1)])) rfl rfl (hb hby d47_1)
  refine oS (fun t k => st1 t k) ?_
  try clear st1
  exact own_ret (v := some (.ref a2)) X1 (fun h => by rw [Bd.returns] at h; cases h) Bd.notSynchronized (fun fs hr => retOut X1 hx (t := (.object "java/util/List")) Bd.returns rfl (Or.inr (Or.inr (Or.inr (Or.inr ⟨rfl, rfl, rfl⟩)))) (hb hby d47_4) hr) (by rw [e1]; exact ⟨rfl, N0, rfl⟩) (by decide) (by decide)
theorem d34_0 : decode prog_83_method_12_code 0 = .ok (.aload_n 0, 1) := by decide +kernel
theorem d34_1 : decode prog_83_method_12_code 1 = .ok (.getfield 32, 3) := by decide +kernel
theorem d34_4 : decode prog_83_method_12_code 4 = .ok (.areturn, 1) := by decide +kernel
abbrev mY32 : MethodName := (⟨"com/example/shiftweave/shiftweave/rostering/Ward", "cover", "()Ljava/util/List;"⟩ : MethodName)
theorem ef_34_r (m : MethodId) (x0 : Addr) : entryFrame m #[(.ref x0)] 1 = mkF m 0 #[.val (.ref x0)] [] := by first | (simp [entryFrame, mkF, argsToLocals, Value.category]; done) | rfl
def Q_w_cover (Z : State) (a1 : Addr) (a2 : Addr) (h0 : Heap) (n0 : Nat) (v : Option Value) (h : Heap) (L : List Loc) : Prop := v = some (.ref a2) ∧ Fr n0 L ∧ h = h0
theorem rm_w_cover (l : Launch) (Z : State) (a0 : Array Value) (hw : ∀ d ∈ tables_1, d.before a0 Z = true) (ws : List Jvm.Cond) (a1 : Addr) (a2 : Addr) (h0 : Heap) (n0 : Nat) (O0 : Old Z n0 h0) (F_cover_a1 : Fld Z h0 a1 "com/example/shiftweave/shiftweave/rostering/Ward" "cover" "Ljava/util/List;" (.ref a2)) :
    MetFree l mY32 (head1 (Jvm.Cond.code mY32 prog_83_method_12_code 1 (some (.object "java/util/List")) :: ws) R_3) (fun a U => a = #[(.ref a1)] ∧ Z.Warmed39 U.vm ∧ U.heap = h0) (fun _ _ _ _ _ => True) (fun _ U o U' => ∃ v L, o = .returned v ∧ Q_w_cover Z a1 a2 h0 n0 v U'.heap L ∧ FrameEnd U o U' L R_3.cells R_3.slots) := by
  refine MetFree.of_bodySF (plainFor_of_name pn_13) hisR ?_
  intro p e s m args below meth c s₁ Bd hml0 hP hK
  obtain ⟨rfl, hZ, hh⟩ := hP
  have hx := Bd.exec
  have hby := Bd.bytes
  have hml : c.maxLocals = 1 := hml0
  have hown : s.vm.findClass "com/example/shiftweave/shiftweave/rostering/Ward" = some m.cls := findClass_of_methodNamed Bd.named
  have hnm := (name_of_methodNamed Bd.named Bd.method).1
  have X0 : Stand p l e R_3 s m #[(.ref a1)] below meth c s₁ [] 0 0 := Stand.of_body Bd
  have e0 : s₁.heap = h0 := by rw [← hh, Bd.state]; rfl
  have N0 := Fr.nil n0
  show oG p e below s (Q_w_cover Z a1 a2 h0 n0) R_3.cells R_3.slots _
  refine oS (fun t k => castTop (ef_34_r m a1) k) ?_
  show oG _ _ _ _ _ _ _ (s₁.setTop (mkF m 0 #[.val (.ref a1)] []))
  refine oS (fun t k => XS.aloadN X0.here hx rfl (hb hby d34_0) rfl rfl k) ?_
  obtain ⟨T1, X1, e1, st1⟩ := getF X0 hx hZ hown (host := "") (Or.inl (oW hw 196 rfl)) Via.refl e0 F_cover_a1 (g := (mkF m 1 #[.val (.ref a1)] [(.ref a1)])) rfl rfl (hb hby d34_1)
  refine oS (fun t k => st1 t k) ?_
  try clear st1
  exact own_ret (v := some (.ref a2)) X1 (fun h => by rw [Bd.returns] at h; cases h) Bd.notSynchronized (fun fs hr => retOut X1 hx (t := (.object "java/util/List")) Bd.returns rfl (Or.inr (Or.inr (Or.inr (Or.inr ⟨rfl, rfl, rfl⟩)))) (hb hby d34_4) hr) (by rw [e1]; exact ⟨rfl, N0, rfl⟩) (by decide) (by decide)
theorem d32_0 : decode prog_83_method_7_code 0 = .ok (.aload_n 0, 1) := by decide +kernel
theorem d32_1 : decode prog_83_method_7_code 1 = .ok (.getfield 13, 3) := by decide +kernel
theorem d32_4 : decode prog_83_method_7_code 4 = .ok (.ireturn, 1) := by decide +kernel
abbrev mY33 : MethodName := (⟨"com/example/shiftweave/shiftweave/rostering/Ward", "days", "()I"⟩ : MethodName)
theorem ef_32_r (m : MethodId) (x0 : Addr) : entryFrame m #[(.ref x0)] 1 = mkF m 0 #[.val (.ref x0)] [] := by first | (simp [entryFrame, mkF, argsToLocals, Value.category]; done) | rfl
def Q_w_days (Z : State) (a1 : Addr) (h0 : Heap) (n0 : Nat) (v : Option Value) (h : Heap) (L : List Loc) : Prop := v = some (.int 2) ∧ Fr n0 L ∧ h = h0
theorem rm_w_days (l : Launch) (Z : State) (a0 : Array Value) (hw : ∀ d ∈ tables_1, d.before a0 Z = true) (ws : List Jvm.Cond) (a1 : Addr) (h0 : Heap) (n0 : Nat) (O0 : Old Z n0 h0) (F_days_a1 : Fld Z h0 a1 "com/example/shiftweave/shiftweave/rostering/Ward" "days" "I" (.int 2)) :
    MetFree l mY33 (head1 (Jvm.Cond.code mY33 prog_83_method_7_code 1 (some .int) :: ws) R_3) (fun a U => a = #[(.ref a1)] ∧ Z.Warmed39 U.vm ∧ U.heap = h0) (fun _ _ _ _ _ => True) (fun _ U o U' => ∃ v L, o = .returned v ∧ Q_w_days Z a1 h0 n0 v U'.heap L ∧ FrameEnd U o U' L R_3.cells R_3.slots) := by
  refine MetFree.of_bodySF (plainFor_of_name pn_13) hisR ?_
  intro p e s m args below meth c s₁ Bd hml0 hP hK
  obtain ⟨rfl, hZ, hh⟩ := hP
  have hx := Bd.exec
  have hby := Bd.bytes
  have hml : c.maxLocals = 1 := hml0
  have hown : s.vm.findClass "com/example/shiftweave/shiftweave/rostering/Ward" = some m.cls := findClass_of_methodNamed Bd.named
  have hnm := (name_of_methodNamed Bd.named Bd.method).1
  have X0 : Stand p l e R_3 s m #[(.ref a1)] below meth c s₁ [] 0 0 := Stand.of_body Bd
  have e0 : s₁.heap = h0 := by rw [← hh, Bd.state]; rfl
  have N0 := Fr.nil n0
  show oG p e below s (Q_w_days Z a1 h0 n0) R_3.cells R_3.slots _
  refine oS (fun t k => castTop (ef_32_r m a1) k) ?_
  show oG _ _ _ _ _ _ _ (s₁.setTop (mkF m 0 #[.val (.ref a1)] []))
  refine oS (fun t k => XS.aloadN X0.here hx rfl (hb hby d32_0) rfl rfl k) ?_
  obtain ⟨T1, X1, e1, st1⟩ := getF X0 hx hZ hown (host := "") (Or.inl (oW hw 186 rfl)) Via.refl e0 F_days_a1 (g := (mkF m 1 #[.val (.ref a1)] [(.ref a1)])) rfl rfl (hb hby d32_1)
  refine oS (fun t k => st1 t k) ?_
  try clear st1
  exact own_ret (v := some (.int 2)) X1 (fun h => by rw [Bd.returns] at h; cases h) Bd.notSynchronized (fun fs hr => retOut X1 hx (t := .int) Bd.returns rfl (Or.inl ⟨rfl, Or.inl rfl, _, rfl⟩) (hb hby d32_4) hr) (by rw [e1]; exact ⟨rfl, N0, rfl⟩) (by decide) (by decide)
theorem d44_0 : decode prog_77_method_5_code 0 = .ok (.aload_n 0, 1) := by decide +kernel
theorem d44_1 : decode prog_77_method_5_code 1 = .ok (.getfield 7, 3) := by decide +kernel
theorem d44_4 : decode prog_77_method_5_code 4 = .ok (.ireturn, 1) := by decide +kernel
abbrev mY34 : MethodName := (⟨"com/example/shiftweave/shiftweave/rostering/ShiftRequest", "staff", "()I"⟩ : MethodName)
theorem ef_44_r (m : MethodId) (x0 : Addr) : entryFrame m #[(.ref x0)] 1 = mkF m 0 #[.val (.ref x0)] [] := by first | (simp [entryFrame, mkF, argsToLocals, Value.category]; done) | rfl
def Q_s_staff (Z : State) (a1 : Addr) (p2 : Int32) (h0 : Heap) (n0 : Nat) (v : Option Value) (h : Heap) (L : List Loc) : Prop := v = some (.int p2) ∧ Fr n0 L ∧ h = h0
theorem rm_s_staff (l : Launch) (Z : State) (a0 : Array Value) (hw : ∀ d ∈ tables_1, d.before a0 Z = true) (ws : List Jvm.Cond) (a1 : Addr) (p2 : Int32) (h0 : Heap) (n0 : Nat) (O0 : Old Z n0 h0) (F_staff_a1 : Fld Z h0 a1 "com/example/shiftweave/shiftweave/rostering/ShiftRequest" "staff" "I" (.int p2)) :
    MetFree l mY34 (head1 (Jvm.Cond.code mY34 prog_77_method_5_code 1 (some .int) :: ws) R_3) (fun a U => a = #[(.ref a1)] ∧ Z.Warmed39 U.vm ∧ U.heap = h0) (fun _ _ _ _ _ => True) (fun _ U o U' => ∃ v L, o = .returned v ∧ Q_s_staff Z a1 p2 h0 n0 v U'.heap L ∧ FrameEnd U o U' L R_3.cells R_3.slots) := by
  refine MetFree.of_bodySF (plainFor_of_name pn_7) hisR ?_
  intro p e s m args below meth c s₁ Bd hml0 hP hK
  obtain ⟨rfl, hZ, hh⟩ := hP
  have hx := Bd.exec
  have hby := Bd.bytes
  have hml : c.maxLocals = 1 := hml0
  have hown : s.vm.findClass "com/example/shiftweave/shiftweave/rostering/ShiftRequest" = some m.cls := findClass_of_methodNamed Bd.named
  have hnm := (name_of_methodNamed Bd.named Bd.method).1
  have X0 : Stand p l e R_3 s m #[(.ref a1)] below meth c s₁ [] 0 0 := Stand.of_body Bd
  have e0 : s₁.heap = h0 := by rw [← hh, Bd.state]; rfl
  have N0 := Fr.nil n0
  show oG p e below s (Q_s_staff Z a1 p2 h0 n0) R_3.cells R_3.slots _
  refine oS (fun t k => castTop (ef_44_r m a1) k) ?_
  show oG _ _ _ _ _ _ _ (s₁.setTop (mkF m 0 #[.val (.ref a1)] []))
  refine oS (fun t k => XS.aloadN X0.here hx rfl (hb hby d44_0) rfl rfl k) ?_
  obtain ⟨T1, X1, e1, st1⟩ := getF X0 hx hZ hown (host := "") (Or.inl (oW hw 77 rfl)) Via.refl e0 F_staff_a1 (g := (mkF m 1 #[.val (.ref a1)] [(.ref a1)])) rfl rfl (hb hby d44_1)
  refine oS (fun t k => st1 t k) ?_
  try clear st1
  exact own_ret (v := some (.int p2)) X1 (fun h => by rw [Bd.returns] at h; cases h) Bd.notSynchronized (fun fs hr => retOut X1 hx (t := .int) Bd.returns rfl (Or.inl ⟨rfl, Or.inl rfl, _, rfl⟩) (hb hby d44_4) hr) (by rw [e1]; exact ⟨rfl, N0, rfl⟩) (by decide) (by decide)
theorem d45_0 : decode prog_77_method_6_code 0 = .ok (.aload_n 0, 1) := by decide +kernel
theorem d45_1 : decode prog_77_method_6_code 1 = .ok (.getfield 13, 3) := by decide +kernel
theorem d45_4 : decode prog_77_method_6_code 4 = .ok (.ireturn, 1) := by decide +kernel
abbrev mY35 : MethodName := (⟨"com/example/shiftweave/shiftweave/rostering/ShiftRequest", "day", "()I"⟩ : MethodName)
theorem ef_45_r (m : MethodId) (x0 : Addr) : entryFrame m #[(.ref x0)] 1 = mkF m 0 #[.val (.ref x0)] [] := by first | (simp [entryFrame, mkF, argsToLocals, Value.category]; done) | rfl
def Q_s_day (Z : State) (a1 : Addr) (p2 : Int32) (h0 : Heap) (n0 : Nat) (v : Option Value) (h : Heap) (L : List Loc) : Prop := v = some (.int p2) ∧ Fr n0 L ∧ h = h0
theorem rm_s_day (l : Launch) (Z : State) (a0 : Array Value) (hw : ∀ d ∈ tables_1, d.before a0 Z = true) (ws : List Jvm.Cond) (a1 : Addr) (p2 : Int32) (h0 : Heap) (n0 : Nat) (O0 : Old Z n0 h0) (F_day_a1 : Fld Z h0 a1 "com/example/shiftweave/shiftweave/rostering/ShiftRequest" "day" "I" (.int p2)) :
    MetFree l mY35 (head1 (Jvm.Cond.code mY35 prog_77_method_6_code 1 (some .int) :: ws) R_3) (fun a U => a = #[(.ref a1)] ∧ Z.Warmed39 U.vm ∧ U.heap = h0) (fun _ _ _ _ _ => True) (fun _ U o U' => ∃ v L, o = .returned v ∧ Q_s_day Z a1 p2 h0 n0 v U'.heap L ∧ FrameEnd U o U' L R_3.cells R_3.slots) := by
  refine MetFree.of_bodySF (plainFor_of_name pn_7) hisR ?_
  intro p e s m args below meth c s₁ Bd hml0 hP hK
  obtain ⟨rfl, hZ, hh⟩ := hP
  have hx := Bd.exec
  have hby := Bd.bytes
  have hml : c.maxLocals = 1 := hml0
  have hown : s.vm.findClass "com/example/shiftweave/shiftweave/rostering/ShiftRequest" = some m.cls := findClass_of_methodNamed Bd.named
  have hnm := (name_of_methodNamed Bd.named Bd.method).1
  have X0 : Stand p l e R_3 s m #[(.ref a1)] below meth c s₁ [] 0 0 := Stand.of_body Bd
  have e0 : s₁.heap = h0 := by rw [← hh, Bd.state]; rfl
  have N0 := Fr.nil n0
  show oG p e below s (Q_s_day Z a1 p2 h0 n0) R_3.cells R_3.slots _
  refine oS (fun t k => castTop (ef_45_r m a1) k) ?_
  show oG _ _ _ _ _ _ _ (s₁.setTop (mkF m 0 #[.val (.ref a1)] []))
  refine oS (fun t k => XS.aloadN X0.here hx rfl (hb hby d45_0) rfl rfl k) ?_
  obtain ⟨T1, X1, e1, st1⟩ := getF X0 hx hZ hown (host := "") (Or.inl (oW hw 79 rfl)) Via.refl e0 F_day_a1 (g := (mkF m 1 #[.val (.ref a1)] [(.ref a1)])) rfl rfl (hb hby d45_1)
  refine oS (fun t k => st1 t k) ?_
  try clear st1
  exact own_ret (v := some (.int p2)) X1 (fun h => by rw [Bd.returns] at h; cases h) Bd.notSynchronized (fun fs hr => retOut X1 hx (t := .int) Bd.returns rfl (Or.inl ⟨rfl, Or.inl rfl, _, rfl⟩) (hb hby d45_4) hr) (by rw [e1]; exact ⟨rfl, N0, rfl⟩) (by decide) (by decide)
theorem d43_0 : decode prog_77_method_7_code 0 = .ok (.aload_n 0, 1) := by decide +kernel
theorem d43_1 : decode prog_77_method_7_code 1 = .ok (.getfield 16, 3) := by decide +kernel
theorem d43_4 : decode prog_77_method_7_code 4 = .ok (.ireturn, 1) := by decide +kernel
abbrev mY36 : MethodName := (⟨"com/example/shiftweave/shiftweave/rostering/ShiftRequest", "shift", "()I"⟩ : MethodName)
theorem ef_43_r (m : MethodId) (x0 : Addr) : entryFrame m #[(.ref x0)] 1 = mkF m 0 #[.val (.ref x0)] [] := by first | (simp [entryFrame, mkF, argsToLocals, Value.category]; done) | rfl
def Q_s_shift (Z : State) (a1 : Addr) (p2 : Int32) (h0 : Heap) (n0 : Nat) (v : Option Value) (h : Heap) (L : List Loc) : Prop := v = some (.int p2) ∧ Fr n0 L ∧ h = h0
theorem rm_s_shift (l : Launch) (Z : State) (a0 : Array Value) (hw : ∀ d ∈ tables_1, d.before a0 Z = true) (ws : List Jvm.Cond) (a1 : Addr) (p2 : Int32) (h0 : Heap) (n0 : Nat) (O0 : Old Z n0 h0) (F_shift_a1 : Fld Z h0 a1 "com/example/shiftweave/shiftweave/rostering/ShiftRequest" "shift" "I" (.int p2)) :
    MetFree l mY36 (head1 (Jvm.Cond.code mY36 prog_77_method_7_code 1 (some .int) :: ws) R_3) (fun a U => a = #[(.ref a1)] ∧ Z.Warmed39 U.vm ∧ U.heap = h0) (fun _ _ _ _ _ => True) (fun _ U o U' => ∃ v L, o = .returned v ∧ Q_s_shift Z a1 p2 h0 n0 v U'.heap L ∧ FrameEnd U o U' L R_3.cells R_3.slots) := by
  refine MetFree.of_bodySF (plainFor_of_name pn_7) hisR ?_
  intro p e s m args below meth c s₁ Bd hml0 hP hK
  obtain ⟨rfl, hZ, hh⟩ := hP
  have hx := Bd.exec
  have hby := Bd.bytes
  have hml : c.maxLocals = 1 := hml0
  have hown : s.vm.findClass "com/example/shiftweave/shiftweave/rostering/ShiftRequest" = some m.cls := findClass_of_methodNamed Bd.named
  have hnm := (name_of_methodNamed Bd.named Bd.method).1
  have X0 : Stand p l e R_3 s m #[(.ref a1)] below meth c s₁ [] 0 0 := Stand.of_body Bd
  have e0 : s₁.heap = h0 := by rw [← hh, Bd.state]; rfl
  have N0 := Fr.nil n0
  show oG p e below s (Q_s_shift Z a1 p2 h0 n0) R_3.cells R_3.slots _
  refine oS (fun t k => castTop (ef_43_r m a1) k) ?_
  show oG _ _ _ _ _ _ _ (s₁.setTop (mkF m 0 #[.val (.ref a1)] []))
  refine oS (fun t k => XS.aloadN X0.here hx rfl (hb hby d43_0) rfl rfl k) ?_
  obtain ⟨T1, X1, e1, st1⟩ := getF X0 hx hZ hown (host := "") (Or.inl (oW hw 81 rfl)) Via.refl e0 F_shift_a1 (g := (mkF m 1 #[.val (.ref a1)] [(.ref a1)])) rfl rfl (hb hby d43_1)
  refine oS (fun t k => st1 t k) ?_
  try clear st1
  exact own_ret (v := some (.int p2)) X1 (fun h => by rw [Bd.returns] at h; cases h) Bd.notSynchronized (fun fs hr => retOut X1 hx (t := .int) Bd.returns rfl (Or.inl ⟨rfl, Or.inl rfl, _, rfl⟩) (hb hby d43_4) hr) (by rw [e1]; exact ⟨rfl, N0, rfl⟩) (by decide) (by decide)
theorem d46_0 : decode prog_77_method_8_code 0 = .ok (.aload_n 0, 1) := by decide +kernel
theorem d46_1 : decode prog_77_method_8_code 1 = .ok (.getfield 19, 3) := by decide +kernel
theorem d46_4 : decode prog_77_method_8_code 4 = .ok (.ireturn, 1) := by decide +kernel
abbrev mY37 : MethodName := (⟨"com/example/shiftweave/shiftweave/rostering/ShiftRequest", "weight", "()I"⟩ : MethodName)
theorem ef_46_r (m : MethodId) (x0 : Addr) : entryFrame m #[(.ref x0)] 1 = mkF m 0 #[.val (.ref x0)] [] := by first | (simp [entryFrame, mkF, argsToLocals, Value.category]; done) | rfl
def Q_s_weight (Z : State) (a1 : Addr) (p2 : Int32) (h0 : Heap) (n0 : Nat) (v : Option Value) (h : Heap) (L : List Loc) : Prop := v = some (.int p2) ∧ Fr n0 L ∧ h = h0
theorem rm_s_weight (l : Launch) (Z : State) (a0 : Array Value) (hw : ∀ d ∈ tables_1, d.before a0 Z = true) (ws : List Jvm.Cond) (a1 : Addr) (p2 : Int32) (h0 : Heap) (n0 : Nat) (O0 : Old Z n0 h0) (F_weight_a1 : Fld Z h0 a1 "com/example/shiftweave/shiftweave/rostering/ShiftRequest" "weight" "I" (.int p2)) :
    MetFree l mY37 (head1 (Jvm.Cond.code mY37 prog_77_method_8_code 1 (some .int) :: ws) R_3) (fun a U => a = #[(.ref a1)] ∧ Z.Warmed39 U.vm ∧ U.heap = h0) (fun _ _ _ _ _ => True) (fun _ U o U' => ∃ v L, o = .returned v ∧ Q_s_weight Z a1 p2 h0 n0 v U'.heap L ∧ FrameEnd U o U' L R_3.cells R_3.slots) := by
  refine MetFree.of_bodySF (plainFor_of_name pn_7) hisR ?_
  intro p e s m args below meth c s₁ Bd hml0 hP hK
  obtain ⟨rfl, hZ, hh⟩ := hP
  have hx := Bd.exec
  have hby := Bd.bytes
  have hml : c.maxLocals = 1 := hml0
  have hown : s.vm.findClass "com/example/shiftweave/shiftweave/rostering/ShiftRequest" = some m.cls := findClass_of_methodNamed Bd.named
  have hnm := (name_of_methodNamed Bd.named Bd.method).1
  have X0 : Stand p l e R_3 s m #[(.ref a1)] below meth c s₁ [] 0 0 := Stand.of_body Bd
  have e0 : s₁.heap = h0 := by rw [← hh, Bd.state]; rfl
  have N0 := Fr.nil n0
  show oG p e below s (Q_s_weight Z a1 p2 h0 n0) R_3.cells R_3.slots _
  refine oS (fun t k => castTop (ef_46_r m a1) k) ?_
  show oG _ _ _ _ _ _ _ (s₁.setTop (mkF m 0 #[.val (.ref a1)] []))
  refine oS (fun t k => XS.aloadN X0.here hx rfl (hb hby d46_0) rfl rfl k) ?_
  obtain ⟨T1, X1, e1, st1⟩ := getF X0 hx hZ hown (host := "") (Or.inl (oW hw 83 rfl)) Via.refl e0 F_weight_a1 (g := (mkF m 1 #[.val (.ref a1)] [(.ref a1)])) rfl rfl (hb hby d46_1)
  refine oS (fun t k => st1 t k) ?_
  try clear st1
  exact own_ret (v := some (.int p2)) X1 (fun h => by rw [Bd.returns] at h; cases h) Bd.notSynchronized (fun fs hr => retOut X1 hx (t := .int) Bd.returns rfl (Or.inl ⟨rfl, Or.inl rfl, _, rfl⟩) (hb hby d46_4) hr) (by rw [e1]; exact ⟨rfl, N0, rfl⟩) (by decide) (by decide)
theorem d30_0 : decode jdk_44_method_3_code 0 = .ok (.aload_n 0, 1) := by decide +kernel
theorem d30_1 : decode jdk_44_method_3_code 1 = .ok (.getfield 24, 3) := by decide +kernel
theorem d30_4 : decode jdk_44_method_3_code 4 = .ok (.getstatic 19, 3) := by decide +kernel
theorem d30_7 : decode jdk_44_method_3_code 7 = .ok (.if_acmp .eq 7, 3) := by decide +kernel
theorem d30_14 : decode jdk_44_method_3_code 14 = .ok (.iconst 1, 1) := by decide +kernel
theorem d30_15 : decode jdk_44_method_3_code 15 = .ok (.ireturn, 1) := by decide +kernel
abbrev mY38 : MethodName := (⟨"java/util/ImmutableCollections$List12", "size", "()I"⟩ : MethodName)
theorem ef_30_r (m : MethodId) (x0 : Addr) : entryFrame m #[(.ref x0)] 1 = mkF m 0 #[.val (.ref x0)] [] := by first | (simp [entryFrame, mkF, argsToLocals, Value.category]; done) | rfl
def Q_size1 (Z : State) (a1 : Addr) (w : Nat → Addr) (h0 : Heap) (n0 : Nat) (v : Option Value) (h : Heap) (L : List Loc) : Prop := v = some (.int 1) ∧ Fr n0 L ∧ h = h0
theorem rm_size1 (l : Launch) (Z : State) (a0 : Array Value) (hw : ∀ d ∈ tables_1, d.before a0 Z = true) (ws : List Jvm.Cond) (a1 : Addr) (w : Nat → Addr) (h0 : Heap) (n0 : Nat) (O0 : Old Z n0 h0) (W : own_World Z w) (F_e1_a1 : Fld Z h0 a1 "java/util/ImmutableCollections$List12" "e1" "Ljava/lang/Object;" (.ref (w 3))) :
    MetFree l mY38 (head1 (Jvm.Cond.code mY38 jdk_44_method_3_code 1 (some .int) :: ws) R_3) (fun a U => a = #[(.ref a1)] ∧ Z.Warmed39 U.vm ∧ U.heap = h0) (fun _ _ _ _ _ => True) (fun _ U o U' => ∃ v L, o = .returned v ∧ Q_size1 Z a1 w h0 n0 v U'.heap L ∧ FrameEnd U o U' L R_3.cells R_3.slots) := by
  refine MetFree.of_bodySF (plainFor_of_name pn_10) hisR ?_
  intro p e s m args below meth c s₁ Bd hml0 hP hK
  obtain ⟨rfl, hZ, hh⟩ := hP
  have hx := Bd.exec
  have hby := Bd.bytes
  have hml : c.maxLocals = 1 := hml0
  have hown : s.vm.findClass "java/util/ImmutableCollections$List12" = some m.cls := findClass_of_methodNamed Bd.named
  have hnm := (name_of_methodNamed Bd.named Bd.method).1
  have X0 : Stand p l e R_3 s m #[(.ref a1)] below meth c s₁ [] 0 0 := Stand.of_body Bd
  have e0 : s₁.heap = h0 := by rw [← hh, Bd.state]; rfl
  have N0 := Fr.nil n0
  show oG p e below s (Q_size1 Z a1 w h0 n0) R_3.cells R_3.slots _
  refine oS (fun t k => castTop (ef_30_r m a1) k) ?_
  show oG _ _ _ _ _ _ _ (s₁.setTop (mkF m 0 #[.val (.ref a1)] []))
  refine oS (fun t k => XS.aloadN X0.here hx rfl (hb hby d30_0) rfl rfl k) ?_
  obtain ⟨T1, X1, e1, st1⟩ := getF X0 hx hZ hown (host := "") (Or.inl (oW hw 176 rfl)) Via.refl e0 F_e1_a1 (g := (mkF m 1 #[.val (.ref a1)] [(.ref a1)])) rfl rfl (hb hby d30_1)
  refine oS (fun t k => st1 t k) ?_
  try clear st1
  obtain ⟨T2, X2, e2, st2⟩ := getS2 X1 hx hZ hown (Or.inr (oW hw 181 rfl)) Via.refl e1 ((wS3 W).ext O0.2) (g := (mkF m 4 #[.val (.ref a1)] [(.ref (w 3))])) rfl (hb hby d30_4)
  refine oS (fun t k => st2 t k) ?_
  try clear st2 X1 e1
  try clear T1
  refine oS (fun t k => Jvm.RoadKit.acmp (g := (mkF m 7 #[.val (.ref a1)] [(.ref (w 3)), (.ref (w 3))])) X2 hx rfl rfl rfl (pc0 := 7) (pc' := 14) (same := true) rfl (hb hby d30_7) rfl (decide_eq_true rfl) (by decide) (by decide) k) ?_
  refine oS (fun t k => oIc li_1 X2.here hx rfl (hb hby d30_14) k) ?_
  exact own_ret (v := some (.int 1)) X2 (fun h => by rw [Bd.returns] at h; cases h) Bd.notSynchronized (fun fs hr => retOut X2 hx (t := .int) Bd.returns rfl (Or.inl ⟨rfl, Or.inl rfl, _, rfl⟩) (hb hby d30_15) hr) (by rw [e2]; exact ⟨rfl, N0, rfl⟩) (by decide) (by decide)
theorem d30_10 : decode jdk_44_method_3_code 10 = .ok (.iconst 2, 1) := by decide +kernel
theorem li_2 : Int32.ofInt (2) = (2 : Int32) := by decide
theorem d30_11 : decode jdk_44_method_3_code 11 = .ok (.goto 4, 3) := by decide +kernel
def Q_size2 (Z : State) (a1 : Addr) (x2 : Addr) (w : Nat → Addr) (h0 : Heap) (n0 : Nat) (v : Option Value) (h : Heap) (L : List Loc) : Prop := v = some (.int 2) ∧ Fr n0 L ∧ h = h0
theorem rm_size2 (l : Launch) (Z : State) (a0 : Array Value) (hw : ∀ d ∈ tables_1, d.before a0 Z = true) (ws : List Jvm.Cond) (a1 : Addr) (x2 : Addr) (w : Nat → Addr) (h0 : Heap) (n0 : Nat) (O0 : Old Z n0 h0) (W : own_World Z w) (F_e1_a1 : Fld Z h0 a1 "java/util/ImmutableCollections$List12" "e1" "Ljava/lang/Object;" (.ref x2)) (E_x2 : Exa Z h0 x2 "java/lang/Integer") :
    MetFree l mY38 (head1 (Jvm.Cond.code mY38 jdk_44_method_3_code 1 (some .int) :: ws) R_3) (fun a U => a = #[(.ref a1)] ∧ Z.Warmed39 U.vm ∧ U.heap = h0) (fun _ _ _ _ _ => True) (fun _ U o U' => ∃ v L, o = .returned v ∧ Q_size2 Z a1 x2 w h0 n0 v U'.heap L ∧ FrameEnd U o U' L R_3.cells R_3.slots) := by
  refine MetFree.of_bodySF (plainFor_of_name pn_10) hisR ?_
  intro p e s m args below meth c s₁ Bd hml0 hP hK
  obtain ⟨rfl, hZ, hh⟩ := hP
  have hx := Bd.exec
  have hby := Bd.bytes
  have hml : c.maxLocals = 1 := hml0
  have hown : s.vm.findClass "java/util/ImmutableCollections$List12" = some m.cls := findClass_of_methodNamed Bd.named
  have hnm := (name_of_methodNamed Bd.named Bd.method).1
  have X0 : Stand p l e R_3 s m #[(.ref a1)] below meth c s₁ [] 0 0 := Stand.of_body Bd
  have e0 : s₁.heap = h0 := by rw [← hh, Bd.state]; rfl
  have N0 := Fr.nil n0
  show oG p e below s (Q_size2 Z a1 x2 w h0 n0) R_3.cells R_3.slots _
  refine oS (fun t k => castTop (ef_30_r m a1) k) ?_
  show oG _ _ _ _ _ _ _ (s₁.setTop (mkF m 0 #[.val (.ref a1)] []))
  refine oS (fun t k => XS.aloadN X0.here hx rfl (hb hby d30_0) rfl rfl k) ?_
  obtain ⟨T1, X1, e1, st1⟩ := getF X0 hx hZ hown (host := "") (Or.inl (oW hw 176 rfl)) Via.refl e0 F_e1_a1 (g := (mkF m 1 #[.val (.ref a1)] [(.ref a1)])) rfl rfl (hb hby d30_1)
  refine oS (fun t k => st1 t k) ?_
  try clear st1
  obtain ⟨T2, X2, e2, st2⟩ := getS2 X1 hx hZ hown (Or.inr (oW hw 181 rfl)) Via.refl e1 ((wS3 W).ext O0.2) (g := (mkF m 4 #[.val (.ref a1)] [(.ref x2)])) rfl (hb hby d30_4)
  refine oS (fun t k => st2 t k) ?_
  try clear st2 X1 e1
  try clear T1
  refine oS (fun t k => Jvm.RoadKit.acmp (g := (mkF m 7 #[.val (.ref a1)] [(.ref (w 3)), (.ref x2)])) X2 hx rfl rfl rfl (pc0 := 7) (pc' := 10) (same := false) rfl (hb hby d30_7) rfl (decide_eq_false fun q => (ne_exa E_x2 ((wE3 W).ext O0.2) (by decide)) (Value.ref.inj q)) (by decide) (by decide) k) ?_
  refine oS (fun t k => oIc li_2 X2.here hx rfl (hb hby d30_10) k) ?_
  refine oS (fun t k => XS.goto X2.here hx rfl (pc0 := 11) (pc' := 15) rfl (hb hby d30_11) (by decide) (by decide) k) ?_
  exact own_ret (v := some (.int 2)) X2 (fun h => by rw [Bd.returns] at h; cases h) Bd.notSynchronized (fun fs hr => retOut X2 hx (t := .int) Bd.returns rfl (Or.inl ⟨rfl, Or.inl rfl, _, rfl⟩) (hb hby d30_15) hr) (by rw [e2]; exact ⟨rfl, N0, rfl⟩) (by decide) (by decide)
theorem d36_0 : decode jdk_45_method_3_code 0 = .ok (.aload_n 0, 1) := by decide +kernel
theorem d36_1 : decode jdk_45_method_3_code 1 = .ok (.getfield 7, 3) := by decide +kernel
theorem d36_4 : decode jdk_45_method_3_code 4 = .ok (.arraylength, 1) := by decide +kernel
theorem d36_5 : decode jdk_45_method_3_code 5 = .ok (.ireturn, 1) := by decide +kernel
abbrev mY39 : MethodName := (⟨"java/util/ImmutableCollections$ListN", "size", "()I"⟩ : MethodName)
theorem ef_36_r (m : MethodId) (x0 : Addr) : entryFrame m #[(.ref x0)] 1 = mkF m 0 #[.val (.ref x0)] [] := by first | (simp [entryFrame, mkF, argsToLocals, Value.category]; done) | rfl
theorem pn_14 : plainName "java/util/ImmutableCollections$ListN" = true := by first | (simp [plainName, overriddenIn]; done) | decide +kernel
def Q_sizeN (Z : State)  (w : Nat → Addr) (h0 : Heap) (n0 : Nat) (v : Option Value) (h : Heap) (L : List Loc) : Prop := v = some (.int 0) ∧ Fr n0 L ∧ h = h0
theorem rm_sizeN (l : Launch) (Z : State) (a0 : Array Value) (hw : ∀ d ∈ tables_1, d.before a0 Z = true) (ws : List Jvm.Cond)  (w : Nat → Addr) (h0 : Heap) (n0 : Nat) (O0 : Old Z n0 h0) (W : own_World Z w) :
    MetFree l mY39 (head1 (Jvm.Cond.code mY39 jdk_45_method_3_code 1 (some .int) :: ws) R_3) (fun a U => a = #[(.ref (w 4))] ∧ Z.Warmed39 U.vm ∧ U.heap = h0) (fun _ _ _ _ _ => True) (fun _ U o U' => ∃ v L, o = .returned v ∧ Q_sizeN Z  w h0 n0 v U'.heap L ∧ FrameEnd U o U' L R_3.cells R_3.slots) := by
  refine MetFree.of_bodySF (plainFor_of_name pn_14) hisR ?_
  intro p e s m args below meth c s₁ Bd hml0 hP hK
  obtain ⟨rfl, hZ, hh⟩ := hP
  have hx := Bd.exec
  have hby := Bd.bytes
  have hml : c.maxLocals = 1 := hml0
  have hown : s.vm.findClass "java/util/ImmutableCollections$ListN" = some m.cls := findClass_of_methodNamed Bd.named
  have hnm := (name_of_methodNamed Bd.named Bd.method).1
  have X0 : Stand p l e R_3 s m #[(.ref (w 4))] below meth c s₁ [] 0 0 := Stand.of_body Bd
  have e0 : s₁.heap = h0 := by rw [← hh, Bd.state]; rfl
  have N0 := Fr.nil n0
  show oG p e below s (Q_sizeN Z  w h0 n0) R_3.cells R_3.slots _
  refine oS (fun t k => castTop (ef_36_r m (w 4)) k) ?_
  show oG _ _ _ _ _ _ _ (s₁.setTop (mkF m 0 #[.val (.ref (w 4))] []))
  refine oS (fun t k => XS.aloadN X0.here hx rfl (hb hby d36_0) rfl rfl k) ?_
  obtain ⟨T1, X1, e1, st1⟩ := getF X0 hx hZ hown (host := "") (Or.inl (oW hw 266 rfl)) Via.refl e0 ((wG5 W).ext O0.2) (g := (mkF m 1 #[.val (.ref (w 4))] [(.ref (w 4))])) rfl rfl (hb hby d36_1)
  refine oS (fun t k => st1 t k) ?_
  try clear st1
  obtain ⟨cl2, Ar2, -, Sz2, Ng2, -, -⟩ := id ((wV5 W).ext O0.2)
  refine oS (S' := (T1.setTop (mkF m 5 #[.val (.ref (w 4))] [(.int 0)]))) (fun t k => X1.arraylength hx (by rw [e1]; exact Ar2.1) (State.isArrayOf_alike hZ.alike Ar2.2.1) (g := (mkF m 4 #[.val (.ref (w 4))] [(.ref (w 5))])) rfl rfl (hb hby d36_4) t (by rw [len_of Sz2 Ng2]; exact k)) ?_
  exact own_ret (v := some (.int 0)) X1 (fun h => by rw [Bd.returns] at h; cases h) Bd.notSynchronized (fun fs hr => retOut X1 hx (t := .int) Bd.returns rfl (Or.inl ⟨rfl, Or.inl rfl, _, rfl⟩) (hb hby d36_5) hr) (by rw [e1]; exact ⟨rfl, N0, rfl⟩) (by decide) (by decide)
theorem d42_0 : decode jdk_44_method_5_code 0 = .ok (.iload_n 1, 1) := by decide +kernel
theorem d42_1 : decode jdk_44_method_5_code 1 = .ok (.ifCond .ne 8, 3) := by decide +kernel
theorem d42_4 : decode jdk_44_method_5_code 4 = .ok (.aload_n 0, 1) := by decide +kernel
theorem d42_5 : decode jdk_44_method_5_code 5 = .ok (.getfield 13, 3) := by decide +kernel
theorem d42_8 : decode jdk_44_method_5_code 8 = .ok (.areturn, 1) := by decide +kernel
abbrev mY40 : MethodName := (⟨"java/util/ImmutableCollections$List12", "get", "(I)Ljava/lang/Object;"⟩ : MethodName)
theorem ef_42_ri_0 (m : MethodId) (x0 : Addr) : entryFrame m #[(.ref x0), (.int 0)] 2 = mkF m 0 #[.val (.ref x0), .val (.int 0)] [] := by first | (simp [entryFrame, mkF, argsToLocals, Value.category]; done) | rfl
def Q_get0 (Z : State) (a1 : Addr) (x1 : Addr) (w : Nat → Addr) (h0 : Heap) (n0 : Nat) (v : Option Value) (h : Heap) (L : List Loc) : Prop := v = some (.ref x1) ∧ Fr n0 L ∧ h = h0
theorem rm_get0 (l : Launch) (Z : State) (a0 : Array Value) (hw : ∀ d ∈ tables_1, d.before a0 Z = true) (ws : List Jvm.Cond) (a1 : Addr) (x1 : Addr) (w : Nat → Addr) (h0 : Heap) (n0 : Nat) (O0 : Old Z n0 h0) (W : own_World Z w) (F_e0_a1 : Fld Z h0 a1 "java/util/ImmutableCollections$List12" "e0" "Ljava/lang/Object;" (.ref x1)) :
    MetFree l mY40 (head1 (Jvm.Cond.code mY40 jdk_44_method_5_code 2 (some (.object "java/lang/Object")) :: ws) R_3) (fun a U => a = #[(.ref a1), (.int 0)] ∧ Z.Warmed39 U.vm ∧ U.heap = h0) (fun _ _ _ _ _ => True) (fun _ U o U' => ∃ v L, o = .returned v ∧ Q_get0 Z a1 x1 w h0 n0 v U'.heap L ∧ FrameEnd U o U' L R_3.cells R_3.slots) := by
  refine MetFree.of_bodySF (plainFor_of_name pn_10) hisR ?_
  intro p e s m args below meth c s₁ Bd hml0 hP hK
  obtain ⟨rfl, hZ, hh⟩ := hP
  have hx := Bd.exec
  have hby := Bd.bytes
  have hml : c.maxLocals = 2 := hml0
  have hown : s.vm.findClass "java/util/ImmutableCollections$List12" = some m.cls := findClass_of_methodNamed Bd.named
  have hnm := (name_of_methodNamed Bd.named Bd.method).1
  have X0 : Stand p l e R_3 s m #[(.ref a1), (.int 0)] below meth c s₁ [] 0 0 := Stand.of_body Bd
  have e0 : s₁.heap = h0 := by rw [← hh, Bd.state]; rfl
  have N0 := Fr.nil n0
  show oG p e below s (Q_get0 Z a1 x1 w h0 n0) R_3.cells R_3.slots _
  refine oS (fun t k => castTop (ef_42_ri_0 m a1) k) ?_
  show oG _ _ _ _ _ _ _ (s₁.setTop (mkF m 0 #[.val (.ref a1), .val (.int 0)] []))
  refine oS (fun t k => XS.iloadN X0.here hx rfl (hb hby d42_0) rfl k) ?_
  refine oS (fun t k => XS.ifNo X0.here hx rfl (hb hby d42_1) rfl ((if0 _ _).trans (teq (by decide)).2) k) ?_
  refine oS (fun t k => XS.aloadN X0.here hx rfl (hb hby d42_4) rfl rfl k) ?_
  obtain ⟨T1, X1, e1, st1⟩ := getF X0 hx hZ hown (host := "") (Or.inl (oW hw 174 rfl)) Via.refl e0 F_e0_a1 (g := (mkF m 5 #[.val (.ref a1), .val (.int 0)] [(.ref a1)])) rfl rfl (hb hby d42_5)
  refine oS (fun t k => st1 t k) ?_
  try clear st1
  exact own_ret (v := some (.ref x1)) X1 (fun h => by rw [Bd.returns] at h; cases h) Bd.notSynchronized (fun fs hr => retOut X1 hx (t := (.object "java/lang/Object")) Bd.returns rfl (Or.inr (Or.inr (Or.inr (Or.inr ⟨rfl, rfl, rfl⟩)))) (hb hby d42_8) hr) (by rw [e1]; exact ⟨rfl, N0, rfl⟩) (by decide) (by decide)
theorem d37_0 : decode jdk_53_method_1_code 0 = .ok (.aload_n 0, 1) := by decide +kernel
theorem d37_1 : decode jdk_53_method_1_code 1 = .ok (.invokespecial 1, 3) := by decide +kernel
theorem d37_4 : decode jdk_53_method_1_code 4 = .ok (.aload_n 0, 1) := by decide +kernel
theorem d37_5 : decode jdk_53_method_1_code 5 = .ok (.aload_n 1, 1) := by decide +kernel
theorem d37_6 : decode jdk_53_method_1_code 6 = .ok (.putfield 7, 3) := by decide +kernel
theorem d37_9 : decode jdk_53_method_1_code 9 = .ok (.aload_n 0, 1) := by decide +kernel
theorem d37_10 : decode jdk_53_method_1_code 10 = .ok (.iload_n 2, 1) := by decide +kernel
theorem d37_11 : decode jdk_53_method_1_code 11 = .ok (.putfield 13, 3) := by decide +kernel
theorem d37_14 : decode jdk_53_method_1_code 14 = .ok (.aload_n 0, 1) := by decide +kernel
theorem d37_15 : decode jdk_53_method_1_code 15 = .ok (.iconst 0, 1) := by decide +kernel
theorem d37_16 : decode jdk_53_method_1_code 16 = .ok (.putfield 17, 3) := by decide +kernel
theorem d37_19 : decode jdk_53_method_1_code 19 = .ok (.aload_n 0, 1) := by decide +kernel
theorem d37_20 : decode jdk_53_method_1_code 20 = .ok (.iconst 0, 1) := by decide +kernel
theorem d37_21 : decode jdk_53_method_1_code 21 = .ok (.putfield 20, 3) := by decide +kernel
theorem d37_24 : decode jdk_53_method_1_code 24 = .ok (.return_, 1) := by decide +kernel
abbrev mY41 : MethodName := (⟨"java/util/ImmutableCollections$ListItr", "<init>", "(Ljava/util/List;I)V"⟩ : MethodName)
theorem ef_37_rri (m : MethodId) (x0 : Addr) (x1 : Addr) (x2 : Int32) : entryFrame m #[(.ref x0), (.ref x1), (.int x2)] 3 = mkF m 0 #[.val (.ref x0), .val (.ref x1), .val (.int x2)] [] := by first | (simp [entryFrame, mkF, argsToLocals, Value.category]; done) | rfl
theorem pn_15 : plainName "java/util/ImmutableCollections$ListItr" = true := by first | (simp [plainName, overriddenIn]; done) | decide +kernel
def Q_itinit (Z : State) (a1 : Addr) (a2 : Addr) (p3 : Int32) (u_list : Value) (u_size : Value) (u_cursor : Value) (u_isListIterator : Value) (w : Nat → Addr) (h0 : Heap) (n0 : Nat) (v : Option Value) (h : Heap) (L : List Loc) : Prop := v = none ∧ Fr n0 L ∧ Keep h0 h [a1] ∧ Exa Z h a1 "java/util/ImmutableCollections$ListItr" ∧ Fld Z h a1 "java/util/ImmutableCollections$ListItr" "list" "Ljava/util/List;" (.ref a2) ∧ Fld Z h a1 "java/util/ImmutableCollections$ListItr" "size" "I" (.int p3) ∧ Fld Z h a1 "java/util/ImmutableCollections$ListItr" "cursor" "I" (.int 0) ∧ Fld Z h a1 "java/util/ImmutableCollections$ListItr" "isListIterator" "Z" (.int 0)
theorem rm_itinit (l : Launch) (Z : State) (a0 : Array Value) (hw : ∀ d ∈ tables_1, d.before a0 Z = true) (ws : List Jvm.Cond) (a1 : Addr) (a2 : Addr) (p3 : Int32) (u_list : Value) (u_size : Value) (u_cursor : Value) (u_isListIterator : Value) (w : Nat → Addr) (h0 : Heap) (n0 : Nat) (O0 : Old Z n0 h0) (W : own_World Z w) (E_a1 : Exa Z h0 a1 "java/util/ImmutableCollections$ListItr") (g_a1 : n0 ≤ a1) (F_list_a1 : Fld Z h0 a1 "java/util/ImmutableCollections$ListItr" "list" "Ljava/util/List;" u_list) (F_size_a1 : Fld Z h0 a1 "java/util/ImmutableCollections$ListItr" "size" "I" u_size) (F_cursor_a1 : Fld Z h0 a1 "java/util/ImmutableCollections$ListItr" "cursor" "I" u_cursor) (F_isListIterator_a1 : Fld Z h0 a1 "java/util/ImmutableCollections$ListItr" "isListIterator" "Z" u_isListIterator) :
    MetFree l mY41 (head1 (Jvm.Cond.code mY41 jdk_53_method_1_code 3 none :: ws) R_0) (fun a U => a = #[(.ref a1), (.ref a2), (.int p3)] ∧ Z.Warmed39 U.vm ∧ U.heap = h0) (fun _ _ _ _ _ => True) (fun _ U o U' => ∃ v L, o = .returned v ∧ Q_itinit Z a1 a2 p3 u_list u_size u_cursor u_isListIterator w h0 n0 v U'.heap L ∧ FrameEnd U o U' L R_0.cells R_0.slots) := by
  refine MetFree.of_bodySF (plainFor_of_name pn_15) hisR ?_
  intro p e s m args below meth c s₁ Bd hml0 hP hK
  obtain ⟨rfl, hZ, hh⟩ := hP
  have hx := Bd.exec
  have hby := Bd.bytes
  have hml : c.maxLocals = 3 := hml0
  have hown : s.vm.findClass "java/util/ImmutableCollections$ListItr" = some m.cls := findClass_of_methodNamed Bd.named
  have hnm := (name_of_methodNamed Bd.named Bd.method).1
  have X0 : Stand p l e R_0 s m #[(.ref a1), (.ref a2), (.int p3)] below meth c s₁ [] 0 0 := Stand.of_body Bd
  have e0 : s₁.heap = h0 := by rw [← hh, Bd.state]; rfl
  have N0 := Fr.nil n0
  show oG p e below s (Q_itinit Z a1 a2 p3 u_list u_size u_cursor u_isListIterator w h0 n0) R_0.cells R_0.slots _
  refine oS (fun t k => castTop (ef_37_rri m a1 a2 p3) k) ?_
  show oG _ _ _ _ _ _ _ (s₁.setTop (mkF m 0 #[.val (.ref a1), .val (.ref a2), .val (.int p3)] []))
  refine oS (fun t k => XS.aloadN X0.here hx rfl (hb hby d37_0) rfl rfl k) ?_
  obtain ⟨T1, X1, e1, st1⟩ := initO X0 hx hZ hown (oW hw 272 rfl) (oW hw 20 rfl) (oW hw 21 rfl) e0 (g := (mkF m 1 #[.val (.ref a1), .val (.ref a2), .val (.int p3)] [(.ref a1)])) rfl (by rw [hml]; rfl) rfl (hb hby d37_1) (by decide) (W := 0) (by show 2 * 0 + _ ≤ _; exact Nat.le_of_eq rfl) (by decide)
  refine oS (fun t k => st1 t k) ?_
  refine oS (fun t k => XS.aloadN X1.here hx rfl (hb hby d37_4) rfl rfl k) ?_
  refine oS (fun t k => XS.aloadN X1.here hx rfl (hb hby d37_5) rfl rfl k) ?_
  obtain ⟨T2, h2, X2, e2, W2, st2⟩ := putF X1 hx hZ hown (host := "") (Or.inl (oW hw 273 rfl)) Via.refl e1 F_list_a1 E_a1 (Or.inr ⟨(oW hw 274 rfl), rfl, hnm⟩) (oW hw 257 rfl) (ty := (.object "java/util/List")) (by decide) rfl rfl (g := (mkF m 6 #[.val (.ref a1), .val (.ref a2), .val (.int p3)] [(.ref a2), (.ref a1)])) rfl rfl (hb hby d37_6)
  have O2 := O0.wr W2 g_a1
  have N2 := Fr.snoc X2 N0 g_a1
  have Kp2 : Keep h0 h2 [a1] := (Keep.refl h0 [a1]).wr W2 (Or.inl (List.mem_of_getElem? (i := 0) rfl))
  have Fw2 := F_list_a1.same W2
  refine oS (fun t k => st2 t k) ?_
  try clear st2 X1 e1
  try clear T1
  refine oS (fun t k => XS.aloadN X2.here hx rfl (hb hby d37_9) rfl rfl k) ?_
  refine oS (fun t k => XS.iloadN X2.here hx rfl (hb hby d37_10) rfl k) ?_
  show oG _ _ _ _ _ _ _ (T2.setTop (mkF m 11 #[.val (.ref a1), .val (.ref a2), .val (.int p3)] [(.int p3), (.ref a1)]))
  obtain ⟨T3, h3, X3, e3, W3, st3⟩ := putF X2 hx hZ hown (host := "") (Or.inl (oW hw 275 rfl)) Via.refl e2 (F_size_a1.other W2 (Or.inr (slot_ne (Or.inr (oW hw 276 rfl)) (Or.inr (oW hw 274 rfl)) (by decide) (t := .int) (t' := (.object "java/util/List")) (by decide) (by decide)))) (E_a1.wr W2) (Or.inr ⟨(oW hw 276 rfl), rfl, hnm⟩) (oW hw 257 rfl) (ty := .int) (by decide) rfl rfl (g := (mkF m 11 #[.val (.ref a1), .val (.ref a2), .val (.int p3)] [(.int p3), (.ref a1)])) rfl rfl (hb hby d37_11)
  have O3 := O2.wr W3 g_a1
  have N3 := Fr.snoc X3 N2 g_a1
  have Kp3 : Keep h0 h3 [a1] := Kp2.wr W3 (Or.inl (List.mem_of_getElem? (i := 0) rfl))
  have Fw3 := (F_size_a1.other W2 (Or.inr (slot_ne (Or.inr (oW hw 276 rfl)) (Or.inr (oW hw 274 rfl)) (by decide) (t := .int) (t' := (.object "java/util/List")) (by decide) (by decide)))).same W3
  refine oS (fun t k => st3 t k) ?_
  try clear st3 X2 e2
  try clear T2
  refine oS (fun t k => XS.aloadN X3.here hx rfl (hb hby d37_14) rfl rfl k) ?_
  refine oS (fun t k => oIc li_0 X3.here hx rfl (hb hby d37_15) k) ?_
  obtain ⟨T4, h4, X4, e4, W4, st4⟩ := putF X3 hx hZ hown (host := "") (Or.inl (oW hw 277 rfl)) Via.refl e3 ((F_cursor_a1.other W2 (Or.inr (slot_ne (Or.inl (oW hw 278 rfl)) (Or.inr (oW hw 274 rfl)) (by decide) (t := .int) (t' := (.object "java/util/List")) (by decide) (by decide)))).other W3 (Or.inr (slot_ne (Or.inl (oW hw 278 rfl)) (Or.inr (oW hw 276 rfl)) (by decide) (t := .int) (t' := .int) (by decide) (by decide)))) ((E_a1.wr W2).wr W3) (Or.inl (oW hw 278 rfl)) (oW hw 257 rfl) (ty := .int) (by decide) rfl rfl (g := (mkF m 16 #[.val (.ref a1), .val (.ref a2), .val (.int p3)] [(.int 0), (.ref a1)])) rfl rfl (hb hby d37_16)
  have O4 := O3.wr W4 g_a1
  have N4 := Fr.snoc X4 N3 g_a1
  have Kp4 : Keep h0 h4 [a1] := Kp3.wr W4 (Or.inl (List.mem_of_getElem? (i := 0) rfl))
  have Fw4 := ((F_cursor_a1.other W2 (Or.inr (slot_ne (Or.inl (oW hw 278 rfl)) (Or.inr (oW hw 274 rfl)) (by decide) (t := .int) (t' := (.object "java/util/List")) (by decide) (by decide)))).other W3 (Or.inr (slot_ne (Or.inl (oW hw 278 rfl)) (Or.inr (oW hw 276 rfl)) (by decide) (t := .int) (t' := .int) (by decide) (by decide)))).same W4
  refine oS (fun t k => st4 t k) ?_
  try clear st4 X3 e3
  try clear T3
  refine oS (fun t k => XS.aloadN X4.here hx rfl (hb hby d37_19) rfl rfl k) ?_
  refine oS (fun t k => oIc li_0 X4.here hx rfl (hb hby d37_20) k) ?_
  obtain ⟨T5, h5, X5, e5, W5, st5⟩ := putFN X4 hx hZ hown (oW hw 279 rfl) Via.refl e4 (((F_isListIterator_a1.other W2 (Or.inr (slot_ne (Or.inr (oW hw 280 rfl)) (Or.inr (oW hw 274 rfl)) (by decide) (t := .boolean) (t' := (.object "java/util/List")) (by decide) (by decide)))).other W3 (Or.inr (slot_ne (Or.inr (oW hw 280 rfl)) (Or.inr (oW hw 276 rfl)) (by decide) (t := .boolean) (t' := .int) (by decide) (by decide)))).other W4 (Or.inr (slot_ne (Or.inr (oW hw 280 rfl)) (Or.inl (oW hw 278 rfl)) (by decide) (t := .boolean) (t' := .int) (by decide) (by decide)))) (((E_a1.wr W2).wr W3).wr W4) (Or.inr ⟨(oW hw 280 rfl), rfl, hnm⟩) (oW hw 257 rfl) (ty := .boolean) (v' := (.int 0)) (by decide) rfl (by decide) (g := (mkF m 21 #[.val (.ref a1), .val (.ref a2), .val (.int p3)] [(.int 0), (.ref a1)])) rfl rfl (hb hby d37_21)
  have O5 := O4.wr W5 g_a1
  have N5 := Fr.snoc X5 N4 g_a1
  have Kp5 : Keep h0 h5 [a1] := Kp4.wr W5 (Or.inl (List.mem_of_getElem? (i := 0) rfl))
  have Fw5 := (((F_isListIterator_a1.other W2 (Or.inr (slot_ne (Or.inr (oW hw 280 rfl)) (Or.inr (oW hw 274 rfl)) (by decide) (t := .boolean) (t' := (.object "java/util/List")) (by decide) (by decide)))).other W3 (Or.inr (slot_ne (Or.inr (oW hw 280 rfl)) (Or.inr (oW hw 276 rfl)) (by decide) (t := .boolean) (t' := .int) (by decide) (by decide)))).other W4 (Or.inr (slot_ne (Or.inr (oW hw 280 rfl)) (Or.inl (oW hw 278 rfl)) (by decide) (t := .boolean) (t' := .int) (by decide) (by decide)))).same W5
  refine oS (fun t k => st5 t k) ?_
  show oG _ _ _ _ _ _ _ (T5.setTop (mkF m 24 #[.val (.ref a1), .val (.ref a2), .val (.int p3)] []))
  try clear st5 X4 e4
  try clear T4
  exact own_ret (v := none) X5 (fun _ => rfl) Bd.notSynchronized (fun fs hr => X5.returnOut hx Bd.returns (hb hby d37_24) hr) (by rw [e5]; exact ⟨rfl, N5, Kp5, ((((E_a1.wr W2).wr W3).wr W4).wr W5), (((Fw2.other W3 (Or.inr (slot_ne (Or.inr (oW hw 274 rfl)) (Or.inr (oW hw 276 rfl)) (by decide) (t := (.object "java/util/List")) (t' := .int) (by decide) (by decide)))).other W4 (Or.inr (slot_ne (Or.inr (oW hw 274 rfl)) (Or.inl (oW hw 278 rfl)) (by decide) (t := (.object "java/util/List")) (t' := .int) (by decide) (by decide)))).other W5 (Or.inr (slot_ne (Or.inr (oW hw 274 rfl)) (Or.inr (oW hw 280 rfl)) (by decide) (t := (.object "java/util/List")) (t' := .boolean) (by decide) (by decide)))), ((Fw3.other W4 (Or.inr (slot_ne (Or.inr (oW hw 276 rfl)) (Or.inl (oW hw 278 rfl)) (by decide) (t := .int) (t' := .int) (by decide) (by decide)))).other W5 (Or.inr (slot_ne (Or.inr (oW hw 276 rfl)) (Or.inr (oW hw 280 rfl)) (by decide) (t := .int) (t' := .boolean) (by decide) (by decide)))), (Fw4.other W5 (Or.inr (slot_ne (Or.inl (oW hw 278 rfl)) (Or.inr (oW hw 280 rfl)) (by decide) (t := .int) (t' := .boolean) (by decide) (by decide)))), Fw5⟩) (by decide) (by decide)
theorem d35_0 : decode jdk_46_method_10_code 0 = .ok (.new 61, 3) := by decide +kernel
theorem d35_3 : decode jdk_46_method_10_code 3 = .ok (.dup, 1) := by decide +kernel
theorem d35_4 : decode jdk_46_method_10_code 4 = .ok (.aload_n 0, 1) := by decide +kernel
theorem d35_5 : decode jdk_46_method_10_code 5 = .ok (.aload_n 0, 1) := by decide +kernel
theorem d35_6 : decode jdk_46_method_10_code 6 = .ok (.invokevirtual 13, 3) := by decide +kernel
theorem pd_14 : parseMethodDescriptor "()I" = some ⟨[], some .int⟩ := by decide +kernel
abbrev mY42 : MethodName := (⟨"java/util/ImmutableCollections$AbstractImmutableList", "size", "()I"⟩ : MethodName)
theorem d35_9 : decode jdk_46_method_10_code 9 = .ok (.invokespecial 63, 3) := by decide +kernel
theorem pd_15 : parseMethodDescriptor "(Ljava/util/List;I)V" = some ⟨[(.object "java/util/List"), .int], none⟩ := by decide +kernel
theorem d35_12 : decode jdk_46_method_10_code 12 = .ok (.areturn, 1) := by decide +kernel
abbrev mY43 : MethodName := (⟨"java/util/ImmutableCollections$AbstractImmutableList", "iterator", "()Ljava/util/Iterator;"⟩ : MethodName)
theorem ef_35_r (m : MethodId) (x0 : Addr) : entryFrame m #[(.ref x0)] 1 = mkF m 0 #[.val (.ref x0)] [] := by first | (simp [entryFrame, mkF, argsToLocals, Value.category]; done) | rfl
abbrev R_24 : Room := { frames := 2, cells := 1, slots := 4, locals := 27 }
def Q_it1 (Z : State) (a1 : Addr) (w : Nat → Addr) (h0 : Heap) (n0 : Nat) (v : Option Value) (h : Heap) (L : List Loc) : Prop := ∃ (r : Addr), v = some (.ref r) ∧ Fr n0 L ∧ Keep h0 h [] ∧ h0.size ≤ r ∧ Exa Z h r "java/util/ImmutableCollections$ListItr" ∧ Fld Z h r "java/util/ImmutableCollections$ListItr" "list" "Ljava/util/List;" (.ref a1) ∧ Fld Z h r "java/util/ImmutableCollections$ListItr" "size" "I" (.int 1) ∧ Fld Z h r "java/util/ImmutableCollections$ListItr" "cursor" "I" (.int 0)
theorem rm_it1 (l : Launch) (Z : State) (a0 : Array Value) (hw : ∀ d ∈ tables_1, d.before a0 Z = true) (ws : List Jvm.Cond) (a1 : Addr) (w : Nat → Addr) (h0 : Heap) (n0 : Nat) (O0 : Old Z n0 h0) (W : own_World Z w) (E_a1 : Exa Z h0 a1 "java/util/ImmutableCollections$List12") (F_e1_a1 : Fld Z h0 a1 "java/util/ImmutableCollections$List12" "e1" "Ljava/lang/Object;" (.ref (w 3))) :
    MetFree l mY43 (head1 (Jvm.Cond.code mY43 jdk_46_method_10_code 1 (some (.object "java/util/Iterator")) :: ws) R_24) (fun a U => a = #[(.ref a1)] ∧ Z.Warmed39 U.vm ∧ U.heap = h0) (fun _ _ _ _ _ => True) (fun _ U o U' => ∃ v L, o = .returned v ∧ Q_it1 Z a1 w h0 n0 v U'.heap L ∧ FrameEnd U o U' L R_24.cells R_24.slots) := by
  refine MetFree.of_bodySF (plainFor_of_name pn_3) hisR ?_
  intro p e s m args below meth c s₁ Bd hml0 hP hK
  obtain ⟨rfl, hZ, hh⟩ := hP
  have hx := Bd.exec
  have hby := Bd.bytes
  have hml : c.maxLocals = 1 := hml0
  have hown : s.vm.findClass "java/util/ImmutableCollections$AbstractImmutableList" = some m.cls := findClass_of_methodNamed Bd.named
  have hnm := (name_of_methodNamed Bd.named Bd.method).1
  have X0 : Stand p l e R_24 s m #[(.ref a1)] below meth c s₁ [] 0 0 := Stand.of_body Bd
  have e0 : s₁.heap = h0 := by rw [← hh, Bd.state]; rfl
  have N0 := Fr.nil n0
  show oG p e below s (Q_it1 Z a1 w h0 n0) R_24.cells R_24.slots _
  refine oS (fun t k => castTop (ef_35_r m a1) k) ?_
  show oG _ _ _ _ _ _ _ (s₁.setTop (mkF m 0 #[.val (.ref a1)] []))
  obtain ⟨T1, h1, X1, e1, E1, A1, D1, -, st1⟩ := newO X0 hx hZ hown (oW hw 256 rfl) (oW hw 257 rfl) (oW hw 258 rfl) e0 (g := (mkF m 0 #[.val (.ref a1)] [])) rfl (hb hby d35_0) (by decide) (by decide)
  obtain ⟨b1, g1⟩ : ∃ z, z = h0.size := ⟨_, rfl⟩
  rw [← g1] at A1 D1 st1
  have gx1 : n0 ≤ b1 := Nat.le_trans (O0.1 ▸ O0.2.1) (Nat.le_of_eq g1.symm)
  have sz1 : h0.size ≤ b1 := Nat.le_trans (Nat.le_refl _) (Nat.le_of_eq g1.symm)
  have O1 := O0.ext E1
  have Kp1 : Keep h0 h1 [] := (Keep.refl h0 []).ext E1
  have F_list_b1 : Fld Z h1 b1 "java/util/ImmutableCollections$ListItr" "list" "Ljava/util/List;" .null := D1 (Or.inr (oW hw 274 rfl)) (ty := (.object "java/util/List")) (by decide)
  have F_size_b1 : Fld Z h1 b1 "java/util/ImmutableCollections$ListItr" "size" "I" (.int 0) := D1 (Or.inr (oW hw 276 rfl)) (ty := .int) (by decide)
  have F_cursor_b1 : Fld Z h1 b1 "java/util/ImmutableCollections$ListItr" "cursor" "I" (.int 0) := D1 (Or.inl (oW hw 278 rfl)) (ty := .int) (by decide)
  have F_isListIterator_b1 : Fld Z h1 b1 "java/util/ImmutableCollections$ListItr" "isListIterator" "Z" (.int 0) := D1 (Or.inr (oW hw 280 rfl)) (ty := .boolean) (by decide)
  refine oS (fun t k => st1 t k) ?_
  try clear st1
  refine oS (fun t k => XS.dup X1.here hx rfl (hb hby d35_3) rfl rfl k) ?_
  refine oS (fun t k => XS.aloadN X1.here hx rfl (hb hby d35_4) rfl rfl k) ?_
  refine oS (fun t k => XS.aloadN X1.here hx rfl (hb hby d35_5) rfl rfl k) ?_
  obtain ⟨cq2, kq2, q2a, q2b, q2c⟩ := isOf hZ e1 (E_a1.ext E1)
  obtain ⟨_, _, ⟨T2, L2, k2, n2⟩, -, X2, ⟨Lc2, hQ2, l2, y2, z2⟩, st2⟩ := X1.virtualBackUp hx (x := mY42) (y := mY38) hown (oM hZ hw 259 rfl) (oM hZ hw 260 rfl) (oM hZ hw 261 rfl) (by decide) (oM hZ hw 302 rfl) (oM hZ hw 214 rfl) (backOf (W := 3) (rm_size1 l Z a0 hw [] a1 w h1 n0 O1 W (F_e1_a1.ext E1)) hZ (oW hw 218 rfl) (oW hw 151 rfl) (by decide) (by decide)) q2a q2c (g := (mkF m 6 #[.val (.ref a1)] [(.ref a1), (.ref a1), (.ref b1), (.ref b1)])) rfl (by rw [hml]; rfl) (Steps.refl _) (argsL := []) (rest := [(.ref a1), (.ref b1), (.ref b1)]) (lenOf pd_14 rfl) rfl (by show 2 * 0 + _ ≤ _; exact Nat.le_of_eq rfl) (hb hby d35_6) (fun _ _ => ⟨rfl, e1, (by decide : 1 + 0 ≤ _), (by decide : 4 + 0 ≤ _)⟩)
  dsimp only [Pt.U, Pt.locs, Pt.cells, Pt.slots] at X2 l2 y2 z2 st2 hQ2
  rw [l2, y2, z2] at X2
  clear l2 y2 z2
  obtain ⟨rfl, Nq2, e2⟩ := hQ2
  have N2 := Fr.app N0 Nq2
  refine oS (fun t k => st2.trans k) ?_
  show oG _ _ _ _ _ _ _ (T2.setTop (mkF m 9 #[.val (.ref a1)] [(.int 1), (.ref a1), (.ref b1), (.ref b1)]))
  try clear st2 X1 e1
  try clear T1
  obtain ⟨_, _, ⟨T3, L3, k3, n3⟩, -, X3, ⟨Lc3, hQ3, l3, y3, z3⟩, st3⟩ := X2.specialBack hx (y := mY41) rfl hown (oM hZ hw 268 rfl) (oM hZ hw 269 rfl) (oM hZ hw 271 rfl) (by decide) (backOf (W := 1) (rm_itinit l Z a0 hw [] b1 a1 (1 : Int32) .null (.int 0) (.int 0) (.int 0) w h1 n0 O1 W A1 gx1 F_list_b1 F_size_b1 F_cursor_b1 F_isListIterator_b1) hZ (oW hw 271 rfl) (oW hw 258 rfl) (by decide) (by decide)) (g := (mkF m 9 #[.val (.ref a1)] [(.int 1), (.ref a1), (.ref b1), (.ref b1)])) rfl (by rw [hml]; rfl) (Steps.refl _) (a := b1) (argsL := [(.ref a1), (.int 1)]) (rest := [(.ref b1)]) (lenOf pd_15 rfl) rfl (by show 2 * 0 + _ ≤ _; exact Nat.le_of_eq rfl) (hb hby d35_9) (fun _ _ => ⟨rfl, e2, (by decide : 1 + 0 ≤ _), (by decide : 4 + 0 ≤ _)⟩)
  dsimp only [Pt.U, Pt.locs, Pt.cells, Pt.slots] at X3 l3 y3 z3 st3 hQ3
  rw [l3, y3, z3] at X3
  clear l3 y3 z3
  obtain ⟨rfl, Nq3, K3, P3_0, P3_1, P3_2, P3_3, P3_4⟩ := hQ3
  have N3 := Fr.app N2 Nq3
  have O3 := O1.keep K3 (allS gx1 all0)
  have Kp3 : Keep h0 T3.heap [] := Kp1.trans K3 (allS (Or.inr sz1) all0)
  refine oS (fun t k => st3.trans k) ?_
  show oG _ _ _ _ _ _ _ (T3.setTop (mkF m 12 #[.val (.ref a1)] [(.ref b1)]))
  try clear st3 X2 e2
  exact own_ret (v := some (.ref b1)) X3 (fun h => by rw [Bd.returns] at h; cases h) Bd.notSynchronized (fun fs hr => retOut X3 hx (t := (.object "java/util/Iterator")) Bd.returns rfl (Or.inr (Or.inr (Or.inr (Or.inr ⟨rfl, rfl, rfl⟩)))) (hb hby d35_12) hr) (by exact ⟨b1, rfl, N3, Kp3, sz1, P3_0, P3_1, P3_2, P3_3⟩) (by decide) (by decide)
def Q_it0 (Z : State)  (w : Nat → Addr) (h0 : Heap) (n0 : Nat) (v : Option Value) (h : Heap) (L : List Loc) : Prop := ∃ (r : Addr), v = some (.ref r) ∧ Fr n0 L ∧ Keep h0 h [] ∧ h0.size ≤ r ∧ Exa Z h r "java/util/ImmutableCollections$ListItr" ∧ Fld Z h r "java/util/ImmutableCollections$ListItr" "list" "Ljava/util/List;" (.ref (w 4)) ∧ Fld Z h r "java/util/ImmutableCollections$ListItr" "size" "I" (.int 0) ∧ Fld Z h r "java/util/ImmutableCollections$ListItr" "cursor" "I" (.int 0)
theorem rm_it0 (l : Launch) (Z : State) (a0 : Array Value) (hw : ∀ d ∈ tables_1, d.before a0 Z = true) (ws : List Jvm.Cond)  (w : Nat → Addr) (h0 : Heap) (n0 : Nat) (O0 : Old Z n0 h0) (W : own_World Z w) :
    MetFree l mY43 (head1 (Jvm.Cond.code mY43 jdk_46_method_10_code 1 (some (.object "java/util/Iterator")) :: ws) R_24) (fun a U => a = #[(.ref (w 4))] ∧ Z.Warmed39 U.vm ∧ U.heap = h0) (fun _ _ _ _ _ => True) (fun _ U o U' => ∃ v L, o = .returned v ∧ Q_it0 Z  w h0 n0 v U'.heap L ∧ FrameEnd U o U' L R_24.cells R_24.slots) := by
  refine MetFree.of_bodySF (plainFor_of_name pn_3) hisR ?_
  intro p e s m args below meth c s₁ Bd hml0 hP hK
  obtain ⟨rfl, hZ, hh⟩ := hP
  have hx := Bd.exec
  have hby := Bd.bytes
  have hml : c.maxLocals = 1 := hml0
  have hown : s.vm.findClass "java/util/ImmutableCollections$AbstractImmutableList" = some m.cls := findClass_of_methodNamed Bd.named
  have hnm := (name_of_methodNamed Bd.named Bd.method).1
  have X0 : Stand p l e R_24 s m #[(.ref (w 4))] below meth c s₁ [] 0 0 := Stand.of_body Bd
  have e0 : s₁.heap = h0 := by rw [← hh, Bd.state]; rfl
  have N0 := Fr.nil n0
  show oG p e below s (Q_it0 Z  w h0 n0) R_24.cells R_24.slots _
  refine oS (fun t k => castTop (ef_35_r m (w 4)) k) ?_
  show oG _ _ _ _ _ _ _ (s₁.setTop (mkF m 0 #[.val (.ref (w 4))] []))
  obtain ⟨T1, h1, X1, e1, E1, A1, D1, -, st1⟩ := newO X0 hx hZ hown (oW hw 256 rfl) (oW hw 257 rfl) (oW hw 258 rfl) e0 (g := (mkF m 0 #[.val (.ref (w 4))] [])) rfl (hb hby d35_0) (by decide) (by decide)
  obtain ⟨b1, g1⟩ : ∃ z, z = h0.size := ⟨_, rfl⟩
  rw [← g1] at A1 D1 st1
  have gx1 : n0 ≤ b1 := Nat.le_trans (O0.1 ▸ O0.2.1) (Nat.le_of_eq g1.symm)
  have sz1 : h0.size ≤ b1 := Nat.le_trans (Nat.le_refl _) (Nat.le_of_eq g1.symm)
  have O1 := O0.ext E1
  have Kp1 : Keep h0 h1 [] := (Keep.refl h0 []).ext E1
  have F_list_b1 : Fld Z h1 b1 "java/util/ImmutableCollections$ListItr" "list" "Ljava/util/List;" .null := D1 (Or.inr (oW hw 274 rfl)) (ty := (.object "java/util/List")) (by decide)
  have F_size_b1 : Fld Z h1 b1 "java/util/ImmutableCollections$ListItr" "size" "I" (.int 0) := D1 (Or.inr (oW hw 276 rfl)) (ty := .int) (by decide)
  have F_cursor_b1 : Fld Z h1 b1 "java/util/ImmutableCollections$ListItr" "cursor" "I" (.int 0) := D1 (Or.inl (oW hw 278 rfl)) (ty := .int) (by decide)
  have F_isListIterator_b1 : Fld Z h1 b1 "java/util/ImmutableCollections$ListItr" "isListIterator" "Z" (.int 0) := D1 (Or.inr (oW hw 280 rfl)) (ty := .boolean) (by decide)
  refine oS (fun t k => st1 t k) ?_
  try clear st1
  refine oS (fun t k => XS.dup X1.here hx rfl (hb hby d35_3) rfl rfl k) ?_
  refine oS (fun t k => XS.aloadN X1.here hx rfl (hb hby d35_4) rfl rfl k) ?_
  refine oS (fun t k => XS.aloadN X1.here hx rfl (hb hby d35_5) rfl rfl k) ?_
  obtain ⟨cq2, kq2, q2a, q2b, q2c⟩ := isOf hZ e1 ((wE4 W).ext O1.2)
  obtain ⟨_, _, ⟨T2, L2, k2, n2⟩, -, X2, ⟨Lc2, hQ2, l2, y2, z2⟩, st2⟩ := X1.virtualBackUp hx (x := mY42) (y := mY39) hown (oM hZ hw 259 rfl) (oM hZ hw 260 rfl) (oM hZ hw 261 rfl) (by decide) (oM hZ hw 262 rfl) (oM hZ hw 263 rfl) (backOf (W := 3) (rm_sizeN l Z a0 hw []  w h1 n0 O1 W ) hZ (oW hw 265 rfl) (oW hw 264 rfl) (by decide) (by decide)) q2a q2c (g := (mkF m 6 #[.val (.ref (w 4))] [(.ref (w 4)), (.ref (w 4)), (.ref b1), (.ref b1)])) rfl (by rw [hml]; rfl) (Steps.refl _) (argsL := []) (rest := [(.ref (w 4)), (.ref b1), (.ref b1)]) (lenOf pd_14 rfl) rfl (by show 2 * 0 + _ ≤ _; exact Nat.le_of_eq rfl) (hb hby d35_6) (fun _ _ => ⟨rfl, e1, (by decide : 1 + 0 ≤ _), (by decide : 4 + 0 ≤ _)⟩)
  dsimp only [Pt.U, Pt.locs, Pt.cells, Pt.slots] at X2 l2 y2 z2 st2 hQ2
  rw [l2, y2, z2] at X2
  clear l2 y2 z2
  obtain ⟨rfl, Nq2, e2⟩ := hQ2
  have N2 := Fr.app N0 Nq2
  refine oS (fun t k => st2.trans k) ?_
  show oG _ _ _ _ _ _ _ (T2.setTop (mkF m 9 #[.val (.ref (w 4))] [(.int 0), (.ref (w 4)), (.ref b1), (.ref b1)]))
  try clear st2 X1 e1
  try clear T1
  obtain ⟨_, _, ⟨T3, L3, k3, n3⟩, -, X3, ⟨Lc3, hQ3, l3, y3, z3⟩, st3⟩ := X2.specialBack hx (y := mY41) rfl hown (oM hZ hw 268 rfl) (oM hZ hw 269 rfl) (oM hZ hw 271 rfl) (by decide) (backOf (W := 1) (rm_itinit l Z a0 hw [] b1 (w 4) (0 : Int32) .null (.int 0) (.int 0) (.int 0) w h1 n0 O1 W A1 gx1 F_list_b1 F_size_b1 F_cursor_b1 F_isListIterator_b1) hZ (oW hw 271 rfl) (oW hw 258 rfl) (by decide) (by decide)) (g := (mkF m 9 #[.val (.ref (w 4))] [(.int 0), (.ref (w 4)), (.ref b1), (.ref b1)])) rfl (by rw [hml]; rfl) (Steps.refl _) (a := b1) (argsL := [(.ref (w 4)), (.int 0)]) (rest := [(.ref b1)]) (lenOf pd_15 rfl) rfl (by show 2 * 0 + _ ≤ _; exact Nat.le_of_eq rfl) (hb hby d35_9) (fun _ _ => ⟨rfl, e2, (by decide : 1 + 0 ≤ _), (by decide : 4 + 0 ≤ _)⟩)
  dsimp only [Pt.U, Pt.locs, Pt.cells, Pt.slots] at X3 l3 y3 z3 st3 hQ3
  rw [l3, y3, z3] at X3
  clear l3 y3 z3
  obtain ⟨rfl, Nq3, K3, P3_0, P3_1, P3_2, P3_3, P3_4⟩ := hQ3
  have N3 := Fr.app N2 Nq3
  have O3 := O1.keep K3 (allS gx1 all0)
  have Kp3 : Keep h0 T3.heap [] := Kp1.trans K3 (allS (Or.inr sz1) all0)
  refine oS (fun t k => st3.trans k) ?_
  show oG _ _ _ _ _ _ _ (T3.setTop (mkF m 12 #[.val (.ref (w 4))] [(.ref b1)]))
  try clear st3 X2 e2
  exact own_ret (v := some (.ref b1)) X3 (fun h => by rw [Bd.returns] at h; cases h) Bd.notSynchronized (fun fs hr => retOut X3 hx (t := (.object "java/util/Iterator")) Bd.returns rfl (Or.inr (Or.inr (Or.inr (Or.inr ⟨rfl, rfl, rfl⟩)))) (hb hby d35_12) hr) (by exact ⟨b1, rfl, N3, Kp3, sz1, P3_0, P3_1, P3_2, P3_3⟩) (by decide) (by decide)
theorem d38_0 : decode jdk_53_method_3_code 0 = .ok (.aload_n 0, 1) := by decide +kernel
theorem d38_1 : decode jdk_53_method_3_code 1 = .ok (.getfield 17, 3) := by decide +kernel
theorem d38_4 : decode jdk_53_method_3_code 4 = .ok (.aload_n 0, 1) := by decide +kernel
theorem d38_5 : decode jdk_53_method_3_code 5 = .ok (.getfield 13, 3) := by decide +kernel
theorem d38_8 : decode jdk_53_method_3_code 8 = .ok (.if_icmp .eq 7, 3) := by decide +kernel
theorem d38_15 : decode jdk_53_method_3_code 15 = .ok (.iconst 0, 1) := by decide +kernel
theorem d38_16 : decode jdk_53_method_3_code 16 = .ok (.ireturn, 1) := by decide +kernel
abbrev mY44 : MethodName := (⟨"java/util/ImmutableCollections$ListItr", "hasNext", "()Z"⟩ : MethodName)
theorem ef_38_r (m : MethodId) (x0 : Addr) : entryFrame m #[(.ref x0)] 1 = mkF m 0 #[.val (.ref x0)] [] := by first | (simp [entryFrame, mkF, argsToLocals, Value.category]; done) | rfl
def Q_hn00 (Z : State) (a1 : Addr) (h0 : Heap) (n0 : Nat) (v : Option Value) (h : Heap) (L : List Loc) : Prop := v = some (.int 0) ∧ Fr n0 L ∧ h = h0
theorem rm_hn00 (l : Launch) (Z : State) (a0 : Array Value) (hw : ∀ d ∈ tables_1, d.before a0 Z = true) (ws : List Jvm.Cond) (a1 : Addr) (h0 : Heap) (n0 : Nat) (O0 : Old Z n0 h0) (F_size_a1 : Fld Z h0 a1 "java/util/ImmutableCollections$ListItr" "size" "I" (.int 0)) (F_cursor_a1 : Fld Z h0 a1 "java/util/ImmutableCollections$ListItr" "cursor" "I" (.int 0)) :
    MetFree l mY44 (head1 (Jvm.Cond.code mY44 jdk_53_method_3_code 1 (some .boolean) :: ws) R_3) (fun a U => a = #[(.ref a1)] ∧ Z.Warmed39 U.vm ∧ U.heap = h0) (fun _ _ _ _ _ => True) (fun _ U o U' => ∃ v L, o = .returned v ∧ Q_hn00 Z a1 h0 n0 v U'.heap L ∧ FrameEnd U o U' L R_3.cells R_3.slots) := by
  refine MetFree.of_bodySF (plainFor_of_name pn_15) hisR ?_
  intro p e s m args below meth c s₁ Bd hml0 hP hK
  obtain ⟨rfl, hZ, hh⟩ := hP
  have hx := Bd.exec
  have hby := Bd.bytes
  have hml : c.maxLocals = 1 := hml0
  have hown : s.vm.findClass "java/util/ImmutableCollections$ListItr" = some m.cls := findClass_of_methodNamed Bd.named
  have hnm := (name_of_methodNamed Bd.named Bd.method).1
  have X0 : Stand p l e R_3 s m #[(.ref a1)] below meth c s₁ [] 0 0 := Stand.of_body Bd
  have e0 : s₁.heap = h0 := by rw [← hh, Bd.state]; rfl
  have N0 := Fr.nil n0
  show oG p e below s (Q_hn00 Z a1 h0 n0) R_3.cells R_3.slots _
  refine oS (fun t k => castTop (ef_38_r m a1) k) ?_
  show oG _ _ _ _ _ _ _ (s₁.setTop (mkF m 0 #[.val (.ref a1)] []))
  refine oS (fun t k => XS.aloadN X0.here hx rfl (hb hby d38_0) rfl rfl k) ?_
  obtain ⟨T1, X1, e1, st1⟩ := getF X0 hx hZ hown (host := "") (Or.inl (oW hw 277 rfl)) Via.refl e0 F_cursor_a1 (g := (mkF m 1 #[.val (.ref a1)] [(.ref a1)])) rfl rfl (hb hby d38_1)
  refine oS (fun t k => st1 t k) ?_
  try clear st1
  refine oS (fun t k => XS.aloadN X1.here hx rfl (hb hby d38_4) rfl rfl k) ?_
  obtain ⟨T2, X2, e2, st2⟩ := getF X1 hx hZ hown (host := "") (Or.inl (oW hw 275 rfl)) Via.refl e1 F_size_a1 (g := (mkF m 5 #[.val (.ref a1)] [(.ref a1), (.int 0)])) rfl rfl (hb hby d38_5)
  refine oS (fun t k => st2 t k) ?_
  try clear st2 X1 e1
  try clear T1
  refine oS (fun t k => XS.icmpYes X2.here hx rfl (pc0 := 8) (pc' := 15) rfl (hb hby d38_8) rfl (teq (by decide)).1 (by decide) (by decide) k) ?_
  refine oS (fun t k => oIc li_0 X2.here hx rfl (hb hby d38_15) k) ?_
  exact own_ret (v := some (.int 0)) X2 (fun h => by rw [Bd.returns] at h; cases h) Bd.notSynchronized (fun fs hr => retN X2 hx (t := .boolean) Bd.returns (by simp) (hb hby d38_16) hr) (by rw [e2]; exact ⟨rfl, N0, rfl⟩) (by decide) (by decide)
theorem d38_11 : decode jdk_53_method_3_code 11 = .ok (.iconst 1, 1) := by decide +kernel
theorem d38_12 : decode jdk_53_method_3_code 12 = .ok (.goto 4, 3) := by decide +kernel
def Q_hn01 (Z : State) (a1 : Addr) (h0 : Heap) (n0 : Nat) (v : Option Value) (h : Heap) (L : List Loc) : Prop := v = some (.int 1) ∧ Fr n0 L ∧ h = h0
theorem rm_hn01 (l : Launch) (Z : State) (a0 : Array Value) (hw : ∀ d ∈ tables_1, d.before a0 Z = true) (ws : List Jvm.Cond) (a1 : Addr) (h0 : Heap) (n0 : Nat) (O0 : Old Z n0 h0) (F_size_a1 : Fld Z h0 a1 "java/util/ImmutableCollections$ListItr" "size" "I" (.int 1)) (F_cursor_a1 : Fld Z h0 a1 "java/util/ImmutableCollections$ListItr" "cursor" "I" (.int 0)) :
    MetFree l mY44 (head1 (Jvm.Cond.code mY44 jdk_53_method_3_code 1 (some .boolean) :: ws) R_3) (fun a U => a = #[(.ref a1)] ∧ Z.Warmed39 U.vm ∧ U.heap = h0) (fun _ _ _ _ _ => True) (fun _ U o U' => ∃ v L, o = .returned v ∧ Q_hn01 Z a1 h0 n0 v U'.heap L ∧ FrameEnd U o U' L R_3.cells R_3.slots) := by
  refine MetFree.of_bodySF (plainFor_of_name pn_15) hisR ?_
  intro p e s m args below meth c s₁ Bd hml0 hP hK
  obtain ⟨rfl, hZ, hh⟩ := hP
  have hx := Bd.exec
  have hby := Bd.bytes
  have hml : c.maxLocals = 1 := hml0
  have hown : s.vm.findClass "java/util/ImmutableCollections$ListItr" = some m.cls := findClass_of_methodNamed Bd.named
  have hnm := (name_of_methodNamed Bd.named Bd.method).1
  have X0 : Stand p l e R_3 s m #[(.ref a1)] below meth c s₁ [] 0 0 := Stand.of_body Bd
  have e0 : s₁.heap = h0 := by rw [← hh, Bd.state]; rfl
  have N0 := Fr.nil n0
  show oG p e below s (Q_hn01 Z a1 h0 n0) R_3.cells R_3.slots _
  refine oS (fun t k => castTop (ef_38_r m a1) k) ?_
  show oG _ _ _ _ _ _ _ (s₁.setTop (mkF m 0 #[.val (.ref a1)] []))
  refine oS (fun t k => XS.aloadN X0.here hx rfl (hb hby d38_0) rfl rfl k) ?_
  obtain ⟨T1, X1, e1, st1⟩ := getF X0 hx hZ hown (host := "") (Or.inl (oW hw 277 rfl)) Via.refl e0 F_cursor_a1 (g := (mkF m 1 #[.val (.ref a1)] [(.ref a1)])) rfl rfl (hb hby d38_1)
  refine oS (fun t k => st1 t k) ?_
  try clear st1
  refine oS (fun t k => XS.aloadN X1.here hx rfl (hb hby d38_4) rfl rfl k) ?_
  obtain ⟨T2, X2, e2, st2⟩ := getF X1 hx hZ hown (host := "") (Or.inl (oW hw 275 rfl)) Via.refl e1 F_size_a1 (g := (mkF m 5 #[.val (.ref a1)] [(.ref a1), (.int 0)])) rfl rfl (hb hby d38_5)
  refine oS (fun t k => st2 t k) ?_
  try clear st2 X1 e1
  try clear T1
  refine oS (fun t k => XS.icmpNo X2.here hx rfl (hb hby d38_8) rfl (feq (by decide)).1 k) ?_
  refine oS (fun t k => oIc li_1 X2.here hx rfl (hb hby d38_11) k) ?_
  refine oS (fun t k => XS.goto X2.here hx rfl (pc0 := 12) (pc' := 16) rfl (hb hby d38_12) (by decide) (by decide) k) ?_
  show oG _ _ _ _ _ _ _ (T2.setTop (mkF m 16 #[.val (.ref a1)] [(.int 1)]))
  exact own_ret (v := some (.int 1)) X2 (fun h => by rw [Bd.returns] at h; cases h) Bd.notSynchronized (fun fs hr => retN X2 hx (t := .boolean) Bd.returns (by simp) (hb hby d38_16) hr) (by rw [e2]; exact ⟨rfl, N0, rfl⟩) (by decide) (by decide)
def Q_hn11 (Z : State) (a1 : Addr) (h0 : Heap) (n0 : Nat) (v : Option Value) (h : Heap) (L : List Loc) : Prop := v = some (.int 0) ∧ Fr n0 L ∧ h = h0
theorem rm_hn11 (l : Launch) (Z : State) (a0 : Array Value) (hw : ∀ d ∈ tables_1, d.before a0 Z = true) (ws : List Jvm.Cond) (a1 : Addr) (h0 : Heap) (n0 : Nat) (O0 : Old Z n0 h0) (F_size_a1 : Fld Z h0 a1 "java/util/ImmutableCollections$ListItr" "size" "I" (.int 1)) (F_cursor_a1 : Fld Z h0 a1 "java/util/ImmutableCollections$ListItr" "cursor" "I" (.int 1)) :
    MetFree l mY44 (head1 (Jvm.Cond.code mY44 jdk_53_method_3_code 1 (some .boolean) :: ws) R_3) (fun a U => a = #[(.ref a1)] ∧ Z.Warmed39 U.vm ∧ U.heap = h0) (fun _ _ _ _ _ => True) (fun _ U o U' => ∃ v L, o = .returned v ∧ Q_hn11 Z a1 h0 n0 v U'.heap L ∧ FrameEnd U o U' L R_3.cells R_3.slots) := by
  refine MetFree.of_bodySF (plainFor_of_name pn_15) hisR ?_
  intro p e s m args below meth c s₁ Bd hml0 hP hK
  obtain ⟨rfl, hZ, hh⟩ := hP
  have hx := Bd.exec
  have hby := Bd.bytes
  have hml : c.maxLocals = 1 := hml0
  have hown : s.vm.findClass "java/util/ImmutableCollections$ListItr" = some m.cls := findClass_of_methodNamed Bd.named
  have hnm := (name_of_methodNamed Bd.named Bd.method).1
  have X0 : Stand p l e R_3 s m #[(.ref a1)] below meth c s₁ [] 0 0 := Stand.of_body Bd
  have e0 : s₁.heap = h0 := by rw [← hh, Bd.state]; rfl
  have N0 := Fr.nil n0
  show oG p e below s (Q_hn11 Z a1 h0 n0) R_3.cells R_3.slots _
  refine oS (fun t k => castTop (ef_38_r m a1) k) ?_
  show oG _ _ _ _ _ _ _ (s₁.setTop (mkF m 0 #[.val (.ref a1)] []))
  refine oS (fun t k => XS.aloadN X0.here hx rfl (hb hby d38_0) rfl rfl k) ?_
  obtain ⟨T1, X1, e1, st1⟩ := getF X0 hx hZ hown (host := "") (Or.inl (oW hw 277 rfl)) Via.refl e0 F_cursor_a1 (g := (mkF m 1 #[.val (.ref a1)] [(.ref a1)])) rfl rfl (hb hby d38_1)
  refine oS (fun t k => st1 t k) ?_
  try clear st1
  refine oS (fun t k => XS.aloadN X1.here hx rfl (hb hby d38_4) rfl rfl k) ?_
  obtain ⟨T2, X2, e2, st2⟩ := getF X1 hx hZ hown (host := "") (Or.inl (oW hw 275 rfl)) Via.refl e1 F_size_a1 (g := (mkF m 5 #[.val (.ref a1)] [(.ref a1), (.int 1)])) rfl rfl (hb hby d38_5)
  refine oS (fun t k => st2 t k) ?_
  try clear st2 X1 e1
  try clear T1
  refine oS (fun t k => XS.icmpYes X2.here hx rfl (pc0 := 8) (pc' := 15) rfl (hb hby d38_8) rfl (teq (by decide)).1 (by decide) (by decide) k) ?_
  refine oS (fun t k => oIc li_0 X2.here hx rfl (hb hby d38_15) k) ?_
  exact own_ret (v := some (.int 0)) X2 (fun h => by rw [Bd.returns] at h; cases h) Bd.notSynchronized (fun fs hr => retN X2 hx (t := .boolean) Bd.returns (by simp) (hb hby d38_16) hr) (by rw [e2]; exact ⟨rfl, N0, rfl⟩) (by decide) (by decide)
theorem d41_0 : decode jdk_53_method_4_code 0 = .ok (.aload_n 0, 1) := by decide +kernel
theorem d41_1 : decode jdk_53_method_4_code 1 = .ok (.getfield 17, 3) := by decide +kernel
theorem d41_4 : decode jdk_53_method_4_code 4 = .ok (.istore_n 1, 1) := by decide +kernel
theorem d41_5 : decode jdk_53_method_4_code 5 = .ok (.aload_n 0, 1) := by decide +kernel
theorem d41_6 : decode jdk_53_method_4_code 6 = .ok (.getfield 7, 3) := by decide +kernel
theorem d41_9 : decode jdk_53_method_4_code 9 = .ok (.iload_n 1, 1) := by decide +kernel
theorem d41_10 : decode jdk_53_method_4_code 10 = .ok (.invokeinterface 24 2, 5) := by decide +kernel
theorem pd_16 : parseMethodDescriptor "(I)Ljava/lang/Object;" = some ⟨[.int], some (.object "java/lang/Object")⟩ := by decide +kernel
abbrev mY45 : MethodName := (⟨"java/util/List", "get", "(I)Ljava/lang/Object;"⟩ : MethodName)
theorem d41_15 : decode jdk_53_method_4_code 15 = .ok (.astore_n 2, 1) := by decide +kernel
theorem d41_16 : decode jdk_53_method_4_code 16 = .ok (.aload_n 0, 1) := by decide +kernel
theorem d41_17 : decode jdk_53_method_4_code 17 = .ok (.iload_n 1, 1) := by decide +kernel
theorem d41_18 : decode jdk_53_method_4_code 18 = .ok (.iconst 1, 1) := by decide +kernel
theorem d41_19 : decode jdk_53_method_4_code 19 = .ok (.iadd, 1) := by decide +kernel
theorem d41_20 : decode jdk_53_method_4_code 20 = .ok (.putfield 17, 3) := by decide +kernel
theorem d41_23 : decode jdk_53_method_4_code 23 = .ok (.aload_n 2, 1) := by decide +kernel
theorem d41_24 : decode jdk_53_method_4_code 24 = .ok (.areturn, 1) := by decide +kernel
abbrev mY46 : MethodName := (⟨"java/util/ImmutableCollections$ListItr", "next", "()Ljava/lang/Object;"⟩ : MethodName)
theorem ef_41_r (m : MethodId) (x0 : Addr) : entryFrame m #[(.ref x0)] 3 = mkF m 0 #[.val (.ref x0), .unset, .unset] [] := by first | (simp [entryFrame, mkF, argsToLocals, Value.category]; done) | rfl
abbrev R_25 : Room := { frames := 1, cells := 0, slots := 0, locals := 13 }
def Q_next (Z : State) (a1 : Addr) (a2 : Addr) (x1 : Addr) (w : Nat → Addr) (h0 : Heap) (n0 : Nat) (v : Option Value) (h : Heap) (L : List Loc) : Prop := v = some (.ref x1) ∧ Fr n0 L ∧ Keep h0 h [a1] ∧ Fld Z h a1 "java/util/ImmutableCollections$ListItr" "list" "Ljava/util/List;" (.ref a2) ∧ Fld Z h a1 "java/util/ImmutableCollections$ListItr" "size" "I" (.int 1) ∧ Fld Z h a1 "java/util/ImmutableCollections$ListItr" "cursor" "I" (.int 1)
theorem rm_next (l : Launch) (Z : State) (a0 : Array Value) (hw : ∀ d ∈ tables_1, d.before a0 Z = true) (ws : List Jvm.Cond) (a1 : Addr) (a2 : Addr) (x1 : Addr) (w : Nat → Addr) (h0 : Heap) (n0 : Nat) (O0 : Old Z n0 h0) (W : own_World Z w) (E_a1 : Exa Z h0 a1 "java/util/ImmutableCollections$ListItr") (g_a1 : n0 ≤ a1) (F_list_a1 : Fld Z h0 a1 "java/util/ImmutableCollections$ListItr" "list" "Ljava/util/List;" (.ref a2)) (F_size_a1 : Fld Z h0 a1 "java/util/ImmutableCollections$ListItr" "size" "I" (.int 1)) (F_cursor_a1 : Fld Z h0 a1 "java/util/ImmutableCollections$ListItr" "cursor" "I" (.int 0)) (E_a2 : Exa Z h0 a2 "java/util/ImmutableCollections$List12") (F_e0_a2 : Fld Z h0 a2 "java/util/ImmutableCollections$List12" "e0" "Ljava/lang/Object;" (.ref x1)) :
    MetFree l mY46 (head1 (Jvm.Cond.codeWith mY46 jdk_53_method_4_code 3 (some (.object "java/lang/Object")) [(0, 24, 25, 30)] :: ws) R_25) (fun a U => a = #[(.ref a1)] ∧ Z.Warmed39 U.vm ∧ U.heap = h0) (fun _ _ _ _ _ => True) (fun _ U o U' => ∃ v L, o = .returned v ∧ Q_next Z a1 a2 x1 w h0 n0 v U'.heap L ∧ FrameEnd U o U' L R_25.cells R_25.slots) := by
  refine MetFree.of_bodySF (plainFor_of_name pn_15) hisWith ?_
  intro p e s m args below meth c s₁ Bd hml0 hP hK
  obtain ⟨rfl, hZ, hh⟩ := hP
  have hx := Bd.exec
  have hby := Bd.bytes
  have hml : c.maxLocals = 3 := hml0
  have hown : s.vm.findClass "java/util/ImmutableCollections$ListItr" = some m.cls := findClass_of_methodNamed Bd.named
  have hnm := (name_of_methodNamed Bd.named Bd.method).1
  have X0 : Stand p l e R_25 s m #[(.ref a1)] below meth c s₁ [] 0 0 := Stand.of_body Bd
  have e0 : s₁.heap = h0 := by rw [← hh, Bd.state]; rfl
  have N0 := Fr.nil n0
  show oG p e below s (Q_next Z a1 a2 x1 w h0 n0) R_25.cells R_25.slots _
  refine oS (fun t k => castTop (ef_41_r m a1) k) ?_
  show oG _ _ _ _ _ _ _ (s₁.setTop (mkF m 0 #[.val (.ref a1), .unset, .unset] []))
  refine oS (fun t k => XS.aloadN X0.here hx rfl (hb hby d41_0) rfl rfl k) ?_
  obtain ⟨T1, X1, e1, st1⟩ := getF X0 hx hZ hown (host := "") (Or.inl (oW hw 277 rfl)) Via.refl e0 F_cursor_a1 (g := (mkF m 1 #[.val (.ref a1), .unset, .unset] [(.ref a1)])) rfl rfl (hb hby d41_1)
  refine oS (fun t k => st1 t k) ?_
  try clear st1
  refine oS (fun t k => XS.istoreN X1.here hx rfl (hb hby d41_4) rfl (l' := #[.val (.ref a1), .val (.int 0), .unset]) rfl k) ?_
  refine oS (fun t k => XS.aloadN X1.here hx rfl (hb hby d41_5) rfl rfl k) ?_
  obtain ⟨T2, X2, e2, st2⟩ := getF X1 hx hZ hown (host := "") (Or.inl (oW hw 273 rfl)) Via.refl e1 F_list_a1 (g := (mkF m 6 #[.val (.ref a1), .val (.int 0), .unset] [(.ref a1)])) rfl rfl (hb hby d41_6)
  refine oS (fun t k => st2 t k) ?_
  try clear st2 X1 e1
  try clear T1
  refine oS (fun t k => XS.iloadN X2.here hx rfl (hb hby d41_9) rfl k) ?_
  obtain ⟨cq3, kq3, q3a, q3b, q3c⟩ := isOf hZ e2 E_a2
  obtain ⟨_, _, ⟨T3, L3, k3, n3⟩, -, X3, ⟨Lc3, hQ3, l3, y3, z3⟩, st3⟩ := X2.interfaceBack hx (xi := mY45) (y := mY40) hown (oM hZ hw 311 rfl) (oM hZ hw 312 rfl) (oM hZ hw 313 rfl) (oM hZ hw 314 rfl) (oM hZ hw 315 rfl) (oM hZ hw 316 rfl) (oM hZ hw 317 rfl) (oM hZ hw 217 rfl) (by decide) (backOf (W := 0) (rm_get0 l Z a0 hw [] a2 x1 w h0 n0 O0 W F_e0_a2) hZ (oW hw 318 rfl) (oW hw 151 rfl) (by decide) (by decide)) q3a q3b q3c (g := (mkF m 10 #[.val (.ref a1), .val (.int 0), .unset] [(.int 0), (.ref a2)])) rfl (by rw [hml]; rfl) (Steps.refl _) (argsL := [(.int 0)]) (rest := []) (lenOf pd_16 rfl) rfl (by show 2 * 0 + _ ≤ _; exact Nat.le_of_eq rfl) (hb hby d41_10) (fun _ _ => ⟨rfl, e2, (by decide : 0 + 0 ≤ _), (by decide : 0 + 0 ≤ _)⟩)
  dsimp only [Pt.U, Pt.locs, Pt.cells, Pt.slots] at X3 l3 y3 z3 st3 hQ3
  rw [l3, y3, z3] at X3
  clear l3 y3 z3
  obtain ⟨rfl, Nq3, e3⟩ := hQ3
  have N3 := Fr.app N0 Nq3
  refine oS (fun t k => st3.trans k) ?_
  show oG _ _ _ _ _ _ _ (T3.setTop (mkF m 15 #[.val (.ref a1), .val (.int 0), .unset] [(.ref x1)]))
  try clear st3 X2 e2
  try clear T2
  refine oS (fun t k => XS.astoreN X3.here hx rfl (hb hby d41_15) rfl rfl (l' := #[.val (.ref a1), .val (.int 0), .val (.ref x1)]) rfl k) ?_
  refine oS (fun t k => XS.aloadN X3.here hx rfl (hb hby d41_16) rfl rfl k) ?_
  refine oS (fun t k => XS.iloadN X3.here hx rfl (hb hby d41_17) rfl k) ?_
  refine oS (fun t k => oIc li_1 X3.here hx rfl (hb hby d41_18) k) ?_
  refine oS (S' := (T3.setTop (mkF m 20 #[.val (.ref a1), .val (.int 0), .val (.ref x1)] [(.int 1), (.ref a1)]))) (fun t k => XS.iadd X3.here hx rfl (hb hby d41_19) rfl (by rw [show (0 : Int32) + (1 : Int32) = (1 : Int32) from by decide]; exact k)) ?_
  obtain ⟨T4, h4, X4, e4, W4, st4⟩ := putF X3 hx hZ hown (host := "") (Or.inl (oW hw 277 rfl)) Via.refl e3 F_cursor_a1 E_a1 (Or.inl (oW hw 278 rfl)) (oW hw 257 rfl) (ty := .int) (by decide) rfl rfl (g := (mkF m 20 #[.val (.ref a1), .val (.int 0), .val (.ref x1)] [(.int 1), (.ref a1)])) rfl rfl (hb hby d41_20)
  have O4 := O0.wr W4 g_a1
  have N4 := Fr.snoc X4 N3 g_a1
  have Kp4 : Keep h0 h4 [a1] := (Keep.refl h0 [a1]).wr W4 (Or.inl (List.mem_of_getElem? (i := 0) rfl))
  have Fw4 := F_cursor_a1.same W4
  refine oS (fun t k => st4 t k) ?_
  try clear st4 X3 e3
  refine oS (fun t k => XS.aloadN X4.here hx rfl (hb hby d41_23) rfl rfl k) ?_
  show oG _ _ _ _ _ _ _ (T4.setTop (mkF m 24 #[.val (.ref a1), .val (.int 0), .val (.ref x1)] [(.ref x1)]))
  exact own_ret (v := some (.ref x1)) X4 (fun h => by rw [Bd.returns] at h; cases h) Bd.notSynchronized (fun fs hr => retOut X4 hx (t := (.object "java/lang/Object")) Bd.returns rfl (Or.inr (Or.inr (Or.inr (Or.inr ⟨rfl, rfl, rfl⟩)))) (hb hby d41_24) hr) (by rw [e4]; exact ⟨rfl, N4, Kp4, (F_list_a1.other W4 (Or.inr (slot_ne (Or.inr (oW hw 274 rfl)) (Or.inl (oW hw 278 rfl)) (by decide) (t := (.object "java/util/List")) (t' := .int) (by decide) (by decide)))), (F_size_a1.other W4 (Or.inr (slot_ne (Or.inr (oW hw 276 rfl)) (Or.inl (oW hw 278 rfl)) (by decide) (t := .int) (t' := .int) (by decide) (by decide)))), Fw4⟩) (by decide) (by decide)
theorem d39_0 : decode jdk_29_method_66_code 0 = .ok (.lload_n 0, 1) := by decide +kernel
theorem d39_1 : decode jdk_29_method_66_code 1 = .ok (.lload_n 2, 1) := by decide +kernel
theorem d39_2 : decode jdk_29_method_66_code 2 = .ok (.lcmp, 1) := by decide +kernel
theorem d39_3 : decode jdk_29_method_66_code 3 = .ok (.ifCond .lt 7, 3) := by decide +kernel
theorem d39_10 : decode jdk_29_method_66_code 10 = .ok (.lload_n 2, 1) := by decide +kernel
theorem d39_11 : decode jdk_29_method_66_code 11 = .ok (.lreturn, 1) := by decide +kernel
theorem d39_6 : decode jdk_29_method_66_code 6 = .ok (.lload_n 0, 1) := by decide +kernel
theorem d39_7 : decode jdk_29_method_66_code 7 = .ok (.goto 4, 3) := by decide +kernel
abbrev mY47 : MethodName := (⟨"java/lang/Math", "max", "(JJ)J"⟩ : MethodName)
theorem ef_39_jj (m : MethodId) (x0 : Int64) (x1 : Int64) : entryFrame m #[(.long x0), (.long x1)] 4 = mkF m 0 #[.val (.long x0), .second, .val (.long x1), .second] [] := by first | (simp [entryFrame, mkF, argsToLocals, Value.category]; done) | rfl
def Q_maxJ (Z : State) (q1 : Int64) (q2 : Int64) (h0 : Heap) (n0 : Nat) (v : Option Value) (h : Heap) (L : List Loc) : Prop := ∃ (r : Int64), v = some (.long r) ∧ Fr n0 L ∧ h = h0
theorem rm_maxJ (l : Launch) (Z : State) (a0 : Array Value) (hw : ∀ d ∈ tables_1, d.before a0 Z = true) (ws : List Jvm.Cond) (q1 : Int64) (q2 : Int64) (h0 : Heap) (n0 : Nat) (O0 : Old Z n0 h0) :
    MetFree l mY47 (head1 (Jvm.Cond.code mY47 jdk_29_method_66_code 4 (some .long) :: ws) R_3) (fun a U => a = #[(.long q1), (.long q2)] ∧ Z.Warmed39 U.vm ∧ U.heap = h0) (fun _ _ _ _ _ => True) (fun _ U o U' => ∃ v L, o = .returned v ∧ Q_maxJ Z q1 q2 h0 n0 v U'.heap L ∧ FrameEnd U o U' L R_3.cells R_3.slots) := by
  refine MetFree.of_bodySF (Jvm.Free.JP.mathPlain rfl (by decide +kernel)) hisR ?_
  intro p e s m args below meth c s₁ Bd hml0 hP hK
  obtain ⟨rfl, hZ, hh⟩ := hP
  have hx := Bd.exec
  have hby := Bd.bytes
  have hml : c.maxLocals = 4 := hml0
  have hown : s.vm.findClass "java/lang/Math" = some m.cls := findClass_of_methodNamed Bd.named
  have hnm := (name_of_methodNamed Bd.named Bd.method).1
  have X0 : Stand p l e R_3 s m #[(.long q1), (.long q2)] below meth c s₁ [] 0 0 := Stand.of_body Bd
  have e0 : s₁.heap = h0 := by rw [← hh, Bd.state]; rfl
  have N0 := Fr.nil n0
  show oG p e below s (Q_maxJ Z q1 q2 h0 n0) R_3.cells R_3.slots _
  refine oS (fun t k => castTop (ef_39_jj m q1 q2) k) ?_
  show oG _ _ _ _ _ _ _ (s₁.setTop (mkF m 0 #[.val (.long q1), .second, .val (.long q2), .second] []))
  refine oS (fun t k => XS.lloadN X0.here hx rfl (hb hby d39_0) rfl k) ?_
  refine oS (fun t k => XS.lloadN X0.here hx rfl (hb hby d39_1) rfl k) ?_
  refine oS (fun t k => XS.lcmp X0.here hx rfl (hb hby d39_2) rfl k) ?_
  by_cases hc3 : q1 < q2
  · refine oS (fun t k => XS.ifYes X0.here hx rfl (pc0 := 3) (pc' := 10) rfl (hb hby d39_3) rfl ((if0 _ _).trans (tlt ((lw_lt q1 q2).mpr hc3)).1) (by decide) (by decide) k) ?_
    refine oS (fun t k => XS.lloadN X0.here hx rfl (hb hby d39_10) rfl k) ?_
    exact own_ret (v := some (.long q2)) X0 (fun h => by rw [Bd.returns] at h; cases h) Bd.notSynchronized (fun fs hr => retOut X0 hx (t := .long) Bd.returns rfl (Or.inr (Or.inl ⟨rfl, rfl, _, rfl⟩)) (hb hby d39_11) hr) (by rw [e0]; exact ⟨q2, rfl, N0, rfl⟩) (by decide) (by decide)
  · refine oS (fun t k => XS.ifNo X0.here hx rfl (hb hby d39_3) rfl ((if0 _ _).trans (flt (fun q => hc3 ((lw_lt q1 q2).mp q))).1) k) ?_
    refine oS (fun t k => XS.lloadN X0.here hx rfl (hb hby d39_6) rfl k) ?_
    refine oS (fun t k => XS.goto X0.here hx rfl (pc0 := 7) (pc' := 11) rfl (hb hby d39_7) (by decide) (by decide) k) ?_
    exact own_ret (v := some (.long q1)) X0 (fun h => by rw [Bd.returns] at h; cases h) Bd.notSynchronized (fun fs hr => retOut X0 hx (t := .long) Bd.returns rfl (Or.inr (Or.inl ⟨rfl, rfl, _, rfl⟩)) (hb hby d39_11) hr) (by rw [e0]; exact ⟨q1, rfl, N0, rfl⟩) (by decide) (by decide)
theorem d33_0 : decode jdk_65_method_117_code 0 = .ok (.iconst 0, 1) := by decide +kernel
theorem d33_1 : decode jdk_65_method_117_code 1 = .ok (.istore_n 2, 1) := by decide +kernel
theorem d33_2 : decode jdk_65_method_117_code 2 = .ok (.aload_n 0, 1) := by decide +kernel
theorem d33_3 : decode jdk_65_method_117_code 3 = .ok (.arraylength, 1) := by decide +kernel
theorem d33_4 : decode jdk_65_method_117_code 4 = .ok (.istore_n 3, 1) := by decide +kernel
theorem d33_5 : decode jdk_65_method_117_code 5 = .ok (.iload_n 2, 1) := by decide +kernel
theorem d33_6 : decode jdk_65_method_117_code 6 = .ok (.iload_n 3, 1) := by decide +kernel
theorem d33_7 : decode jdk_65_method_117_code 7 = .ok (.if_icmp .ge 13, 3) := by decide +kernel
theorem d33_10 : decode jdk_65_method_117_code 10 = .ok (.aload_n 0, 1) := by decide +kernel
theorem d33_11 : decode jdk_65_method_117_code 11 = .ok (.iload_n 2, 1) := by decide +kernel
theorem d33_12 : decode jdk_65_method_117_code 12 = .ok (.aload_n 1, 1) := by decide +kernel
theorem d33_13 : decode jdk_65_method_117_code 13 = .ok (.aastore, 1) := by decide +kernel
theorem d33_14 : decode jdk_65_method_117_code 14 = .ok (.iinc 2 1, 3) := by decide +kernel
theorem d33_17 : decode jdk_65_method_117_code 17 = .ok (.goto (-12), 3) := by decide +kernel
theorem d33_20 : decode jdk_65_method_117_code 20 = .ok (.return_, 1) := by decide +kernel
abbrev mY48 : MethodName := (⟨"java/util/Arrays", "fill", "([Ljava/lang/Object;Ljava/lang/Object;)V"⟩ : MethodName)
theorem ef_33_rr (m : MethodId) (x0 : Addr) (x1 : Addr) : entryFrame m #[(.ref x0), (.ref x1)] 4 = mkF m 0 #[.val (.ref x0), .val (.ref x1), .unset, .unset] [] := by first | (simp [entryFrame, mkF, argsToLocals, Value.category]; done) | rfl
def Q_fill (Z : State) (a1 : Addr) (a2 : Addr) (k : ClassId) (w : Nat → Addr) (h0 : Heap) (n0 : Nat) (v : Option Value) (h : Heap) (L : List Loc) : Prop := v = none ∧ Fr n0 L ∧ Keep h0 h [a1] ∧ Arv Z h a1 k (.array .long) (2 : Int32) [(.ref a2), (.ref a2)] .null
theorem rm_fill (l : Launch) (Z : State) (a0 : Array Value) (hw : ∀ d ∈ tables_1, d.before a0 Z = true) (ws : List Jvm.Cond) (a1 : Addr) (a2 : Addr) (k : ClassId) (w : Nat → Addr) (h0 : Heap) (n0 : Nat) (O0 : Old Z n0 h0) (W : own_World Z w) (g_a1 : n0 ≤ a1) (V_a1 : Arv Z h0 a1 k (.array .long) (2 : Int32) [.null, .null] .null) (O_a1 : OvrA Z k .long "[J") (E_a2 : Exa Z h0 a2 "[J") :
    MetFree l mY48 (head1 (Jvm.Cond.code mY48 jdk_65_method_117_code 4 none :: ws) R_3) (fun a U => a = #[(.ref a1), (.ref a2)] ∧ Z.Warmed39 U.vm ∧ U.heap = h0) (fun _ _ _ _ _ => True) (fun _ U o U' => ∃ v L, o = .returned v ∧ Q_fill Z a1 a2 k w h0 n0 v U'.heap L ∧ FrameEnd U o U' L R_3.cells R_3.slots) := by
  refine MetFree.of_bodySF (plainFor_of_name pn_8) hisR ?_
  intro p e s m args below meth c s₁ Bd hml0 hP hK
  obtain ⟨rfl, hZ, hh⟩ := hP
  have hx := Bd.exec
  have hby := Bd.bytes
  have hml : c.maxLocals = 4 := hml0
  have hown : s.vm.findClass "java/util/Arrays" = some m.cls := findClass_of_methodNamed Bd.named
  have hnm := (name_of_methodNamed Bd.named Bd.method).1
  have X0 : Stand p l e R_3 s m #[(.ref a1), (.ref a2)] below meth c s₁ [] 0 0 := Stand.of_body Bd
  have e0 : s₁.heap = h0 := by rw [← hh, Bd.state]; rfl
  have N0 := Fr.nil n0
  show oG p e below s (Q_fill Z a1 a2 k w h0 n0) R_3.cells R_3.slots _
  refine oS (fun t k => castTop (ef_33_rr m a1 a2) k) ?_
  show oG _ _ _ _ _ _ _ (s₁.setTop (mkF m 0 #[.val (.ref a1), .val (.ref a2), .unset, .unset] []))
  refine oS (fun t k => oIc li_0 X0.here hx rfl (hb hby d33_0) k) ?_
  refine oS (fun t k => XS.istoreN X0.here hx rfl (hb hby d33_1) rfl (l' := #[.val (.ref a1), .val (.ref a2), .val (.int 0), .unset]) rfl k) ?_
  refine oS (fun t k => XS.aloadN X0.here hx rfl (hb hby d33_2) rfl rfl k) ?_
  obtain ⟨cl1, Ar1, -, Sz1, Ng1, -, -⟩ := id V_a1
  refine oS (S' := (s₁.setTop (mkF m 4 #[.val (.ref a1), .val (.ref a2), .val (.int 0), .unset] [(.int 2)]))) (fun t k => X0.arraylength hx (by rw [e0]; exact Ar1.1) (State.isArrayOf_alike hZ.alike Ar1.2.1) (g := (mkF m 3 #[.val (.ref a1), .val (.ref a2), .val (.int 0), .unset] [(.ref a1)])) rfl rfl (hb hby d33_3) t (by rw [len_of Sz1 Ng1]; exact k)) ?_
  refine oS (fun t k => XS.istoreN X0.here hx rfl (hb hby d33_4) rfl (l' := #[.val (.ref a1), .val (.ref a2), .val (.int 0), .val (.int 2)]) rfl k) ?_
  refine oS (fun t k => XS.iloadN X0.here hx rfl (hb hby d33_5) rfl k) ?_
  refine oS (fun t k => XS.iloadN X0.here hx rfl (hb hby d33_6) rfl k) ?_
  show oG _ _ _ _ _ _ _ (s₁.setTop (mkF m 7 #[.val (.ref a1), .val (.ref a2), .val (.int 0), .val (.int 2)] [(.int 2), (.int 0)]))
  refine oS (fun t k => XS.icmpNo X0.here hx rfl (hb hby d33_7) rfl (tlt (by decide)).2.1 k) ?_
  refine oS (fun t k => XS.aloadN X0.here hx rfl (hb hby d33_10) rfl rfl k) ?_
  refine oS (fun t k => XS.iloadN X0.here hx rfl (hb hby d33_11) rfl k) ?_
  refine oS (fun t k => XS.aloadN X0.here hx rfl (hb hby d33_12) rfl rfl k) ?_
  obtain ⟨cl2, Ar2, qk2, Sz2, Ng2, Ha2, Gf2⟩ := id V_a1
  have hin2 : ¬ ((0 : Int32) < 0 ∨ cl2.slots.size ≤ ((0 : Int32)).toNatClampNeg) := inb_of Sz2 ⟨by decide, by decide⟩
  obtain ⟨T3, h3, X3, e3, W3, st3⟩ := stR X0 hx hZ e0 Ar2 (j := (0 : Int32)) hin2 rfl (Sto.ofVA Ar2 qk2 O_a1 (Ins.self E_a2)) (g := (mkF m 13 #[.val (.ref a1), .val (.ref a2), .val (.int 0), .val (.int 2)] [(.ref a2), (.int 0), (.ref a1)])) rfl rfl (hb hby d33_13)
  have O3 := O0.wr W3 g_a1
  have N3 := Fr.snoc X3 N0 g_a1
  have Kp3 : Keep h0 h3 [a1] := (Keep.refl h0 [a1]).wr W3 (Or.inl (List.mem_of_getElem? (i := 0) rfl))
  have V3 : Arv Z h3 a1 k (.array .long) (2 : Int32) [(.ref a2), .null] .null := Arv.set Ar2 qk2 Sz2 Ng2 Ha2 Gf2 rfl W3 0 rfl (Nat.le_of_ble_eq_true rfl)
  clear hin2 Gf2 Ha2 Ng2 Sz2 qk2 Ar2 cl2
  refine oS (fun t k => st3 t k) ?_
  try clear st3
  refine oS (fun t k => XS.iinc X3.here hx rfl (hb hby d33_14) rfl (l' := #[.val (.ref a1), .val (.ref a2), .val (.int 1), .val (.int 2)]) rfl k) ?_
  show oG _ _ _ _ _ _ _ (T3.setTop (mkF m 17 #[.val (.ref a1), .val (.ref a2), .val (.int 1), .val (.int 2)] []))
  refine oS (fun t k => XS.goto X3.here hx rfl (pc0 := 17) (pc' := 5) rfl (hb hby d33_17) (by decide) (by decide) k) ?_
  refine oS (fun t k => XS.iloadN X3.here hx rfl (hb hby d33_5) rfl k) ?_
  refine oS (fun t k => XS.iloadN X3.here hx rfl (hb hby d33_6) rfl k) ?_
  refine oS (fun t k => XS.icmpNo X3.here hx rfl (hb hby d33_7) rfl (tlt (by decide)).2.1 k) ?_
  refine oS (fun t k => XS.aloadN X3.here hx rfl (hb hby d33_10) rfl rfl k) ?_
  refine oS (fun t k => XS.iloadN X3.here hx rfl (hb hby d33_11) rfl k) ?_
  refine oS (fun t k => XS.aloadN X3.here hx rfl (hb hby d33_12) rfl rfl k) ?_
  show oG _ _ _ _ _ _ _ (T3.setTop (mkF m 13 #[.val (.ref a1), .val (.ref a2), .val (.int 1), .val (.int 2)] [(.ref a2), (.int 1), (.ref a1)]))
  obtain ⟨cl4, Ar4, qk4, Sz4, Ng4, Ha4, Gf4⟩ := id V3
  have hin4 : ¬ ((1 : Int32) < 0 ∨ cl4.slots.size ≤ ((1 : Int32)).toNatClampNeg) := inb_of Sz4 ⟨by decide, by decide⟩
  obtain ⟨T5, h5, X5, e5, W5, st5⟩ := stR X3 hx hZ e3 Ar4 (j := (1 : Int32)) hin4 rfl (Sto.ofVA Ar4 qk4 O_a1 (Ins.self (E_a2.wr W3))) (g := (mkF m 13 #[.val (.ref a1), .val (.ref a2), .val (.int 1), .val (.int 2)] [(.ref a2), (.int 1), (.ref a1)])) rfl rfl (hb hby d33_13)
  have O5 := O3.wr W5 g_a1
  have N5 := Fr.snoc X5 N3 g_a1
  have Kp5 : Keep h0 h5 [a1] := Kp3.wr W5 (Or.inl (List.mem_of_getElem? (i := 0) rfl))
  have V5 : Arv Z h5 a1 k (.array .long) (2 : Int32) [(.ref a2), (.ref a2)] .null := Arv.set Ar4 qk4 Sz4 Ng4 Ha4 Gf4 rfl W5 1 rfl (Nat.le_of_ble_eq_true rfl)
  clear hin4 Gf4 Ha4 Ng4 Sz4 qk4 Ar4 cl4
  refine oS (fun t k => st5 t k) ?_
  try clear st5 X3 e3
  try clear T3
  refine oS (fun t k => XS.iinc X5.here hx rfl (hb hby d33_14) rfl (l' := #[.val (.ref a1), .val (.ref a2), .val (.int 2), .val (.int 2)]) rfl k) ?_
  show oG _ _ _ _ _ _ _ (T5.setTop (mkF m 17 #[.val (.ref a1), .val (.ref a2), .val (.int 2), .val (.int 2)] []))
  refine oS (fun t k => XS.goto X5.here hx rfl (pc0 := 17) (pc' := 5) rfl (hb hby d33_17) (by decide) (by decide) k) ?_
  refine oS (fun t k => XS.iloadN X5.here hx rfl (hb hby d33_5) rfl k) ?_
  refine oS (fun t k => XS.iloadN X5.here hx rfl (hb hby d33_6) rfl k) ?_
  refine oS (fun t k => XS.icmpYes X5.here hx rfl (pc0 := 7) (pc' := 20) rfl (hb hby d33_7) rfl (flt (by decide)).2.1 (by decide) (by decide) k) ?_
  exact own_ret (v := none) X5 (fun _ => rfl) Bd.notSynchronized (fun fs hr => X5.returnOut hx Bd.returns (hb hby d33_20) hr) (by rw [e5]; exact ⟨rfl, N5, Kp5, V5⟩) (by decide) (by decide)
theorem d28_0 : decode prog_56_method_1_code 0 = .ok (.aload_n 0, 1) := by decide +kernel
theorem d28_1 : decode prog_56_method_1_code 1 = .ok (.invokespecial 1, 3) := by decide +kernel
theorem d28_4 : decode prog_56_method_1_code 4 = .ok (.aload_n 1, 1) := by decide +kernel
theorem d28_5 : decode prog_56_method_1_code 5 = .ok (.invokevirtual 7, 3) := by decide +kernel
theorem d28_8 : decode prog_56_method_1_code 8 = .ok (.invokeinterface 13 1, 5) := by decide +kernel
abbrev mY49 : MethodName := (⟨"java/util/List", "size", "()I"⟩ : MethodName)
theorem d28_13 : decode prog_56_method_1_code 13 = .ok (.istore_n 2, 1) := by decide +kernel
theorem d28_14 : decode prog_56_method_1_code 14 = .ok (.aload_n 1, 1) := by decide +kernel
theorem d28_15 : decode prog_56_method_1_code 15 = .ok (.invokevirtual 19, 3) := by decide +kernel
theorem d28_18 : decode prog_56_method_1_code 18 = .ok (.invokeinterface 13 1, 5) := by decide +kernel
theorem d28_23 : decode prog_56_method_1_code 23 = .ok (.istore_n 3, 1) := by decide +kernel
theorem d28_24 : decode prog_56_method_1_code 24 = .ok (.aload_n 0, 1) := by decide +kernel
theorem d28_25 : decode prog_56_method_1_code 25 = .ok (.iload_n 2, 1) := by decide +kernel
theorem d28_26 : decode prog_56_method_1_code 26 = .ok (.iconst 1, 1) := by decide +kernel
theorem d28_27 : decode prog_56_method_1_code 27 = .ok (.iadd, 1) := by decide +kernel
theorem d28_28 : decode prog_56_method_1_code 28 = .ok (.putfield 22, 3) := by decide +kernel
theorem d28_31 : decode prog_56_method_1_code 31 = .ok (.iload_n 3, 1) := by decide +kernel
theorem d28_32 : decode prog_56_method_1_code 32 = .ok (.iconst 1, 1) := by decide +kernel
theorem d28_33 : decode prog_56_method_1_code 33 = .ok (.iadd, 1) := by decide +kernel
theorem d28_34 : decode prog_56_method_1_code 34 = .ok (.newarray .long, 2) := by decide +kernel
theorem d28_36 : decode prog_56_method_1_code 36 = .ok (.astore 4, 2) := by decide +kernel
theorem d28_38 : decode prog_56_method_1_code 38 = .ok (.aload_n 0, 1) := by decide +kernel
theorem d28_39 : decode prog_56_method_1_code 39 = .ok (.aload_n 1, 1) := by decide +kernel
theorem d28_40 : decode prog_56_method_1_code 40 = .ok (.invokevirtual 28, 3) := by decide +kernel
theorem d28_43 : decode prog_56_method_1_code 43 = .ok (.iload_n 2, 1) := by decide +kernel
theorem d28_44 : decode prog_56_method_1_code 44 = .ok (.multianewarray 31 2, 4) := by decide +kernel
theorem d28_48 : decode prog_56_method_1_code 48 = .ok (.putfield 33, 3) := by decide +kernel
theorem d28_51 : decode prog_56_method_1_code 51 = .ok (.aload_n 0, 1) := by decide +kernel
theorem d28_52 : decode prog_56_method_1_code 52 = .ok (.getfield 33, 3) := by decide +kernel
theorem d28_55 : decode prog_56_method_1_code 55 = .ok (.astore 5, 2) := by decide +kernel
theorem d28_57 : decode prog_56_method_1_code 57 = .ok (.aload 5, 2) := by decide +kernel
theorem d28_59 : decode prog_56_method_1_code 59 = .ok (.arraylength, 1) := by decide +kernel
theorem d28_60 : decode prog_56_method_1_code 60 = .ok (.istore 6, 2) := by decide +kernel
theorem d28_62 : decode prog_56_method_1_code 62 = .ok (.iconst 0, 1) := by decide +kernel
theorem d28_63 : decode prog_56_method_1_code 63 = .ok (.istore 7, 2) := by decide +kernel
theorem d28_65 : decode prog_56_method_1_code 65 = .ok (.iload 7, 2) := by decide +kernel
theorem d28_67 : decode prog_56_method_1_code 67 = .ok (.iload 6, 2) := by decide +kernel
theorem d28_69 : decode prog_56_method_1_code 69 = .ok (.if_icmp .ge 23, 3) := by decide +kernel
theorem d28_72 : decode prog_56_method_1_code 72 = .ok (.aload 5, 2) := by decide +kernel
theorem d28_74 : decode prog_56_method_1_code 74 = .ok (.iload 7, 2) := by decide +kernel
theorem d28_76 : decode prog_56_method_1_code 76 = .ok (.aaload, 1) := by decide +kernel
theorem d28_77 : decode prog_56_method_1_code 77 = .ok (.astore 8, 2) := by decide +kernel
theorem d28_79 : decode prog_56_method_1_code 79 = .ok (.aload 8, 2) := by decide +kernel
theorem d28_81 : decode prog_56_method_1_code 81 = .ok (.aload 4, 2) := by decide +kernel
theorem d28_83 : decode prog_56_method_1_code 83 = .ok (.invokestatic 36, 3) := by decide +kernel
theorem pd_17 : parseMethodDescriptor "([Ljava/lang/Object;Ljava/lang/Object;)V" = some ⟨[(.array (.object "java/lang/Object")), (.object "java/lang/Object")], none⟩ := by decide +kernel
theorem d28_86 : decode prog_56_method_1_code 86 = .ok (.iinc 7 1, 3) := by decide +kernel
theorem d28_89 : decode prog_56_method_1_code 89 = .ok (.goto (-24), 3) := by decide +kernel
theorem d28_92 : decode prog_56_method_1_code 92 = .ok (.aload_n 1, 1) := by decide +kernel
theorem d28_93 : decode prog_56_method_1_code 93 = .ok (.invokevirtual 28, 3) := by decide +kernel
theorem d28_96 : decode prog_56_method_1_code 96 = .ok (.iload_n 2, 1) := by decide +kernel
theorem d28_97 : decode prog_56_method_1_code 97 = .ok (.multianewarray 42 2, 4) := by decide +kernel
theorem d28_101 : decode prog_56_method_1_code 101 = .ok (.astore 5, 2) := by decide +kernel
theorem d28_103 : decode prog_56_method_1_code 103 = .ok (.aload_n 1, 1) := by decide +kernel
theorem d28_104 : decode prog_56_method_1_code 104 = .ok (.invokevirtual 44, 3) := by decide +kernel
theorem d28_107 : decode prog_56_method_1_code 107 = .ok (.invokeinterface 46 1, 5) := by decide +kernel
theorem pd_18 : parseMethodDescriptor "()Ljava/util/Iterator;" = some ⟨[], some (.object "java/util/Iterator")⟩ := by decide +kernel
abbrev mY50 : MethodName := (⟨"java/util/List", "iterator", "()Ljava/util/Iterator;"⟩ : MethodName)
theorem d28_112 : decode prog_56_method_1_code 112 = .ok (.astore 6, 2) := by decide +kernel
theorem d28_114 : decode prog_56_method_1_code 114 = .ok (.aload 6, 2) := by decide +kernel
theorem d28_116 : decode prog_56_method_1_code 116 = .ok (.invokeinterface 50 1, 5) := by decide +kernel
abbrev mY51 : MethodName := (⟨"java/util/Iterator", "hasNext", "()Z"⟩ : MethodName)
theorem d28_121 : decode prog_56_method_1_code 121 = .ok (.ifCond .eq 173, 3) := by decide +kernel
theorem d28_294 : decode prog_56_method_1_code 294 = .ok (.lconst 0, 1) := by decide +kernel
theorem ll_0 : Int64.ofNat ((0 : Fin 2) : Nat) = (0 : Int64) := by decide
theorem d28_295 : decode prog_56_method_1_code 295 = .ok (.lstore 6, 2) := by decide +kernel
theorem d28_297 : decode prog_56_method_1_code 297 = .ok (.aload 5, 2) := by decide +kernel
theorem d28_299 : decode prog_56_method_1_code 299 = .ok (.astore 8, 2) := by decide +kernel
theorem d28_301 : decode prog_56_method_1_code 301 = .ok (.aload 8, 2) := by decide +kernel
theorem d28_303 : decode prog_56_method_1_code 303 = .ok (.arraylength, 1) := by decide +kernel
theorem d28_304 : decode prog_56_method_1_code 304 = .ok (.istore 9, 2) := by decide +kernel
theorem d28_306 : decode prog_56_method_1_code 306 = .ok (.iconst 0, 1) := by decide +kernel
theorem d28_307 : decode prog_56_method_1_code 307 = .ok (.istore 10, 2) := by decide +kernel
theorem d28_309 : decode prog_56_method_1_code 309 = .ok (.iload 10, 2) := by decide +kernel
theorem d28_311 : decode prog_56_method_1_code 311 = .ok (.iload 9, 2) := by decide +kernel
theorem d28_313 : decode prog_56_method_1_code 313 = .ok (.if_icmp .ge 57, 3) := by decide +kernel
theorem d28_316 : decode prog_56_method_1_code 316 = .ok (.aload 8, 2) := by decide +kernel
theorem d28_318 : decode prog_56_method_1_code 318 = .ok (.iload 10, 2) := by decide +kernel
theorem d28_320 : decode prog_56_method_1_code 320 = .ok (.aaload, 1) := by decide +kernel
theorem d28_321 : decode prog_56_method_1_code 321 = .ok (.astore 11, 2) := by decide +kernel
theorem d28_323 : decode prog_56_method_1_code 323 = .ok (.aload 11, 2) := by decide +kernel
theorem d28_325 : decode prog_56_method_1_code 325 = .ok (.astore 12, 2) := by decide +kernel
theorem d28_327 : decode prog_56_method_1_code 327 = .ok (.aload 12, 2) := by decide +kernel
theorem d28_329 : decode prog_56_method_1_code 329 = .ok (.arraylength, 1) := by decide +kernel
theorem d28_330 : decode prog_56_method_1_code 330 = .ok (.istore 13, 2) := by decide +kernel
theorem d28_332 : decode prog_56_method_1_code 332 = .ok (.iconst 0, 1) := by decide +kernel
theorem d28_333 : decode prog_56_method_1_code 333 = .ok (.istore 14, 2) := by decide +kernel
theorem d28_335 : decode prog_56_method_1_code 335 = .ok (.iload 14, 2) := by decide +kernel
theorem d28_337 : decode prog_56_method_1_code 337 = .ok (.iload 13, 2) := by decide +kernel
theorem d28_339 : decode prog_56_method_1_code 339 = .ok (.if_icmp .ge 25, 3) := by decide +kernel
theorem d28_342 : decode prog_56_method_1_code 342 = .ok (.aload 12, 2) := by decide +kernel
theorem d28_344 : decode prog_56_method_1_code 344 = .ok (.iload 14, 2) := by decide +kernel
theorem d28_346 : decode prog_56_method_1_code 346 = .ok (.laload, 1) := by decide +kernel
theorem d28_347 : decode prog_56_method_1_code 347 = .ok (.lstore 15, 2) := by decide +kernel
theorem d28_349 : decode prog_56_method_1_code 349 = .ok (.lload 6, 2) := by decide +kernel
theorem d28_351 : decode prog_56_method_1_code 351 = .ok (.lload 15, 2) := by decide +kernel
theorem d28_353 : decode prog_56_method_1_code 353 = .ok (.invokestatic 83, 3) := by decide +kernel
theorem pd_19 : parseMethodDescriptor "(JJ)J" = some ⟨[.long, .long], some .long⟩ := by decide +kernel
theorem d28_356 : decode prog_56_method_1_code 356 = .ok (.lstore 6, 2) := by decide +kernel
theorem d28_358 : decode prog_56_method_1_code 358 = .ok (.iinc 14 1, 3) := by decide +kernel
theorem d28_361 : decode prog_56_method_1_code 361 = .ok (.goto (-26), 3) := by decide +kernel
theorem d28_364 : decode prog_56_method_1_code 364 = .ok (.iinc 10 1, 3) := by decide +kernel
theorem d28_367 : decode prog_56_method_1_code 367 = .ok (.goto (-58), 3) := by decide +kernel
theorem d28_370 : decode prog_56_method_1_code 370 = .ok (.aload_n 0, 1) := by decide +kernel
theorem d28_371 : decode prog_56_method_1_code 371 = .ok (.aload_n 1, 1) := by decide +kernel
theorem d28_372 : decode prog_56_method_1_code 372 = .ok (.invokevirtual 19, 3) := by decide +kernel
theorem d28_375 : decode prog_56_method_1_code 375 = .ok (.invokeinterface 13 1, 5) := by decide +kernel
theorem d28_380 : decode prog_56_method_1_code 380 = .ok (.aload_n 1, 1) := by decide +kernel
theorem d28_381 : decode prog_56_method_1_code 381 = .ok (.invokevirtual 28, 3) := by decide +kernel
theorem d28_384 : decode prog_56_method_1_code 384 = .ok (.aload_n 0, 1) := by decide +kernel
theorem d28_385 : decode prog_56_method_1_code 385 = .ok (.getfield 22, 3) := by decide +kernel
theorem d28_388 : decode prog_56_method_1_code 388 = .ok (.imul, 1) := by decide +kernel
theorem d28_389 : decode prog_56_method_1_code 389 = .ok (.multianewarray 42 2, 4) := by decide +kernel
theorem d28_393 : decode prog_56_method_1_code 393 = .ok (.putfield 86, 3) := by decide +kernel
theorem d28_396 : decode prog_56_method_1_code 396 = .ok (.aload_n 1, 1) := by decide +kernel
theorem d28_397 : decode prog_56_method_1_code 397 = .ok (.invokevirtual 89, 3) := by decide +kernel
theorem d28_400 : decode prog_56_method_1_code 400 = .ok (.invokeinterface 46 1, 5) := by decide +kernel
theorem d28_405 : decode prog_56_method_1_code 405 = .ok (.astore 8, 2) := by decide +kernel
theorem d28_407 : decode prog_56_method_1_code 407 = .ok (.aload 8, 2) := by decide +kernel
theorem d28_409 : decode prog_56_method_1_code 409 = .ok (.invokeinterface 50 1, 5) := by decide +kernel
theorem d28_414 : decode prog_56_method_1_code 414 = .ok (.ifCond .eq 81, 3) := by decide +kernel
theorem d28_417 : decode prog_56_method_1_code 417 = .ok (.aload 8, 2) := by decide +kernel
theorem d28_419 : decode prog_56_method_1_code 419 = .ok (.invokeinterface 56 1, 5) := by decide +kernel
theorem pd_20 : parseMethodDescriptor "()Ljava/lang/Object;" = some ⟨[], some (.object "java/lang/Object")⟩ := by decide +kernel
abbrev mY52 : MethodName := (⟨"java/util/Iterator", "next", "()Ljava/lang/Object;"⟩ : MethodName)
theorem d28_424 : decode prog_56_method_1_code 424 = .ok (.checkcast 92, 3) := by decide +kernel
theorem d28_427 : decode prog_56_method_1_code 427 = .ok (.astore 9, 2) := by decide +kernel
theorem d28_429 : decode prog_56_method_1_code 429 = .ok (.iconst 0, 1) := by decide +kernel
theorem d28_430 : decode prog_56_method_1_code 430 = .ok (.istore 10, 2) := by decide +kernel
theorem d28_432 : decode prog_56_method_1_code 432 = .ok (.iload 10, 2) := by decide +kernel
theorem d28_434 : decode prog_56_method_1_code 434 = .ok (.aload_n 0, 1) := by decide +kernel
theorem d28_435 : decode prog_56_method_1_code 435 = .ok (.getfield 22, 3) := by decide +kernel
theorem d28_438 : decode prog_56_method_1_code 438 = .ok (.if_icmp .ge 54, 3) := by decide +kernel
theorem d28_441 : decode prog_56_method_1_code 441 = .ok (.iload 10, 2) := by decide +kernel
theorem d28_443 : decode prog_56_method_1_code 443 = .ok (.aload 9, 2) := by decide +kernel
theorem d28_445 : decode prog_56_method_1_code 445 = .ok (.invokevirtual 94, 3) := by decide +kernel
theorem d28_448 : decode prog_56_method_1_code 448 = .ok (.iconst 1, 1) := by decide +kernel
theorem d28_449 : decode prog_56_method_1_code 449 = .ok (.iadd, 1) := by decide +kernel
theorem d28_450 : decode prog_56_method_1_code 450 = .ok (.if_icmp .eq 36, 3) := by decide +kernel
theorem d28_486 : decode prog_56_method_1_code 486 = .ok (.iinc 10 1, 3) := by decide +kernel
theorem d28_489 : decode prog_56_method_1_code 489 = .ok (.goto (-57), 3) := by decide +kernel
theorem d28_453 : decode prog_56_method_1_code 453 = .ok (.aload_n 0, 1) := by decide +kernel
theorem d28_454 : decode prog_56_method_1_code 454 = .ok (.getfield 86, 3) := by decide +kernel
theorem d28_457 : decode prog_56_method_1_code 457 = .ok (.aload 9, 2) := by decide +kernel
theorem d28_459 : decode prog_56_method_1_code 459 = .ok (.invokevirtual 95, 3) := by decide +kernel
theorem d28_462 : decode prog_56_method_1_code 462 = .ok (.aaload, 1) := by decide +kernel
theorem d28_463 : decode prog_56_method_1_code 463 = .ok (.aload 9, 2) := by decide +kernel
theorem d28_465 : decode prog_56_method_1_code 465 = .ok (.invokevirtual 97, 3) := by decide +kernel
theorem d28_468 : decode prog_56_method_1_code 468 = .ok (.aload_n 0, 1) := by decide +kernel
theorem d28_469 : decode prog_56_method_1_code 469 = .ok (.getfield 22, 3) := by decide +kernel
theorem d28_472 : decode prog_56_method_1_code 472 = .ok (.imul, 1) := by decide +kernel
theorem d28_473 : decode prog_56_method_1_code 473 = .ok (.iload 10, 2) := by decide +kernel
theorem d28_475 : decode prog_56_method_1_code 475 = .ok (.iadd, 1) := by decide +kernel
theorem d28_476 : decode prog_56_method_1_code 476 = .ok (.dup2, 1) := by decide +kernel
theorem d28_477 : decode prog_56_method_1_code 477 = .ok (.laload, 1) := by decide +kernel
theorem d28_478 : decode prog_56_method_1_code 478 = .ok (.aload 9, 2) := by decide +kernel
theorem d28_480 : decode prog_56_method_1_code 480 = .ok (.invokevirtual 98, 3) := by decide +kernel
theorem d28_483 : decode prog_56_method_1_code 483 = .ok (.i2l, 1) := by decide +kernel
theorem d28_484 : decode prog_56_method_1_code 484 = .ok (.ladd, 1) := by decide +kernel
theorem d28_485 : decode prog_56_method_1_code 485 = .ok (.lastore, 1) := by decide +kernel
abbrev R_26 : Room := { frames := 3, cells := 13, slots := 41, locals := 39 }
theorem pc_on (l : Launch) (Z : State) (a0 : Array Value) (hw : ∀ d ∈ tables_1, d.before a0 Z = true) (w : Nat → Addr) (W : own_World Z w) {p : Program} {e : Env} {s : State} {m : MethodId} {args : Array Value} {below : List Frame} {meth : Method} {c : Code} {Q : Option Value → Heap → List Loc → Prop} {qc qs : Nat} (hx : p.tables.exec = Jvm.exec) (hby : c.code = prog_56_method_1_code) (hml : c.maxLocals = 19) (hZ : Z.Warmed39 s.vm) (hown : s.vm.findClass "com/example/shiftweave/shiftweave/rostering/Penalties" = some m.cls) (T0 : State) (L0 : List Loc) (h0 : Heap) (n0 : Nat) (a1 : Addr) (u : Addr) (ra : Addr) (rb : Addr) (rc : Addr) (ka : ClassId) (kb : ClassId) (F : Nat → Int64) (i1 : Int32) (i2 : Int32) (i3 : Int32) (i4 : Int32) (kk : Int32) (kn : Int32) (y1 y2 y3 y4 y5 y6 y7 y8 y11 y12 y13 y14 y15 y16 y17 y18 : Slot)
    (X0 : Stand p l e R_26 s m args below meth c T0 L0 12 37) (e0 : T0.heap = h0) (N0 : Fr n0 L0) (O0 : Old Z n0 h0) (F_choices_a1 : Fld Z h0 a1 "com/example/shiftweave/shiftweave/rostering/Penalties" "choices" "I" (.int 3)) (F_requests_a1 : Fld Z h0 a1 "com/example/shiftweave/shiftweave/rostering/Penalties" "requests" "[[J" (.ref ra)) (V_ra : Arv Z h0 ra ka (.array .long) (2 : Int32) [(.ref rb), (.ref rc)] .null) (A_rb : own_Arf Z h0 rb kb (6 : Int32) F) (A_rc : own_Arf Z h0 rc kb (6 : Int32) (own_hi F)) (E_u : Exa Z h0 u "com/example/shiftweave/shiftweave/rostering/ShiftRequest") (F_staff_u : Fld Z h0 u "com/example/shiftweave/shiftweave/rostering/ShiftRequest" "staff" "I" (.int i1)) (F_day_u : Fld Z h0 u "com/example/shiftweave/shiftweave/rostering/ShiftRequest" "day" "I" (.int i2)) (F_shift_u : Fld Z h0 u "com/example/shiftweave/shiftweave/rostering/ShiftRequest" "shift" "I" (.int i3)) (F_weight_u : Fld Z h0 u "com/example/shiftweave/shiftweave/rostering/ShiftRequest" "weight" "I" (.int i4)) (g_rb : n0 ≤ rb) (g_rc : n0 ≤ rc) (ne_rb_rc : rb ≠ rc) (hi1 : i1 = (0 : Int32) ∨ i1 = (1 : Int32)) (hi2 : i2 = (0 : Int32) ∨ i2 = (1 : Int32)) (hk : kk = (0 : Int32) ∨ kk = (1 : Int32) ∨ kk = (2 : Int32)) (hlt : kk < (3 : Int32)) (hkn : (kk + (1 : Int32)) = kn)
    (cut : ∀ (T' : State) (L' : List Loc) (h' : Heap) (G : Nat → Int64), Stand p l e R_26 s m args below meth c T' L' 12 37 → T'.heap = h' → Fr n0 L' → Keep h0 h' [rb, rc] → G = own_on1 F i1 i2 i3 i4 kk → own_Arf Z h' rb kb (6 : Int32) G → own_Arf Z h' rc kb (6 : Int32) (own_hi G) → oG p e below s Q qc qs (T'.setTop (mkF m 432 #[.val (.ref a1), y1, y2, y3, y4, y5, y6, y7, y8, .val (.ref u), .val (.int kn), y11, y12, y13, y14, y15, y16, y17, y18] []))) :
    oG p e below s Q qc qs (T0.setTop (mkF m 432 #[.val (.ref a1), y1, y2, y3, y4, y5, y6, y7, y8, .val (.ref u), .val (.int kk), y11, y12, y13, y14, y15, y16, y17, y18] [])) := by
  refine oS (fun t k => XS.iload X0.here hx rfl (hb hby d28_432) rfl k) ?_
  refine oS (fun t k => XS.aloadN X0.here hx rfl (hb hby d28_434) rfl rfl k) ?_
  obtain ⟨T1, X1, e1, st1⟩ := getF X0 hx hZ hown (host := "") (Or.inl (oW hw 224 rfl)) Via.refl e0 F_choices_a1 (g := (mkF m 435 #[.val (.ref a1), y1, y2, y3, y4, y5, y6, y7, y8, .val (.ref u), .val (.int kk), y11, y12, y13, y14, y15, y16, y17, y18] [(.ref a1), (.int kk)])) rfl rfl (hb hby d28_435)
  refine oS (fun t k => st1 t k) ?_
  try clear st1
  refine oS (fun t k => XS.icmpNo X1.here hx rfl (hb hby d28_438) rfl (tlt hlt).2.1 k) ?_
  refine oS (fun t k => XS.iload X1.here hx rfl (hb hby d28_441) rfl k) ?_
  refine oS (fun t k => XS.aload X1.here hx rfl (hb hby d28_443) rfl rfl k) ?_
  obtain ⟨cq2, kq2, q2a, q2b, q2c⟩ := isOf hZ e1 E_u
  obtain ⟨_, _, ⟨T2, L2, k2, n2⟩, -, X2, ⟨Lc2, hQ2, l2, y2, z2⟩, st2⟩ := X1.virtualBack hx (y := mY36) (z := mY36) hown (oM hZ hw 321 rfl) (oM hZ hw 322 rfl) (notFace_of_selects (args := #[]) (oM hZ hw 324 rfl)) (oM hZ hw 324 rfl) (oM hZ hw 323 rfl) (by decide) (backOf (W := 1) (rm_s_shift l Z a0 hw [] u i3  h0 n0 O0  F_shift_u) hZ (oW hw 325 rfl) (oW hw 67 rfl) (by decide) (by decide)) q2a q2c (g := (mkF m 445 #[.val (.ref a1), y1, y2, y3, y4, y5, y6, y7, y8, .val (.ref u), .val (.int kk), y11, y12, y13, y14, y15, y16, y17, y18] [(.ref u), (.int kk)])) rfl (by rw [hml]; rfl) (Steps.refl _) (argsL := []) (rest := [(.int kk)]) (lenOf pd_14 rfl) rfl (by show 2 * 0 + _ ≤ _; exact Nat.le_of_eq rfl) (hb hby d28_445) (fun _ _ => ⟨rfl, e1, (by decide : 12 + 0 ≤ _), (by decide : 37 + 0 ≤ _)⟩)
  dsimp only [Pt.U, Pt.locs, Pt.cells, Pt.slots] at X2 l2 y2 z2 st2 hQ2
  rw [l2, y2, z2] at X2
  clear l2 y2 z2
  obtain ⟨rfl, Nq2, e2⟩ := hQ2
  have N2 := Fr.app N0 Nq2
  refine oS (fun t k => st2.trans k) ?_
  show oG _ _ _ _ _ _ _ (T2.setTop (mkF m 448 #[.val (.ref a1), y1, y2, y3, y4, y5, y6, y7, y8, .val (.ref u), .val (.int kk), y11, y12, y13, y14, y15, y16, y17, y18] [(.int i3), (.int kk)]))
  try clear st2 X1 e1
  try clear T1
  refine oS (fun t k => oIc li_1 X2.here hx rfl (hb hby d28_448) k) ?_
  refine oS (fun t k => XS.iadd X2.here hx rfl (hb hby d28_449) rfl k) ?_
  by_cases hc450 : kk = (i3 + (1 : Int32))
  · refine oS (fun t k => XS.icmpYes X2.here hx rfl (pc0 := 450) (pc' := 486) rfl (hb hby d28_450) rfl (teq hc450).1 (by decide) (by decide) k) ?_
    refine oS (fun t k => XS.iinc X2.here hx rfl (hb hby d28_486) rfl (l' := #[.val (.ref a1), y1, y2, y3, y4, y5, y6, y7, y8, .val (.ref u), .val (.int (kk + (1 : Int32))), y11, y12, y13, y14, y15, y16, y17, y18]) rfl k) ?_
    refine oS (fun t k => XS.goto X2.here hx rfl (pc0 := 489) (pc' := 432) rfl (hb hby d28_489) (by decide) (by decide) k) ?_
    rw [hkn]
    exact cut _ _ _ F X2 e2 N2 (Keep.refl h0 [rb, rc]) (if_pos hc450).symm A_rb A_rc
  · refine oS (fun t k => XS.icmpNo X2.here hx rfl (hb hby d28_450) rfl (feq hc450).1 k) ?_
    refine oS (fun t k => XS.aloadN X2.here hx rfl (hb hby d28_453) rfl rfl k) ?_
    obtain ⟨T3, X3, e3, st3⟩ := getF X2 hx hZ hown (host := "") (Or.inl (oW hw 293 rfl)) Via.refl e2 F_requests_a1 (g := (mkF m 454 #[.val (.ref a1), y1, y2, y3, y4, y5, y6, y7, y8, .val (.ref u), .val (.int kk), y11, y12, y13, y14, y15, y16, y17, y18] [(.ref a1)])) rfl rfl (hb hby d28_454)
    refine oS (fun t k => st3 t k) ?_
    try clear st3 X2 e2
    refine oS (fun t k => XS.aload X3.here hx rfl (hb hby d28_457) rfl rfl k) ?_
    obtain ⟨cq4, kq4, q4a, q4b, q4c⟩ := isOf hZ e3 E_u
    obtain ⟨_, _, ⟨T4, L4, k4, n4⟩, -, X4, ⟨Lc4, hQ4, l4, y4, z4⟩, st4⟩ := X3.virtualBack hx (y := mY34) (z := mY34) hown (oM hZ hw 326 rfl) (oM hZ hw 327 rfl) (notFace_of_selects (args := #[]) (oM hZ hw 329 rfl)) (oM hZ hw 329 rfl) (oM hZ hw 328 rfl) (by decide) (backOf (W := 1) (rm_s_staff l Z a0 hw [] u i1  h0 n0 O0  F_staff_u) hZ (oW hw 330 rfl) (oW hw 67 rfl) (by decide) (by decide)) q4a q4c (g := (mkF m 459 #[.val (.ref a1), y1, y2, y3, y4, y5, y6, y7, y8, .val (.ref u), .val (.int kk), y11, y12, y13, y14, y15, y16, y17, y18] [(.ref u), (.ref ra)])) rfl (by rw [hml]; rfl) (Steps.refl _) (argsL := []) (rest := [(.ref ra)]) (lenOf pd_14 rfl) rfl (by show 2 * 0 + _ ≤ _; exact Nat.le_of_eq rfl) (hb hby d28_459) (fun _ _ => ⟨rfl, e3, (by decide : 12 + 0 ≤ _), (by decide : 37 + 0 ≤ _)⟩)
    dsimp only [Pt.U, Pt.locs, Pt.cells, Pt.slots] at X4 l4 y4 z4 st4 hQ4
    rw [l4, y4, z4] at X4
    clear l4 y4 z4
    obtain ⟨rfl, Nq4, e4⟩ := hQ4
    have N4 := Fr.app N2 Nq4
    refine oS (fun t k => st4.trans k) ?_
    show oG _ _ _ _ _ _ _ (T4.setTop (mkF m 462 #[.val (.ref a1), y1, y2, y3, y4, y5, y6, y7, y8, .val (.ref u), .val (.int kk), y11, y12, y13, y14, y15, y16, y17, y18] [(.int i1), (.ref ra)]))
    try clear st4 X3 e3
    try clear T3
    show oG _ _ _ _ _ _ _ (T4.setTop (mkF m 462 #[.val (.ref a1), y1, y2, y3, y4, y5, y6, y7, y8, .val (.ref u), .val (.int kk), y11, y12, y13, y14, y15, y16, y17, y18] [(.int i1), (.ref ra)]))
    rcases hi1 with hs5 | hs5
    · rw [hs5]
      show oG _ _ _ _ _ _ _ (T4.setTop (mkF m 462 #[.val (.ref a1), y1, y2, y3, y4, y5, y6, y7, y8, .val (.ref u), .val (.int kk), y11, y12, y13, y14, y15, y16, y17, y18] [(.int 0), (.ref ra)]))
      obtain ⟨cl6, Ar6, qk6, Sz6, Ng6, Ha6, Gf6⟩ := id V_ra
      have hin6 : ¬ ((0 : Int32) < 0 ∨ cl6.slots.size ≤ ((0 : Int32)).toNatClampNeg) := (inb_of Sz6 ⟨by decide, by decide⟩)
      have hat6 : cl6.slots[((0 : Int32)).toNatClampNeg]? = some (.ref rb) := Ha6.at hin6 rfl
      refine oS (fun t k => X4.aaload hx (j := (0 : Int32)) (v := (.ref rb)) (by rw [e4]; exact Ar6.1) (State.isArrayOf_alike hZ.alike Ar6.2.1) rfl Ar6.2.2 hin6 hat6 (g := (mkF m 462 #[.val (.ref a1), y1, y2, y3, y4, y5, y6, y7, y8, .val (.ref u), .val (.int kk), y11, y12, y13, y14, y15, y16, y17, y18] [(.int 0), (.ref ra)])) rfl rfl (hb hby d28_462) t k) ?_
      refine oS (fun t k => XS.aload X4.here hx rfl (hb hby d28_463) rfl rfl k) ?_
      obtain ⟨cq7, kq7, q7a, q7b, q7c⟩ := isOf hZ e4 E_u
      obtain ⟨_, _, ⟨T7, L7, k7, n7⟩, -, X7, ⟨Lc7, hQ7, l7, y7, z7⟩, st7⟩ := X4.virtualBack hx (y := mY35) (z := mY35) hown (oM hZ hw 331 rfl) (oM hZ hw 332 rfl) (notFace_of_selects (args := #[]) (oM hZ hw 334 rfl)) (oM hZ hw 334 rfl) (oM hZ hw 333 rfl) (by decide) (backOf (W := 1) (rm_s_day l Z a0 hw [] u i2  h0 n0 O0  F_day_u) hZ (oW hw 335 rfl) (oW hw 67 rfl) (by decide) (by decide)) q7a q7c (g := (mkF m 465 #[.val (.ref a1), y1, y2, y3, y4, y5, y6, y7, y8, .val (.ref u), .val (.int kk), y11, y12, y13, y14, y15, y16, y17, y18] [(.ref u), (.ref rb)])) rfl (by rw [hml]; rfl) (Steps.refl _) (argsL := []) (rest := [(.ref rb)]) (lenOf pd_14 rfl) rfl (by show 2 * 0 + _ ≤ _; exact Nat.le_of_eq rfl) (hb hby d28_465) (fun _ _ => ⟨rfl, e4, (by decide : 12 + 0 ≤ _), (by decide : 37 + 0 ≤ _)⟩)
      dsimp only [Pt.U, Pt.locs, Pt.cells, Pt.slots] at X7 l7 y7 z7 st7 hQ7
      rw [l7, y7, z7] at X7
      clear l7 y7 z7
      obtain ⟨rfl, Nq7, e7⟩ := hQ7
      have N7 := Fr.app N4 Nq7
      refine oS (fun t k => st7.trans k) ?_
      show oG _ _ _ _ _ _ _ (T7.setTop (mkF m 468 #[.val (.ref a1), y1, y2, y3, y4, y5, y6, y7, y8, .val (.ref u), .val (.int kk), y11, y12, y13, y14, y15, y16, y17, y18] [(.int i2), (.ref rb)]))
      try clear st7 X4 e4
      refine oS (fun t k => XS.aloadN X7.here hx rfl (hb hby d28_468) rfl rfl k) ?_
      obtain ⟨T8, X8, e8, st8⟩ := getF X7 hx hZ hown (host := "") (Or.inl (oW hw 224 rfl)) Via.refl e7 F_choices_a1 (g := (mkF m 469 #[.val (.ref a1), y1, y2, y3, y4, y5, y6, y7, y8, .val (.ref u), .val (.int kk), y11, y12, y13, y14, y15, y16, y17, y18] [(.ref a1), (.int i2), (.ref rb)])) rfl rfl (hb hby d28_469)
      refine oS (fun t k => st8 t k) ?_
      try clear st8 X7 e7
      refine oS (fun t k => XS.imul X8.here hx rfl (hb hby d28_472) rfl k) ?_
      refine oS (fun t k => XS.iload X8.here hx rfl (hb hby d28_473) rfl k) ?_
      refine oS (fun t k => XS.iadd X8.here hx rfl (hb hby d28_475) rfl k) ?_
      refine oS (fun t k => XT.dup2 X8.here hx rfl (hb hby d28_476) rfl rfl rfl k) ?_
      obtain ⟨cl9, Ar9, qk9, Sz9, Ng9, Ha9⟩ := id A_rb
      have hin9 : ¬ (((i2 * (3 : Int32)) + kk) < 0 ∨ cl9.slots.size ≤ (((i2 * (3 : Int32)) + kk)).toNatClampNeg) := own_inb hi2 hk Sz9
      have hat9 := Ha9 _ (Nat.lt_of_not_le fun y => hin9 (Or.inr y))
      refine oS (fun t k => X8.laload hx (j := ((i2 * (3 : Int32)) + kk)) (v := (.long (F (((i2 * (3 : Int32)) + kk)).toNatClampNeg))) (by rw [e8]; exact Ar9.1) (State.isArrayOf_alike hZ.alike Ar9.2.1) Ar9.2.2 hin9 hat9 (g := (mkF m 477 #[.val (.ref a1), y1, y2, y3, y4, y5, y6, y7, y8, .val (.ref u), .val (.int kk), y11, y12, y13, y14, y15, y16, y17, y18] [(.int ((i2 * (3 : Int32)) + kk)), (.ref rb), (.int ((i2 * (3 : Int32)) + kk)), (.ref rb)])) rfl rfl (hb hby d28_477) t k) ?_
      show oG _ _ _ _ _ _ _ (T8.setTop (mkF m 478 #[.val (.ref a1), y1, y2, y3, y4, y5, y6, y7, y8, .val (.ref u), .val (.int kk), y11, y12, y13, y14, y15, y16, y17, y18] [(.long (F (((i2 * (3 : Int32)) + kk)).toNatClampNeg)), (.int ((i2 * (3 : Int32)) + kk)), (.ref rb)]))
      refine oS (fun t k => XS.aload X8.here hx rfl (hb hby d28_478) rfl rfl k) ?_
      obtain ⟨cq10, kq10, q10a, q10b, q10c⟩ := isOf hZ e8 E_u
      obtain ⟨_, _, ⟨T10, L10, k10, n10⟩, -, X10, ⟨Lc10, hQ10, l10, y10, z10⟩, st10⟩ := X8.virtualBack hx (y := mY37) (z := mY37) hown (oM hZ hw 336 rfl) (oM hZ hw 337 rfl) (notFace_of_selects (args := #[]) (oM hZ hw 339 rfl)) (oM hZ hw 339 rfl) (oM hZ hw 338 rfl) (by decide) (backOf (W := 4) (rm_s_weight l Z a0 hw [] u i4  h0 n0 O0  F_weight_u) hZ (oW hw 340 rfl) (oW hw 67 rfl) (by decide) (by decide)) q10a q10c (g := (mkF m 480 #[.val (.ref a1), y1, y2, y3, y4, y5, y6, y7, y8, .val (.ref u), .val (.int kk), y11, y12, y13, y14, y15, y16, y17, y18] [(.ref u), (.long (F (((i2 * (3 : Int32)) + kk)).toNatClampNeg)), (.int ((i2 * (3 : Int32)) + kk)), (.ref rb)])) rfl (by rw [hml]; rfl) (Steps.refl _) (argsL := []) (rest := [(.long (F (((i2 * (3 : Int32)) + kk)).toNatClampNeg)), (.int ((i2 * (3 : Int32)) + kk)), (.ref rb)]) (lenOf pd_14 rfl) rfl (by show 2 * 0 + _ ≤ _; exact Nat.le_of_eq rfl) (hb hby d28_480) (fun _ _ => ⟨rfl, e8, (by decide : 12 + 0 ≤ _), (by decide : 37 + 0 ≤ _)⟩)
      dsimp only [Pt.U, Pt.locs, Pt.cells, Pt.slots] at X10 l10 y10 z10 st10 hQ10
      rw [l10, y10, z10] at X10
      clear l10 y10 z10
      obtain ⟨rfl, Nq10, e10⟩ := hQ10
      have N10 := Fr.app N7 Nq10
      refine oS (fun t k => st10.trans k) ?_
      show oG _ _ _ _ _ _ _ (T10.setTop (mkF m 483 #[.val (.ref a1), y1, y2, y3, y4, y5, y6, y7, y8, .val (.ref u), .val (.int kk), y11, y12, y13, y14, y15, y16, y17, y18] [(.int i4), (.long (F (((i2 * (3 : Int32)) + kk)).toNatClampNeg)), (.int ((i2 * (3 : Int32)) + kk)), (.ref rb)]))
      try clear st10 X8 e8
      try clear T8
      refine oS (fun t k => XS.i2l X10.here hx rfl (hb hby d28_483) rfl k) ?_
      refine oS (fun t k => XS.ladd X10.here hx rfl (hb hby d28_484) rfl k) ?_
      obtain ⟨cl11, Ar11, qk11, Sz11, Ng11, Ha11⟩ := id A_rb
      have hin11 : ¬ (((i2 * (3 : Int32)) + kk) < 0 ∨ cl11.slots.size ≤ (((i2 * (3 : Int32)) + kk)).toNatClampNeg) := own_inb hi2 hk Sz11
      obtain ⟨T12, h12, X12, e12, W12, st12⟩ := stJ X10 hx hZ e10 Ar11 (j := ((i2 * (3 : Int32)) + kk)) hin11 (g := (mkF m 485 #[.val (.ref a1), y1, y2, y3, y4, y5, y6, y7, y8, .val (.ref u), .val (.int kk), y11, y12, y13, y14, y15, y16, y17, y18] [(.long ((F (((i2 * (3 : Int32)) + kk)).toNatClampNeg) + (i4.toInt64))), (.int ((i2 * (3 : Int32)) + kk)), (.ref rb)])) rfl rfl (hb hby d28_485)
      have O12 := O0.wr W12 g_rb
      have N12 := Fr.snoc X12 N10 g_rb
      have V12 := own_Arf.set Ar11 qk11 Sz11 Ng11 Ha11 W12 hin11
      clear hin11 Ha11 Ng11 Sz11 qk11 Ar11 cl11
      refine oS (fun t k => st12 t k) ?_
      try clear st12 X10 e10
      refine oS (fun t k => XS.iinc X12.here hx rfl (hb hby d28_486) rfl (l' := #[.val (.ref a1), y1, y2, y3, y4, y5, y6, y7, y8, .val (.ref u), .val (.int (kk + (1 : Int32))), y11, y12, y13, y14, y15, y16, y17, y18]) rfl k) ?_
      refine oS (fun t k => XS.goto X12.here hx rfl (pc0 := 489) (pc' := 432) rfl (hb hby d28_489) (by decide) (by decide) k) ?_
      rw [hkn]
      exact cut _ _ _ (own_st F i1 ((i2 * (3 : Int32)) + kk) i4) X12 e12 N12 ((Keep.refl h0 [rb, rc]).wr W12 (Or.inl (List.mem_of_getElem? (i := 0) rfl))) (if_neg hc450).symm (own_Arf.fn V12 (own_stb0 hs5)) (own_Arf.fn (A_rc.other W12 (Ne.symm ne_rb_rc)) (own_stc0 hs5 (own_lt6 (own_inb hi2 hk rfl))))
    · rw [hs5]
      show oG _ _ _ _ _ _ _ (T4.setTop (mkF m 462 #[.val (.ref a1), y1, y2, y3, y4, y5, y6, y7, y8, .val (.ref u), .val (.int kk), y11, y12, y13, y14, y15, y16, y17, y18] [(.int 1), (.ref ra)]))
      obtain ⟨cl13, Ar13, qk13, Sz13, Ng13, Ha13, Gf13⟩ := id V_ra
      have hin13 : ¬ ((1 : Int32) < 0 ∨ cl13.slots.size ≤ ((1 : Int32)).toNatClampNeg) := (inb_of Sz13 ⟨by decide, by decide⟩)
      have hat13 : cl13.slots[((1 : Int32)).toNatClampNeg]? = some (.ref rc) := Ha13.at hin13 rfl
      refine oS (fun t k => X4.aaload hx (j := (1 : Int32)) (v := (.ref rc)) (by rw [e4]; exact Ar13.1) (State.isArrayOf_alike hZ.alike Ar13.2.1) rfl Ar13.2.2 hin13 hat13 (g := (mkF m 462 #[.val (.ref a1), y1, y2, y3, y4, y5, y6, y7, y8, .val (.ref u), .val (.int kk), y11, y12, y13, y14, y15, y16, y17, y18] [(.int 1), (.ref ra)])) rfl rfl (hb hby d28_462) t k) ?_
      refine oS (fun t k => XS.aload X4.here hx rfl (hb hby d28_463) rfl rfl k) ?_
      obtain ⟨cq14, kq14, q14a, q14b, q14c⟩ := isOf hZ e4 E_u
      obtain ⟨_, _, ⟨T14, L14, k14, n14⟩, -, X14, ⟨Lc14, hQ14, l14, y14, z14⟩, st14⟩ := X4.virtualBack hx (y := mY35) (z := mY35) hown (oM hZ hw 331 rfl) (oM hZ hw 332 rfl) (notFace_of_selects (args := #[]) (oM hZ hw 334 rfl)) (oM hZ hw 334 rfl) (oM hZ hw 333 rfl) (by decide) (backOf (W := 1) (rm_s_day l Z a0 hw [] u i2  h0 n0 O0  F_day_u) hZ (oW hw 335 rfl) (oW hw 67 rfl) (by decide) (by decide)) q14a q14c (g := (mkF m 465 #[.val (.ref a1), y1, y2, y3, y4, y5, y6, y7, y8, .val (.ref u), .val (.int kk), y11, y12, y13, y14, y15, y16, y17, y18] [(.ref u), (.ref rc)])) rfl (by rw [hml]; rfl) (Steps.refl _) (argsL := []) (rest := [(.ref rc)]) (lenOf pd_14 rfl) rfl (by show 2 * 0 + _ ≤ _; exact Nat.le_of_eq rfl) (hb hby d28_465) (fun _ _ => ⟨rfl, e4, (by decide : 12 + 0 ≤ _), (by decide : 37 + 0 ≤ _)⟩)
      dsimp only [Pt.U, Pt.locs, Pt.cells, Pt.slots] at X14 l14 y14 z14 st14 hQ14
      rw [l14, y14, z14] at X14
      clear l14 y14 z14
      obtain ⟨rfl, Nq14, e14⟩ := hQ14
      have N14 := Fr.app N4 Nq14
      refine oS (fun t k => st14.trans k) ?_
      show oG _ _ _ _ _ _ _ (T14.setTop (mkF m 468 #[.val (.ref a1), y1, y2, y3, y4, y5, y6, y7, y8, .val (.ref u), .val (.int kk), y11, y12, y13, y14, y15, y16, y17, y18] [(.int i2), (.ref rc)]))
      try clear st14 X4 e4
      refine oS (fun t k => XS.aloadN X14.here hx rfl (hb hby d28_468) rfl rfl k) ?_
      obtain ⟨T15, X15, e15, st15⟩ := getF X14 hx hZ hown (host := "") (Or.inl (oW hw 224 rfl)) Via.refl e14 F_choices_a1 (g := (mkF m 469 #[.val (.ref a1), y1, y2, y3, y4, y5, y6, y7, y8, .val (.ref u), .val (.int kk), y11, y12, y13, y14, y15, y16, y17, y18] [(.ref a1), (.int i2), (.ref rc)])) rfl rfl (hb hby d28_469)
      refine oS (fun t k => st15 t k) ?_
      try clear st15 X14 e14
      refine oS (fun t k => XS.imul X15.here hx rfl (hb hby d28_472) rfl k) ?_
      refine oS (fun t k => XS.iload X15.here hx rfl (hb hby d28_473) rfl k) ?_
      refine oS (fun t k => XS.iadd X15.here hx rfl (hb hby d28_475) rfl k) ?_
      refine oS (fun t k => XT.dup2 X15.here hx rfl (hb hby d28_476) rfl rfl rfl k) ?_
      obtain ⟨cl16, Ar16, qk16, Sz16, Ng16, Ha16⟩ := id A_rc
      have hin16 : ¬ (((i2 * (3 : Int32)) + kk) < 0 ∨ cl16.slots.size ≤ (((i2 * (3 : Int32)) + kk)).toNatClampNeg) := own_inb hi2 hk Sz16
      have hat16 := Ha16 _ (Nat.lt_of_not_le fun y => hin16 (Or.inr y))
      refine oS (fun t k => X15.laload hx (j := ((i2 * (3 : Int32)) + kk)) (v := (.long ((own_hi F) (((i2 * (3 : Int32)) + kk)).toNatClampNeg))) (by rw [e15]; exact Ar16.1) (State.isArrayOf_alike hZ.alike Ar16.2.1) Ar16.2.2 hin16 hat16 (g := (mkF m 477 #[.val (.ref a1), y1, y2, y3, y4, y5, y6, y7, y8, .val (.ref u), .val (.int kk), y11, y12, y13, y14, y15, y16, y17, y18] [(.int ((i2 * (3 : Int32)) + kk)), (.ref rc), (.int ((i2 * (3 : Int32)) + kk)), (.ref rc)])) rfl rfl (hb hby d28_477) t k) ?_
      show oG _ _ _ _ _ _ _ (T15.setTop (mkF m 478 #[.val (.ref a1), y1, y2, y3, y4, y5, y6, y7, y8, .val (.ref u), .val (.int kk), y11, y12, y13, y14, y15, y16, y17, y18] [(.long ((own_hi F) (((i2 * (3 : Int32)) + kk)).toNatClampNeg)), (.int ((i2 * (3 : Int32)) + kk)), (.ref rc)]))
      refine oS (fun t k => XS.aload X15.here hx rfl (hb hby d28_478) rfl rfl k) ?_
      obtain ⟨cq17, kq17, q17a, q17b, q17c⟩ := isOf hZ e15 E_u
      obtain ⟨_, _, ⟨T17, L17, k17, n17⟩, -, X17, ⟨Lc17, hQ17, l17, y17, z17⟩, st17⟩ := X15.virtualBack hx (y := mY37) (z := mY37) hown (oM hZ hw 336 rfl) (oM hZ hw 337 rfl) (notFace_of_selects (args := #[]) (oM hZ hw 339 rfl)) (oM hZ hw 339 rfl) (oM hZ hw 338 rfl) (by decide) (backOf (W := 4) (rm_s_weight l Z a0 hw [] u i4  h0 n0 O0  F_weight_u) hZ (oW hw 340 rfl) (oW hw 67 rfl) (by decide) (by decide)) q17a q17c (g := (mkF m 480 #[.val (.ref a1), y1, y2, y3, y4, y5, y6, y7, y8, .val (.ref u), .val (.int kk), y11, y12, y13, y14, y15, y16, y17, y18] [(.ref u), (.long ((own_hi F) (((i2 * (3 : Int32)) + kk)).toNatClampNeg)), (.int ((i2 * (3 : Int32)) + kk)), (.ref rc)])) rfl (by rw [hml]; rfl) (Steps.refl _) (argsL := []) (rest := [(.long ((own_hi F) (((i2 * (3 : Int32)) + kk)).toNatClampNeg)), (.int ((i2 * (3 : Int32)) + kk)), (.ref rc)]) (lenOf pd_14 rfl) rfl (by show 2 * 0 + _ ≤ _; exact Nat.le_of_eq rfl) (hb hby d28_480) (fun _ _ => ⟨rfl, e15, (by decide : 12 + 0 ≤ _), (by decide : 37 + 0 ≤ _)⟩)
      dsimp only [Pt.U, Pt.locs, Pt.cells, Pt.slots] at X17 l17 y17 z17 st17 hQ17
      rw [l17, y17, z17] at X17
      clear l17 y17 z17
      obtain ⟨rfl, Nq17, e17⟩ := hQ17
      have N17 := Fr.app N14 Nq17
      refine oS (fun t k => st17.trans k) ?_
      show oG _ _ _ _ _ _ _ (T17.setTop (mkF m 483 #[.val (.ref a1), y1, y2, y3, y4, y5, y6, y7, y8, .val (.ref u), .val (.int kk), y11, y12, y13, y14, y15, y16, y17, y18] [(.int i4), (.long ((own_hi F) (((i2 * (3 : Int32)) + kk)).toNatClampNeg)), (.int ((i2 * (3 : Int32)) + kk)), (.ref rc)]))
      try clear st17 X15 e15
      try clear T15
      refine oS (fun t k => XS.i2l X17.here hx rfl (hb hby d28_483) rfl k) ?_
      refine oS (fun t k => XS.ladd X17.here hx rfl (hb hby d28_484) rfl k) ?_
      obtain ⟨cl18, Ar18, qk18, Sz18, Ng18, Ha18⟩ := id A_rc
      have hin18 : ¬ (((i2 * (3 : Int32)) + kk) < 0 ∨ cl18.slots.size ≤ (((i2 * (3 : Int32)) + kk)).toNatClampNeg) := own_inb hi2 hk Sz18
      obtain ⟨T19, h19, X19, e19, W19, st19⟩ := stJ X17 hx hZ e17 Ar18 (j := ((i2 * (3 : Int32)) + kk)) hin18 (g := (mkF m 485 #[.val (.ref a1), y1, y2, y3, y4, y5, y6, y7, y8, .val (.ref u), .val (.int kk), y11, y12, y13, y14, y15, y16, y17, y18] [(.long (((own_hi F) (((i2 * (3 : Int32)) + kk)).toNatClampNeg) + (i4.toInt64))), (.int ((i2 * (3 : Int32)) + kk)), (.ref rc)])) rfl rfl (hb hby d28_485)
      have O19 := O0.wr W19 g_rc
      have N19 := Fr.snoc X19 N17 g_rc
      have V19 := own_Arf.set Ar18 qk18 Sz18 Ng18 Ha18 W19 hin18
      clear hin18 Ha18 Ng18 Sz18 qk18 Ar18 cl18
      refine oS (fun t k => st19 t k) ?_
      try clear st19 X17 e17
      refine oS (fun t k => XS.iinc X19.here hx rfl (hb hby d28_486) rfl (l' := #[.val (.ref a1), y1, y2, y3, y4, y5, y6, y7, y8, .val (.ref u), .val (.int (kk + (1 : Int32))), y11, y12, y13, y14, y15, y16, y17, y18]) rfl k) ?_
      refine oS (fun t k => XS.goto X19.here hx rfl (pc0 := 489) (pc' := 432) rfl (hb hby d28_489) (by decide) (by decide) k) ?_
      rw [hkn]
      exact cut _ _ _ (own_st F i1 ((i2 * (3 : Int32)) + kk) i4) X19 e19 N19 ((Keep.refl h0 [rb, rc]).wr W19 (Or.inl (List.mem_of_getElem? (i := 1) rfl))) (if_neg hc450).symm (own_Arf.fn (A_rb.other W19 ne_rb_rc) (own_stb1 hs5)) (own_Arf.fn V19 (own_stc1 hs5))
theorem d28_492 : decode prog_56_method_1_code 492 = .ok (.goto (-85), 3) := by decide +kernel
theorem d28_495 : decode prog_56_method_1_code 495 = .ok (.aload_n 1, 1) := by decide +kernel
theorem d28_496 : decode prog_56_method_1_code 496 = .ok (.invokevirtual 101, 3) := by decide +kernel
theorem d28_499 : decode prog_56_method_1_code 499 = .ok (.invokeinterface 46 1, 5) := by decide +kernel
theorem d28_504 : decode prog_56_method_1_code 504 = .ok (.astore 8, 2) := by decide +kernel
theorem d28_506 : decode prog_56_method_1_code 506 = .ok (.aload 8, 2) := by decide +kernel
theorem d28_508 : decode prog_56_method_1_code 508 = .ok (.invokeinterface 50 1, 5) := by decide +kernel
theorem d28_513 : decode prog_56_method_1_code 513 = .ok (.ifCond .eq 56, 3) := by decide +kernel
theorem d28_516 : decode prog_56_method_1_code 516 = .ok (.aload 8, 2) := by decide +kernel
theorem d28_518 : decode prog_56_method_1_code 518 = .ok (.invokeinterface 56 1, 5) := by decide +kernel
theorem d28_523 : decode prog_56_method_1_code 523 = .ok (.checkcast 92, 3) := by decide +kernel
theorem d28_526 : decode prog_56_method_1_code 526 = .ok (.astore 9, 2) := by decide +kernel
theorem d28_528 : decode prog_56_method_1_code 528 = .ok (.aload_n 0, 1) := by decide +kernel
theorem d28_529 : decode prog_56_method_1_code 529 = .ok (.getfield 86, 3) := by decide +kernel
theorem d28_532 : decode prog_56_method_1_code 532 = .ok (.aload 9, 2) := by decide +kernel
theorem d28_534 : decode prog_56_method_1_code 534 = .ok (.invokevirtual 95, 3) := by decide +kernel
theorem d28_537 : decode prog_56_method_1_code 537 = .ok (.aaload, 1) := by decide +kernel
theorem d28_538 : decode prog_56_method_1_code 538 = .ok (.aload 9, 2) := by decide +kernel
theorem d28_540 : decode prog_56_method_1_code 540 = .ok (.invokevirtual 97, 3) := by decide +kernel
theorem d28_543 : decode prog_56_method_1_code 543 = .ok (.aload_n 0, 1) := by decide +kernel
theorem d28_544 : decode prog_56_method_1_code 544 = .ok (.getfield 22, 3) := by decide +kernel
theorem d28_547 : decode prog_56_method_1_code 547 = .ok (.imul, 1) := by decide +kernel
theorem d28_548 : decode prog_56_method_1_code 548 = .ok (.aload 9, 2) := by decide +kernel
theorem d28_550 : decode prog_56_method_1_code 550 = .ok (.invokevirtual 94, 3) := by decide +kernel
theorem d28_553 : decode prog_56_method_1_code 553 = .ok (.iadd, 1) := by decide +kernel
theorem d28_554 : decode prog_56_method_1_code 554 = .ok (.iconst 1, 1) := by decide +kernel
theorem d28_555 : decode prog_56_method_1_code 555 = .ok (.iadd, 1) := by decide +kernel
theorem d28_556 : decode prog_56_method_1_code 556 = .ok (.dup2, 1) := by decide +kernel
theorem d28_557 : decode prog_56_method_1_code 557 = .ok (.laload, 1) := by decide +kernel
theorem d28_558 : decode prog_56_method_1_code 558 = .ok (.aload 9, 2) := by decide +kernel
theorem d28_560 : decode prog_56_method_1_code 560 = .ok (.invokevirtual 98, 3) := by decide +kernel
theorem d28_563 : decode prog_56_method_1_code 563 = .ok (.i2l, 1) := by decide +kernel
theorem d28_564 : decode prog_56_method_1_code 564 = .ok (.ladd, 1) := by decide +kernel
theorem d28_565 : decode prog_56_method_1_code 565 = .ok (.lastore, 1) := by decide +kernel
theorem d28_566 : decode prog_56_method_1_code 566 = .ok (.goto (-60), 3) := by decide +kernel
theorem pc_off (l : Launch) (Z : State) (a0 : Array Value) (hw : ∀ d ∈ tables_1, d.before a0 Z = true) (w : Nat → Addr) (W : own_World Z w) {p : Program} {e : Env} {s : State} {m : MethodId} {args : Array Value} {below : List Frame} {meth : Method} {c : Code} {Q : Option Value → Heap → List Loc → Prop} {qc qs : Nat} (hx : p.tables.exec = Jvm.exec) (hby : c.code = prog_56_method_1_code) (hml : c.maxLocals = 19) (hZ : Z.Warmed39 s.vm) (hown : s.vm.findClass "com/example/shiftweave/shiftweave/rostering/Penalties" = some m.cls) (T0 : State) (L0 : List Loc) (h0 : Heap) (n0 : Nat) (a1 : Addr) (u : Addr) (ra : Addr) (rb : Addr) (rc : Addr) (ka : ClassId) (kb : ClassId) (F : Nat → Int64) (i1 : Int32) (i2 : Int32) (i3 : Int32) (i4 : Int32) (y1 y2 y3 y4 y5 y6 y7 y8 y10 y11 y12 y13 y14 y15 y16 y17 y18 : Slot)
    (X0 : Stand p l e R_26 s m args below meth c T0 L0 13 41) (e0 : T0.heap = h0) (N0 : Fr n0 L0) (O0 : Old Z n0 h0) (F_choices_a1 : Fld Z h0 a1 "com/example/shiftweave/shiftweave/rostering/Penalties" "choices" "I" (.int 3)) (F_requests_a1 : Fld Z h0 a1 "com/example/shiftweave/shiftweave/rostering/Penalties" "requests" "[[J" (.ref ra)) (V_ra : Arv Z h0 ra ka (.array .long) (2 : Int32) [(.ref rb), (.ref rc)] .null) (A_rb : own_Arf Z h0 rb kb (6 : Int32) F) (A_rc : own_Arf Z h0 rc kb (6 : Int32) (own_hi F)) (E_u : Exa Z h0 u "com/example/shiftweave/shiftweave/rostering/ShiftRequest") (F_staff_u : Fld Z h0 u "com/example/shiftweave/shiftweave/rostering/ShiftRequest" "staff" "I" (.int i1)) (F_day_u : Fld Z h0 u "com/example/shiftweave/shiftweave/rostering/ShiftRequest" "day" "I" (.int i2)) (F_shift_u : Fld Z h0 u "com/example/shiftweave/shiftweave/rostering/ShiftRequest" "shift" "I" (.int i3)) (F_weight_u : Fld Z h0 u "com/example/shiftweave/shiftweave/rostering/ShiftRequest" "weight" "I" (.int i4)) (g_rb : n0 ≤ rb) (g_rc : n0 ≤ rc) (ne_rb_rc : rb ≠ rc) (hi1 : i1 = (0 : Int32) ∨ i1 = (1 : Int32)) (hi2 : i2 = (0 : Int32) ∨ i2 = (1 : Int32)) (hi3 : i3 = (0 : Int32) ∨ i3 = (1 : Int32))
    (cut : ∀ (T' : State) (L' : List Loc) (h' : Heap) (G : Nat → Int64), Stand p l e R_26 s m args below meth c T' L' 13 41 → T'.heap = h' → Fr n0 L' → Keep h0 h' [rb, rc] → G = own_st F i1 (((i2 * (3 : Int32)) + i3) + (1 : Int32)) i4 → own_Arf Z h' rb kb (6 : Int32) G → own_Arf Z h' rc kb (6 : Int32) (own_hi G) → oG p e below s Q qc qs (T'.setTop (mkF m 506 #[.val (.ref a1), y1, y2, y3, y4, y5, y6, y7, y8, .val (.ref u), y10, y11, y12, y13, y14, y15, y16, y17, y18] []))) :
    oG p e below s Q qc qs (T0.setTop (mkF m 528 #[.val (.ref a1), y1, y2, y3, y4, y5, y6, y7, y8, .val (.ref u), y10, y11, y12, y13, y14, y15, y16, y17, y18] [])) := by
  refine oS (fun t k => XS.aloadN X0.here hx rfl (hb hby d28_528) rfl rfl k) ?_
  obtain ⟨T1, X1, e1, st1⟩ := getF X0 hx hZ hown (host := "") (Or.inl (oW hw 293 rfl)) Via.refl e0 F_requests_a1 (g := (mkF m 529 #[.val (.ref a1), y1, y2, y3, y4, y5, y6, y7, y8, .val (.ref u), y10, y11, y12, y13, y14, y15, y16, y17, y18] [(.ref a1)])) rfl rfl (hb hby d28_529)
  refine oS (fun t k => st1 t k) ?_
  try clear st1
  refine oS (fun t k => XS.aload X1.here hx rfl (hb hby d28_532) rfl rfl k) ?_
  obtain ⟨cq2, kq2, q2a, q2b, q2c⟩ := isOf hZ e1 E_u
  obtain ⟨_, _, ⟨T2, L2, k2, n2⟩, -, X2, ⟨Lc2, hQ2, l2, y2, z2⟩, st2⟩ := X1.virtualBack hx (y := mY34) (z := mY34) hown (oM hZ hw 326 rfl) (oM hZ hw 327 rfl) (notFace_of_selects (args := #[]) (oM hZ hw 329 rfl)) (oM hZ hw 329 rfl) (oM hZ hw 328 rfl) (by decide) (backOf (W := 1) (rm_s_staff l Z a0 hw [] u i1  h0 n0 O0  F_staff_u) hZ (oW hw 330 rfl) (oW hw 67 rfl) (by decide) (by decide)) q2a q2c (g := (mkF m 534 #[.val (.ref a1), y1, y2, y3, y4, y5, y6, y7, y8, .val (.ref u), y10, y11, y12, y13, y14, y15, y16, y17, y18] [(.ref u), (.ref ra)])) rfl (by rw [hml]; rfl) (Steps.refl _) (argsL := []) (rest := [(.ref ra)]) (lenOf pd_14 rfl) rfl (by show 2 * 0 + _ ≤ _; exact Nat.le_of_eq rfl) (hb hby d28_534) (fun _ _ => ⟨rfl, e1, (by decide : 13 + 0 ≤ _), (by decide : 41 + 0 ≤ _)⟩)
  dsimp only [Pt.U, Pt.locs, Pt.cells, Pt.slots] at X2 l2 y2 z2 st2 hQ2
  rw [l2, y2, z2] at X2
  clear l2 y2 z2
  obtain ⟨rfl, Nq2, e2⟩ := hQ2
  have N2 := Fr.app N0 Nq2
  refine oS (fun t k => st2.trans k) ?_
  show oG _ _ _ _ _ _ _ (T2.setTop (mkF m 537 #[.val (.ref a1), y1, y2, y3, y4, y5, y6, y7, y8, .val (.ref u), y10, y11, y12, y13, y14, y15, y16, y17, y18] [(.int i1), (.ref ra)]))
  try clear st2 X1 e1
  try clear T1
  show oG _ _ _ _ _ _ _ (T2.setTop (mkF m 537 #[.val (.ref a1), y1, y2, y3, y4, y5, y6, y7, y8, .val (.ref u), y10, y11, y12, y13, y14, y15, y16, y17, y18] [(.int i1), (.ref ra)]))
  rcases hi1 with hs3 | hs3
  · rw [hs3]
    show oG _ _ _ _ _ _ _ (T2.setTop (mkF m 537 #[.val (.ref a1), y1, y2, y3, y4, y5, y6, y7, y8, .val (.ref u), y10, y11, y12, y13, y14, y15, y16, y17, y18] [(.int 0), (.ref ra)]))
    obtain ⟨cl4, Ar4, qk4, Sz4, Ng4, Ha4, Gf4⟩ := id V_ra
    have hin4 : ¬ ((0 : Int32) < 0 ∨ cl4.slots.size ≤ ((0 : Int32)).toNatClampNeg) := (inb_of Sz4 ⟨by decide, by decide⟩)
    have hat4 : cl4.slots[((0 : Int32)).toNatClampNeg]? = some (.ref rb) := Ha4.at hin4 rfl
    refine oS (fun t k => X2.aaload hx (j := (0 : Int32)) (v := (.ref rb)) (by rw [e2]; exact Ar4.1) (State.isArrayOf_alike hZ.alike Ar4.2.1) rfl Ar4.2.2 hin4 hat4 (g := (mkF m 537 #[.val (.ref a1), y1, y2, y3, y4, y5, y6, y7, y8, .val (.ref u), y10, y11, y12, y13, y14, y15, y16, y17, y18] [(.int 0), (.ref ra)])) rfl rfl (hb hby d28_537) t k) ?_
    refine oS (fun t k => XS.aload X2.here hx rfl (hb hby d28_538) rfl rfl k) ?_
    obtain ⟨cq5, kq5, q5a, q5b, q5c⟩ := isOf hZ e2 E_u
    obtain ⟨_, _, ⟨T5, L5, k5, n5⟩, -, X5, ⟨Lc5, hQ5, l5, y5, z5⟩, st5⟩ := X2.virtualBack hx (y := mY35) (z := mY35) hown (oM hZ hw 331 rfl) (oM hZ hw 332 rfl) (notFace_of_selects (args := #[]) (oM hZ hw 334 rfl)) (oM hZ hw 334 rfl) (oM hZ hw 333 rfl) (by decide) (backOf (W := 1) (rm_s_day l Z a0 hw [] u i2  h0 n0 O0  F_day_u) hZ (oW hw 335 rfl) (oW hw 67 rfl) (by decide) (by decide)) q5a q5c (g := (mkF m 540 #[.val (.ref a1), y1, y2, y3, y4, y5, y6, y7, y8, .val (.ref u), y10, y11, y12, y13, y14, y15, y16, y17, y18] [(.ref u), (.ref rb)])) rfl (by rw [hml]; rfl) (Steps.refl _) (argsL := []) (rest := [(.ref rb)]) (lenOf pd_14 rfl) rfl (by show 2 * 0 + _ ≤ _; exact Nat.le_of_eq rfl) (hb hby d28_540) (fun _ _ => ⟨rfl, e2, (by decide : 13 + 0 ≤ _), (by decide : 41 + 0 ≤ _)⟩)
    dsimp only [Pt.U, Pt.locs, Pt.cells, Pt.slots] at X5 l5 y5 z5 st5 hQ5
    rw [l5, y5, z5] at X5
    clear l5 y5 z5
    obtain ⟨rfl, Nq5, e5⟩ := hQ5
    have N5 := Fr.app N2 Nq5
    refine oS (fun t k => st5.trans k) ?_
    show oG _ _ _ _ _ _ _ (T5.setTop (mkF m 543 #[.val (.ref a1), y1, y2, y3, y4, y5, y6, y7, y8, .val (.ref u), y10, y11, y12, y13, y14, y15, y16, y17, y18] [(.int i2), (.ref rb)]))
    try clear st5 X2 e2
    refine oS (fun t k => XS.aloadN X5.here hx rfl (hb hby d28_543) rfl rfl k) ?_
    obtain ⟨T6, X6, e6, st6⟩ := getF X5 hx hZ hown (host := "") (Or.inl (oW hw 224 rfl)) Via.refl e5 F_choices_a1 (g := (mkF m 544 #[.val (.ref a1), y1, y2, y3, y4, y5, y6, y7, y8, .val (.ref u), y10, y11, y12, y13, y14, y15, y16, y17, y18] [(.ref a1), (.int i2), (.ref rb)])) rfl rfl (hb hby d28_544)
    refine oS (fun t k => st6 t k) ?_
    try clear st6 X5 e5
    refine oS (fun t k => XS.imul X6.here hx rfl (hb hby d28_547) rfl k) ?_
    refine oS (fun t k => XS.aload X6.here hx rfl (hb hby d28_548) rfl rfl k) ?_
    obtain ⟨cq7, kq7, q7a, q7b, q7c⟩ := isOf hZ e6 E_u
    obtain ⟨_, _, ⟨T7, L7, k7, n7⟩, -, X7, ⟨Lc7, hQ7, l7, y7, z7⟩, st7⟩ := X6.virtualBack hx (y := mY36) (z := mY36) hown (oM hZ hw 321 rfl) (oM hZ hw 322 rfl) (notFace_of_selects (args := #[]) (oM hZ hw 324 rfl)) (oM hZ hw 324 rfl) (oM hZ hw 323 rfl) (by decide) (backOf (W := 2) (rm_s_shift l Z a0 hw [] u i3  h0 n0 O0  F_shift_u) hZ (oW hw 325 rfl) (oW hw 67 rfl) (by decide) (by decide)) q7a q7c (g := (mkF m 550 #[.val (.ref a1), y1, y2, y3, y4, y5, y6, y7, y8, .val (.ref u), y10, y11, y12, y13, y14, y15, y16, y17, y18] [(.ref u), (.int (i2 * (3 : Int32))), (.ref rb)])) rfl (by rw [hml]; rfl) (Steps.refl _) (argsL := []) (rest := [(.int (i2 * (3 : Int32))), (.ref rb)]) (lenOf pd_14 rfl) rfl (by show 2 * 0 + _ ≤ _; exact Nat.le_of_eq rfl) (hb hby d28_550) (fun _ _ => ⟨rfl, e6, (by decide : 13 + 0 ≤ _), (by decide : 41 + 0 ≤ _)⟩)
    dsimp only [Pt.U, Pt.locs, Pt.cells, Pt.slots] at X7 l7 y7 z7 st7 hQ7
    rw [l7, y7, z7] at X7
    clear l7 y7 z7
    obtain ⟨rfl, Nq7, e7⟩ := hQ7
    have N7 := Fr.app N5 Nq7
    refine oS (fun t k => st7.trans k) ?_
    show oG _ _ _ _ _ _ _ (T7.setTop (mkF m 553 #[.val (.ref a1), y1, y2, y3, y4, y5, y6, y7, y8, .val (.ref u), y10, y11, y12, y13, y14, y15, y16, y17, y18] [(.int i3), (.int (i2 * (3 : Int32))), (.ref rb)]))
    try clear st7 X6 e6
    try clear T6
    refine oS (fun t k => XS.iadd X7.here hx rfl (hb hby d28_553) rfl k) ?_
    refine oS (fun t k => oIc li_1 X7.here hx rfl (hb hby d28_554) k) ?_
    refine oS (fun t k => XS.iadd X7.here hx rfl (hb hby d28_555) rfl k) ?_
    refine oS (fun t k => XT.dup2 X7.here hx rfl (hb hby d28_556) rfl rfl rfl k) ?_
    obtain ⟨cl8, Ar8, qk8, Sz8, Ng8, Ha8⟩ := id A_rb
    have hin8 : ¬ ((((i2 * (3 : Int32)) + i3) + (1 : Int32)) < 0 ∨ cl8.slots.size ≤ ((((i2 * (3 : Int32)) + i3) + (1 : Int32))).toNatClampNeg) := own_inb2 hi2 hi3 Sz8
    have hat8 := Ha8 _ (Nat.lt_of_not_le fun y => hin8 (Or.inr y))
    refine oS (fun t k => X7.laload hx (j := (((i2 * (3 : Int32)) + i3) + (1 : Int32))) (v := (.long (F ((((i2 * (3 : Int32)) + i3) + (1 : Int32))).toNatClampNeg))) (by rw [e7]; exact Ar8.1) (State.isArrayOf_alike hZ.alike Ar8.2.1) Ar8.2.2 hin8 hat8 (g := (mkF m 557 #[.val (.ref a1), y1, y2, y3, y4, y5, y6, y7, y8, .val (.ref u), y10, y11, y12, y13, y14, y15, y16, y17, y18] [(.int (((i2 * (3 : Int32)) + i3) + (1 : Int32))), (.ref rb), (.int (((i2 * (3 : Int32)) + i3) + (1 : Int32))), (.ref rb)])) rfl rfl (hb hby d28_557) t k) ?_
    refine oS (fun t k => XS.aload X7.here hx rfl (hb hby d28_558) rfl rfl k) ?_
    obtain ⟨cq9, kq9, q9a, q9b, q9c⟩ := isOf hZ e7 E_u
    obtain ⟨_, _, ⟨T9, L9, k9, n9⟩, -, X9, ⟨Lc9, hQ9, l9, y9, z9⟩, st9⟩ := X7.virtualBack hx (y := mY37) (z := mY37) hown (oM hZ hw 336 rfl) (oM hZ hw 337 rfl) (notFace_of_selects (args := #[]) (oM hZ hw 339 rfl)) (oM hZ hw 339 rfl) (oM hZ hw 338 rfl) (by decide) (backOf (W := 4) (rm_s_weight l Z a0 hw [] u i4  h0 n0 O0  F_weight_u) hZ (oW hw 340 rfl) (oW hw 67 rfl) (by decide) (by decide)) q9a q9c (g := (mkF m 560 #[.val (.ref a1), y1, y2, y3, y4, y5, y6, y7, y8, .val (.ref u), y10, y11, y12, y13, y14, y15, y16, y17, y18] [(.ref u), (.long (F ((((i2 * (3 : Int32)) + i3) + (1 : Int32))).toNatClampNeg)), (.int (((i2 * (3 : Int32)) + i3) + (1 : Int32))), (.ref rb)])) rfl (by rw [hml]; rfl) (Steps.refl _) (argsL := []) (rest := [(.long (F ((((i2 * (3 : Int32)) + i3) + (1 : Int32))).toNatClampNeg)), (.int (((i2 * (3 : Int32)) + i3) + (1 : Int32))), (.ref rb)]) (lenOf pd_14 rfl) rfl (by show 2 * 0 + _ ≤ _; exact Nat.le_of_eq rfl) (hb hby d28_560) (fun _ _ => ⟨rfl, e7, (by decide : 13 + 0 ≤ _), (by decide : 41 + 0 ≤ _)⟩)
    dsimp only [Pt.U, Pt.locs, Pt.cells, Pt.slots] at X9 l9 y9 z9 st9 hQ9
    rw [l9, y9, z9] at X9
    clear l9 y9 z9
    obtain ⟨rfl, Nq9, e9⟩ := hQ9
    have N9 := Fr.app N7 Nq9
    refine oS (fun t k => st9.trans k) ?_
    show oG _ _ _ _ _ _ _ (T9.setTop (mkF m 563 #[.val (.ref a1), y1, y2, y3, y4, y5, y6, y7, y8, .val (.ref u), y10, y11, y12, y13, y14, y15, y16, y17, y18] [(.int i4), (.long (F ((((i2 * (3 : Int32)) + i3) + (1 : Int32))).toNatClampNeg)), (.int (((i2 * (3 : Int32)) + i3) + (1 : Int32))), (.ref rb)]))
    try clear st9 X7 e7
    refine oS (fun t k => XS.i2l X9.here hx rfl (hb hby d28_563) rfl k) ?_
    refine oS (fun t k => XS.ladd X9.here hx rfl (hb hby d28_564) rfl k) ?_
    obtain ⟨cl10, Ar10, qk10, Sz10, Ng10, Ha10⟩ := id A_rb
    have hin10 : ¬ ((((i2 * (3 : Int32)) + i3) + (1 : Int32)) < 0 ∨ cl10.slots.size ≤ ((((i2 * (3 : Int32)) + i3) + (1 : Int32))).toNatClampNeg) := own_inb2 hi2 hi3 Sz10
    obtain ⟨T11, h11, X11, e11, W11, st11⟩ := stJ X9 hx hZ e9 Ar10 (j := (((i2 * (3 : Int32)) + i3) + (1 : Int32))) hin10 (g := (mkF m 565 #[.val (.ref a1), y1, y2, y3, y4, y5, y6, y7, y8, .val (.ref u), y10, y11, y12, y13, y14, y15, y16, y17, y18] [(.long ((F ((((i2 * (3 : Int32)) + i3) + (1 : Int32))).toNatClampNeg) + (i4.toInt64))), (.int (((i2 * (3 : Int32)) + i3) + (1 : Int32))), (.ref rb)])) rfl rfl (hb hby d28_565)
    have O11 := O0.wr W11 g_rb
    have N11 := Fr.snoc X11 N9 g_rb
    have V11 := own_Arf.set Ar10 qk10 Sz10 Ng10 Ha10 W11 hin10
    clear hin10 Ha10 Ng10 Sz10 qk10 Ar10 cl10
    refine oS (fun t k => st11 t k) ?_
    try clear st11 X9 e9
    refine oS (fun t k => XS.goto X11.here hx rfl (pc0 := 566) (pc' := 506) rfl (hb hby d28_566) (by decide) (by decide) k) ?_
    exact cut _ _ _ (own_st F i1 (((i2 * (3 : Int32)) + i3) + (1 : Int32)) i4) X11 e11 N11 ((Keep.refl h0 [rb, rc]).wr W11 (Or.inl (List.mem_of_getElem? (i := 0) rfl))) rfl (own_Arf.fn V11 (own_stb0 hs3)) (own_Arf.fn (A_rc.other W11 (Ne.symm ne_rb_rc)) (own_stc0 hs3 (own_lt6 (own_inb2 hi2 hi3 rfl))))
  · rw [hs3]
    show oG _ _ _ _ _ _ _ (T2.setTop (mkF m 537 #[.val (.ref a1), y1, y2, y3, y4, y5, y6, y7, y8, .val (.ref u), y10, y11, y12, y13, y14, y15, y16, y17, y18] [(.int 1), (.ref ra)]))
    obtain ⟨cl12, Ar12, qk12, Sz12, Ng12, Ha12, Gf12⟩ := id V_ra
    have hin12 : ¬ ((1 : Int32) < 0 ∨ cl12.slots.size ≤ ((1 : Int32)).toNatClampNeg) := (inb_of Sz12 ⟨by decide, by decide⟩)
    have hat12 : cl12.slots[((1 : Int32)).toNatClampNeg]? = some (.ref rc) := Ha12.at hin12 rfl
    refine oS (fun t k => X2.aaload hx (j := (1 : Int32)) (v := (.ref rc)) (by rw [e2]; exact Ar12.1) (State.isArrayOf_alike hZ.alike Ar12.2.1) rfl Ar12.2.2 hin12 hat12 (g := (mkF m 537 #[.val (.ref a1), y1, y2, y3, y4, y5, y6, y7, y8, .val (.ref u), y10, y11, y12, y13, y14, y15, y16, y17, y18] [(.int 1), (.ref ra)])) rfl rfl (hb hby d28_537) t k) ?_
    refine oS (fun t k => XS.aload X2.here hx rfl (hb hby d28_538) rfl rfl k) ?_
    obtain ⟨cq13, kq13, q13a, q13b, q13c⟩ := isOf hZ e2 E_u
    obtain ⟨_, _, ⟨T13, L13, k13, n13⟩, -, X13, ⟨Lc13, hQ13, l13, y13, z13⟩, st13⟩ := X2.virtualBack hx (y := mY35) (z := mY35) hown (oM hZ hw 331 rfl) (oM hZ hw 332 rfl) (notFace_of_selects (args := #[]) (oM hZ hw 334 rfl)) (oM hZ hw 334 rfl) (oM hZ hw 333 rfl) (by decide) (backOf (W := 1) (rm_s_day l Z a0 hw [] u i2  h0 n0 O0  F_day_u) hZ (oW hw 335 rfl) (oW hw 67 rfl) (by decide) (by decide)) q13a q13c (g := (mkF m 540 #[.val (.ref a1), y1, y2, y3, y4, y5, y6, y7, y8, .val (.ref u), y10, y11, y12, y13, y14, y15, y16, y17, y18] [(.ref u), (.ref rc)])) rfl (by rw [hml]; rfl) (Steps.refl _) (argsL := []) (rest := [(.ref rc)]) (lenOf pd_14 rfl) rfl (by show 2 * 0 + _ ≤ _; exact Nat.le_of_eq rfl) (hb hby d28_540) (fun _ _ => ⟨rfl, e2, (by decide : 13 + 0 ≤ _), (by decide : 41 + 0 ≤ _)⟩)
    dsimp only [Pt.U, Pt.locs, Pt.cells, Pt.slots] at X13 l13 y13 z13 st13 hQ13
    rw [l13, y13, z13] at X13
    clear l13 y13 z13
    obtain ⟨rfl, Nq13, e13⟩ := hQ13
    have N13 := Fr.app N2 Nq13
    refine oS (fun t k => st13.trans k) ?_
    show oG _ _ _ _ _ _ _ (T13.setTop (mkF m 543 #[.val (.ref a1), y1, y2, y3, y4, y5, y6, y7, y8, .val (.ref u), y10, y11, y12, y13, y14, y15, y16, y17, y18] [(.int i2), (.ref rc)]))
    try clear st13 X2 e2
    refine oS (fun t k => XS.aloadN X13.here hx rfl (hb hby d28_543) rfl rfl k) ?_
    obtain ⟨T14, X14, e14, st14⟩ := getF X13 hx hZ hown (host := "") (Or.inl (oW hw 224 rfl)) Via.refl e13 F_choices_a1 (g := (mkF m 544 #[.val (.ref a1), y1, y2, y3, y4, y5, y6, y7, y8, .val (.ref u), y10, y11, y12, y13, y14, y15, y16, y17, y18] [(.ref a1), (.int i2), (.ref rc)])) rfl rfl (hb hby d28_544)
    refine oS (fun t k => st14 t k) ?_
    try clear st14 X13 e13
    refine oS (fun t k => XS.imul X14.here hx rfl (hb hby d28_547) rfl k) ?_
    refine oS (fun t k => XS.aload X14.here hx rfl (hb hby d28_548) rfl rfl k) ?_
    obtain ⟨cq15, kq15, q15a, q15b, q15c⟩ := isOf hZ e14 E_u
    obtain ⟨_, _, ⟨T15, L15, k15, n15⟩, -, X15, ⟨Lc15, hQ15, l15, y15, z15⟩, st15⟩ := X14.virtualBack hx (y := mY36) (z := mY36) hown (oM hZ hw 321 rfl) (oM hZ hw 322 rfl) (notFace_of_selects (args := #[]) (oM hZ hw 324 rfl)) (oM hZ hw 324 rfl) (oM hZ hw 323 rfl) (by decide) (backOf (W := 2) (rm_s_shift l Z a0 hw [] u i3  h0 n0 O0  F_shift_u) hZ (oW hw 325 rfl) (oW hw 67 rfl) (by decide) (by decide)) q15a q15c (g := (mkF m 550 #[.val (.ref a1), y1, y2, y3, y4, y5, y6, y7, y8, .val (.ref u), y10, y11, y12, y13, y14, y15, y16, y17, y18] [(.ref u), (.int (i2 * (3 : Int32))), (.ref rc)])) rfl (by rw [hml]; rfl) (Steps.refl _) (argsL := []) (rest := [(.int (i2 * (3 : Int32))), (.ref rc)]) (lenOf pd_14 rfl) rfl (by show 2 * 0 + _ ≤ _; exact Nat.le_of_eq rfl) (hb hby d28_550) (fun _ _ => ⟨rfl, e14, (by decide : 13 + 0 ≤ _), (by decide : 41 + 0 ≤ _)⟩)
    dsimp only [Pt.U, Pt.locs, Pt.cells, Pt.slots] at X15 l15 y15 z15 st15 hQ15
    rw [l15, y15, z15] at X15
    clear l15 y15 z15
    obtain ⟨rfl, Nq15, e15⟩ := hQ15
    have N15 := Fr.app N13 Nq15
    refine oS (fun t k => st15.trans k) ?_
    show oG _ _ _ _ _ _ _ (T15.setTop (mkF m 553 #[.val (.ref a1), y1, y2, y3, y4, y5, y6, y7, y8, .val (.ref u), y10, y11, y12, y13, y14, y15, y16, y17, y18] [(.int i3), (.int (i2 * (3 : Int32))), (.ref rc)]))
    try clear st15 X14 e14
    try clear T14
    refine oS (fun t k => XS.iadd X15.here hx rfl (hb hby d28_553) rfl k) ?_
    refine oS (fun t k => oIc li_1 X15.here hx rfl (hb hby d28_554) k) ?_
    refine oS (fun t k => XS.iadd X15.here hx rfl (hb hby d28_555) rfl k) ?_
    refine oS (fun t k => XT.dup2 X15.here hx rfl (hb hby d28_556) rfl rfl rfl k) ?_
    obtain ⟨cl16, Ar16, qk16, Sz16, Ng16, Ha16⟩ := id A_rc
    have hin16 : ¬ ((((i2 * (3 : Int32)) + i3) + (1 : Int32)) < 0 ∨ cl16.slots.size ≤ ((((i2 * (3 : Int32)) + i3) + (1 : Int32))).toNatClampNeg) := own_inb2 hi2 hi3 Sz16
    have hat16 := Ha16 _ (Nat.lt_of_not_le fun y => hin16 (Or.inr y))
    refine oS (fun t k => X15.laload hx (j := (((i2 * (3 : Int32)) + i3) + (1 : Int32))) (v := (.long ((own_hi F) ((((i2 * (3 : Int32)) + i3) + (1 : Int32))).toNatClampNeg))) (by rw [e15]; exact Ar16.1) (State.isArrayOf_alike hZ.alike Ar16.2.1) Ar16.2.2 hin16 hat16 (g := (mkF m 557 #[.val (.ref a1), y1, y2, y3, y4, y5, y6, y7, y8, .val (.ref u), y10, y11, y12, y13, y14, y15, y16, y17, y18] [(.int (((i2 * (3 : Int32)) + i3) + (1 : Int32))), (.ref rc), (.int (((i2 * (3 : Int32)) + i3) + (1 : Int32))), (.ref rc)])) rfl rfl (hb hby d28_557) t k) ?_
    refine oS (fun t k => XS.aload X15.here hx rfl (hb hby d28_558) rfl rfl k) ?_
    obtain ⟨cq17, kq17, q17a, q17b, q17c⟩ := isOf hZ e15 E_u
    obtain ⟨_, _, ⟨T17, L17, k17, n17⟩, -, X17, ⟨Lc17, hQ17, l17, y17, z17⟩, st17⟩ := X15.virtualBack hx (y := mY37) (z := mY37) hown (oM hZ hw 336 rfl) (oM hZ hw 337 rfl) (notFace_of_selects (args := #[]) (oM hZ hw 339 rfl)) (oM hZ hw 339 rfl) (oM hZ hw 338 rfl) (by decide) (backOf (W := 4) (rm_s_weight l Z a0 hw [] u i4  h0 n0 O0  F_weight_u) hZ (oW hw 340 rfl) (oW hw 67 rfl) (by decide) (by decide)) q17a q17c (g := (mkF m 560 #[.val (.ref a1), y1, y2, y3, y4, y5, y6, y7, y8, .val (.ref u), y10, y11, y12, y13, y14, y15, y16, y17, y18] [(.ref u), (.long ((own_hi F) ((((i2 * (3 : Int32)) + i3) + (1 : Int32))).toNatClampNeg)), (.int (((i2 * (3 : Int32)) + i3) + (1 : Int32))), (.ref rc)])) rfl (by rw [hml]; rfl) (Steps.refl _) (argsL := []) (rest := [(.long ((own_hi F) ((((i2 * (3 : Int32)) + i3) + (1 : Int32))).toNatClampNeg)), (.int (((i2 * (3 : Int32)) + i3) + (1 : Int32))), (.ref rc)]) (lenOf pd_14 rfl) rfl (by show 2 * 0 + _ ≤ _; exact Nat.le_of_eq rfl) (hb hby d28_560) (fun _ _ => ⟨rfl, e15, (by decide : 13 + 0 ≤ _), (by decide : 41 + 0 ≤ _)⟩)
    dsimp only [Pt.U, Pt.locs, Pt.cells, Pt.slots] at X17 l17 y17 z17 st17 hQ17
    rw [l17, y17, z17] at X17
    clear l17 y17 z17
    obtain ⟨rfl, Nq17, e17⟩ := hQ17
    have N17 := Fr.app N15 Nq17
    refine oS (fun t k => st17.trans k) ?_
    show oG _ _ _ _ _ _ _ (T17.setTop (mkF m 563 #[.val (.ref a1), y1, y2, y3, y4, y5, y6, y7, y8, .val (.ref u), y10, y11, y12, y13, y14, y15, y16, y17, y18] [(.int i4), (.long ((own_hi F) ((((i2 * (3 : Int32)) + i3) + (1 : Int32))).toNatClampNeg)), (.int (((i2 * (3 : Int32)) + i3) + (1 : Int32))), (.ref rc)]))
    try clear st17 X15 e15
    refine oS (fun t k => XS.i2l X17.here hx rfl (hb hby d28_563) rfl k) ?_
    refine oS (fun t k => XS.ladd X17.here hx rfl (hb hby d28_564) rfl k) ?_
    obtain ⟨cl18, Ar18, qk18, Sz18, Ng18, Ha18⟩ := id A_rc
    have hin18 : ¬ ((((i2 * (3 : Int32)) + i3) + (1 : Int32)) < 0 ∨ cl18.slots.size ≤ ((((i2 * (3 : Int32)) + i3) + (1 : Int32))).toNatClampNeg) := own_inb2 hi2 hi3 Sz18
    obtain ⟨T19, h19, X19, e19, W19, st19⟩ := stJ X17 hx hZ e17 Ar18 (j := (((i2 * (3 : Int32)) + i3) + (1 : Int32))) hin18 (g := (mkF m 565 #[.val (.ref a1), y1, y2, y3, y4, y5, y6, y7, y8, .val (.ref u), y10, y11, y12, y13, y14, y15, y16, y17, y18] [(.long (((own_hi F) ((((i2 * (3 : Int32)) + i3) + (1 : Int32))).toNatClampNeg) + (i4.toInt64))), (.int (((i2 * (3 : Int32)) + i3) + (1 : Int32))), (.ref rc)])) rfl rfl (hb hby d28_565)
    have O19 := O0.wr W19 g_rc
    have N19 := Fr.snoc X19 N17 g_rc
    have V19 := own_Arf.set Ar18 qk18 Sz18 Ng18 Ha18 W19 hin18
    clear hin18 Ha18 Ng18 Sz18 qk18 Ar18 cl18
    refine oS (fun t k => st19 t k) ?_
    try clear st19 X17 e17
    refine oS (fun t k => XS.goto X19.here hx rfl (pc0 := 566) (pc' := 506) rfl (hb hby d28_566) (by decide) (by decide) k) ?_
    exact cut _ _ _ (own_st F i1 (((i2 * (3 : Int32)) + i3) + (1 : Int32)) i4) X19 e19 N19 ((Keep.refl h0 [rb, rc]).wr W19 (Or.inl (List.mem_of_getElem? (i := 1) rfl))) rfl (own_Arf.fn (A_rb.other W19 ne_rb_rc) (own_stb1 hs3)) (own_Arf.fn V19 (own_stc1 hs3))
theorem d28_569 : decode prog_56_method_1_code 569 = .ok (.lconst 0, 1) := by decide +kernel
theorem d28_570 : decode prog_56_method_1_code 570 = .ok (.lstore 8, 2) := by decide +kernel
theorem d28_572 : decode prog_56_method_1_code 572 = .ok (.aload_n 0, 1) := by decide +kernel
theorem d28_573 : decode prog_56_method_1_code 573 = .ok (.getfield 86, 3) := by decide +kernel
theorem d28_576 : decode prog_56_method_1_code 576 = .ok (.astore 10, 2) := by decide +kernel
theorem d28_578 : decode prog_56_method_1_code 578 = .ok (.aload 10, 2) := by decide +kernel
theorem d28_580 : decode prog_56_method_1_code 580 = .ok (.arraylength, 1) := by decide +kernel
theorem d28_581 : decode prog_56_method_1_code 581 = .ok (.istore 11, 2) := by decide +kernel
theorem d28_583 : decode prog_56_method_1_code 583 = .ok (.iconst 0, 1) := by decide +kernel
theorem d28_584 : decode prog_56_method_1_code 584 = .ok (.istore 12, 2) := by decide +kernel
theorem d28_586 : decode prog_56_method_1_code 586 = .ok (.iload 12, 2) := by decide +kernel
theorem d28_588 : decode prog_56_method_1_code 588 = .ok (.iload 11, 2) := by decide +kernel
theorem d28_590 : decode prog_56_method_1_code 590 = .ok (.if_icmp .ge 57, 3) := by decide +kernel
theorem d28_593 : decode prog_56_method_1_code 593 = .ok (.aload 10, 2) := by decide +kernel
theorem d28_595 : decode prog_56_method_1_code 595 = .ok (.iload 12, 2) := by decide +kernel
theorem d28_597 : decode prog_56_method_1_code 597 = .ok (.aaload, 1) := by decide +kernel
theorem d28_598 : decode prog_56_method_1_code 598 = .ok (.astore 13, 2) := by decide +kernel
theorem d28_600 : decode prog_56_method_1_code 600 = .ok (.aload 13, 2) := by decide +kernel
theorem d28_602 : decode prog_56_method_1_code 602 = .ok (.astore 14, 2) := by decide +kernel
theorem d28_604 : decode prog_56_method_1_code 604 = .ok (.aload 14, 2) := by decide +kernel
theorem d28_606 : decode prog_56_method_1_code 606 = .ok (.arraylength, 1) := by decide +kernel
theorem d28_607 : decode prog_56_method_1_code 607 = .ok (.istore 15, 2) := by decide +kernel
theorem d28_609 : decode prog_56_method_1_code 609 = .ok (.iconst 0, 1) := by decide +kernel
theorem d28_610 : decode prog_56_method_1_code 610 = .ok (.istore 16, 2) := by decide +kernel
theorem d28_612 : decode prog_56_method_1_code 612 = .ok (.iload 16, 2) := by decide +kernel
theorem d28_614 : decode prog_56_method_1_code 614 = .ok (.iload 15, 2) := by decide +kernel
theorem d28_616 : decode prog_56_method_1_code 616 = .ok (.if_icmp .ge 25, 3) := by decide +kernel
theorem d28_619 : decode prog_56_method_1_code 619 = .ok (.aload 14, 2) := by decide +kernel
theorem d28_621 : decode prog_56_method_1_code 621 = .ok (.iload 16, 2) := by decide +kernel
theorem d28_623 : decode prog_56_method_1_code 623 = .ok (.laload, 1) := by decide +kernel
theorem d28_624 : decode prog_56_method_1_code 624 = .ok (.lstore 17, 2) := by decide +kernel
theorem d28_626 : decode prog_56_method_1_code 626 = .ok (.lload 8, 2) := by decide +kernel
theorem d28_628 : decode prog_56_method_1_code 628 = .ok (.lload 17, 2) := by decide +kernel
theorem d28_630 : decode prog_56_method_1_code 630 = .ok (.invokestatic 83, 3) := by decide +kernel
theorem d28_633 : decode prog_56_method_1_code 633 = .ok (.lstore 8, 2) := by decide +kernel
theorem d28_635 : decode prog_56_method_1_code 635 = .ok (.iinc 16 1, 3) := by decide +kernel
theorem d28_638 : decode prog_56_method_1_code 638 = .ok (.goto (-26), 3) := by decide +kernel
theorem pc_mx (l : Launch) (Z : State) (a0 : Array Value) (hw : ∀ d ∈ tables_1, d.before a0 Z = true) (w : Nat → Addr) (W : own_World Z w) {p : Program} {e : Env} {s : State} {m : MethodId} {args : Array Value} {below : List Frame} {meth : Method} {c : Code} {Q : Option Value → Heap → List Loc → Prop} {qc qs : Nat} (hx : p.tables.exec = Jvm.exec) (hby : c.code = prog_56_method_1_code) (hml : c.maxLocals = 19) (hZ : Z.Warmed39 s.vm) (hown : s.vm.findClass "com/example/shiftweave/shiftweave/rostering/Penalties" = some m.cls) (T0 : State) (L0 : List Loc) (h0 : Heap) (n0 : Nat) (r : Addr) (kb : ClassId) (F : Nat → Int64) (q8 : Int64) (q17 : Int64) (kk : Int32) (kn : Int32) (y0 y1 y2 y3 y4 y5 y6 y7 y10 y11 y12 y13 : Slot)
    (X0 : Stand p l e R_26 s m args below meth c T0 L0 13 41) (e0 : T0.heap = h0) (N0 : Fr n0 L0) (O0 : Old Z n0 h0) (A_r : own_Arf Z h0 r kb (6 : Int32) F) (hb6 : ¬ (kk < 0 ∨ (6 : Int32).toNatClampNeg ≤ kk.toNatClampNeg)) (hlt : kk < (6 : Int32)) (hkn : (kk + (1 : Int32)) = kn)
    (cut : ∀ (T' : State) (L' : List Loc) (qn : Int64) (qv : Int64), Stand p l e R_26 s m args below meth c T' L' 13 41 → T'.heap = h0 → Fr n0 L' → oG p e below s Q qc qs (T'.setTop (mkF m 612 #[y0, y1, y2, y3, y4, y5, y6, y7, .val (.long qn), .second, y10, y11, y12, y13, .val (.ref r), .val (.int 6), .val (.int kn), .val (.long qv), .second] []))) :
    oG p e below s Q qc qs (T0.setTop (mkF m 612 #[y0, y1, y2, y3, y4, y5, y6, y7, .val (.long q8), .second, y10, y11, y12, y13, .val (.ref r), .val (.int 6), .val (.int kk), .val (.long q17), .second] [])) := by
  refine oS (fun t k => XS.iload X0.here hx rfl (hb hby d28_612) rfl k) ?_
  refine oS (fun t k => XS.iload X0.here hx rfl (hb hby d28_614) rfl k) ?_
  refine oS (fun t k => XS.icmpNo X0.here hx rfl (hb hby d28_616) rfl (tlt hlt).2.1 k) ?_
  refine oS (fun t k => XS.aload X0.here hx rfl (hb hby d28_619) rfl rfl k) ?_
  refine oS (fun t k => XS.iload X0.here hx rfl (hb hby d28_621) rfl k) ?_
  obtain ⟨cl1, Ar1, qk1, Sz1, Ng1, Ha1⟩ := id A_r
  have hin1 : ¬ (kk < 0 ∨ cl1.slots.size ≤ (kk).toNatClampNeg) := (by rw [Sz1]; exact hb6)
  have hat1 := Ha1 _ (Nat.lt_of_not_le fun y => hin1 (Or.inr y))
  refine oS (fun t k => X0.laload hx (j := kk) (v := (.long (F (kk).toNatClampNeg))) (by rw [e0]; exact Ar1.1) (State.isArrayOf_alike hZ.alike Ar1.2.1) Ar1.2.2 hin1 hat1 (g := (mkF m 623 #[y0, y1, y2, y3, y4, y5, y6, y7, .val (.long q8), .second, y10, y11, y12, y13, .val (.ref r), .val (.int 6), .val (.int kk), .val (.long q17), .second] [(.int kk), (.ref r)])) rfl rfl (hb hby d28_623) t k) ?_
  refine oS (fun t k => XS.lstore X0.here hx rfl (hb hby d28_624) rfl (l' := #[y0, y1, y2, y3, y4, y5, y6, y7, .val (.long q8), .second, y10, y11, y12, y13, .val (.ref r), .val (.int 6), .val (.int kk), .val (.long (F (kk).toNatClampNeg)), .second]) rfl k) ?_
  show oG _ _ _ _ _ _ _ (T0.setTop (mkF m 626 #[y0, y1, y2, y3, y4, y5, y6, y7, .val (.long q8), .second, y10, y11, y12, y13, .val (.ref r), .val (.int 6), .val (.int kk), .val (.long (F (kk).toNatClampNeg)), .second] []))
  refine oS (fun t k => XS.lload X0.here hx rfl (hb hby d28_626) rfl k) ?_
  refine oS (fun t k => XS.lload X0.here hx rfl (hb hby d28_628) rfl k) ?_
  obtain ⟨_, _, ⟨T2, L2, k2, n2⟩, -, X2, ⟨Lc2, hQ2, l2, y2, z2⟩, st2⟩ := Jvm.LawKit.callS X0 hx (y := mY47) hown (oM hZ hw 290 rfl) (oM hZ hw 291 rfl) (oM hZ hw 60 rfl) (oM hZ hw 292 rfl) (by decide) (backOf (W := 0) (rm_maxJ l Z a0 hw [] q8 (F (kk).toNatClampNeg)  h0 n0 O0  ) hZ (oW hw 292 rfl) (oW hw 60 rfl) (by decide) (by decide)) (g := (mkF m 630 #[y0, y1, y2, y3, y4, y5, y6, y7, .val (.long q8), .second, y10, y11, y12, y13, .val (.ref r), .val (.int 6), .val (.int kk), .val (.long (F (kk).toNatClampNeg)), .second] [(.long (F (kk).toNatClampNeg)), (.long q8)])) rfl (by rw [hml]; rfl) (argsL := [(.long q8), (.long (F (kk).toNatClampNeg))]) (rest := []) (lenOf pd_19 rfl) rfl (by show 2 * 0 + _ ≤ _; exact Nat.le_of_eq rfl) (hb hby d28_630) (fun _ _ => ⟨rfl, e0, (by decide : 13 + 0 ≤ _), (by decide : 41 + 0 ≤ _)⟩)
  dsimp only [Pt.U, Pt.locs, Pt.cells, Pt.slots] at X2 l2 y2 z2 st2 hQ2
  rw [l2, y2, z2] at X2
  clear l2 y2 z2
  obtain ⟨x2_r, rfl, Nq2, e2⟩ := hQ2
  have N2 := Fr.app N0 Nq2
  refine oS (fun t k => st2 t k) ?_
  show oG _ _ _ _ _ _ _ (T2.setTop (mkF m 633 #[y0, y1, y2, y3, y4, y5, y6, y7, .val (.long q8), .second, y10, y11, y12, y13, .val (.ref r), .val (.int 6), .val (.int kk), .val (.long (F (kk).toNatClampNeg)), .second] [(.long x2_r)]))
  try clear st2
  refine oS (fun t k => XS.lstore X2.here hx rfl (hb hby d28_633) rfl (l' := #[y0, y1, y2, y3, y4, y5, y6, y7, .val (.long x2_r), .second, y10, y11, y12, y13, .val (.ref r), .val (.int 6), .val (.int kk), .val (.long (F (kk).toNatClampNeg)), .second]) rfl k) ?_
  refine oS (fun t k => XS.iinc X2.here hx rfl (hb hby d28_635) rfl (l' := #[y0, y1, y2, y3, y4, y5, y6, y7, .val (.long x2_r), .second, y10, y11, y12, y13, .val (.ref r), .val (.int 6), .val (.int (kk + (1 : Int32))), .val (.long (F (kk).toNatClampNeg)), .second]) rfl k) ?_
  refine oS (fun t k => XS.goto X2.here hx rfl (pc0 := 638) (pc' := 612) rfl (hb hby d28_638) (by decide) (by decide) k) ?_
  rw [hkn]
  exact cut _ _ x2_r (F (kk).toNatClampNeg) X2 e2 N2 
theorem d28_641 : decode prog_56_method_1_code 641 = .ok (.iinc 12 1, 3) := by decide +kernel
theorem d28_644 : decode prog_56_method_1_code 644 = .ok (.goto (-58), 3) := by decide +kernel
theorem d28_647 : decode prog_56_method_1_code 647 = .ok (.aload_n 0, 1) := by decide +kernel
theorem d28_648 : decode prog_56_method_1_code 648 = .ok (.ldc2_w 104, 3) := by decide +kernel
theorem d28_651 : decode prog_56_method_1_code 651 = .ok (.lload 6, 2) := by decide +kernel
theorem d28_653 : decode prog_56_method_1_code 653 = .ok (.lmul, 1) := by decide +kernel
theorem d28_654 : decode prog_56_method_1_code 654 = .ok (.putfield 106, 3) := by decide +kernel
theorem d28_657 : decode prog_56_method_1_code 657 = .ok (.aload_n 0, 1) := by decide +kernel
theorem d28_658 : decode prog_56_method_1_code 658 = .ok (.lload 8, 2) := by decide +kernel
theorem d28_660 : decode prog_56_method_1_code 660 = .ok (.putfield 110, 3) := by decide +kernel
theorem d28_663 : decode prog_56_method_1_code 663 = .ok (.return_, 1) := by decide +kernel
abbrev mY53 : MethodName := (⟨"com/example/shiftweave/shiftweave/rostering/Penalties", "<init>", "(Lcom/example/shiftweave/shiftweave/rostering/Ward;)V"⟩ : MethodName)
theorem ef_28_rr (m : MethodId) (x0 : Addr) (x1 : Addr) : entryFrame m #[(.ref x0), (.ref x1)] 19 = mkF m 0 #[.val (.ref x0), .val (.ref x1), .unset, .unset, .unset, .unset, .unset, .unset, .unset, .unset, .unset, .unset, .unset, .unset, .unset, .unset, .unset, .unset, .unset] [] := by first | (simp [entryFrame, mkF, argsToLocals, Value.category]; done) | rfl
theorem pn_16 : plainName "com/example/shiftweave/shiftweave/rostering/Penalties" = true := by first | (simp [plainName, overriddenIn]; done) | decide +kernel
def Q_pen (Z : State) (a1 : Addr) (a2 : Addr) (z2 : Addr) (z3 : Addr) (z4 : Addr) (z5 : Addr) (u4 : Addr) (u5 : Addr) (v2 : Addr) (v3 : Addr) (i1 : Int32) (i2 : Int32) (i3 : Int32) (i4 : Int32) (j1 : Int32) (j2 : Int32) (j3 : Int32) (j4 : Int32) (w : Nat → Addr) (h0 : Heap) (n0 : Nat) (v : Option Value) (h : Heap) (L : List Loc) : Prop := ∃ (ra : Addr) (rb : Addr) (rc : Addr) (ka : ClassId) (kb : ClassId) (f : Nat → Int64), v = none ∧ Fr n0 L ∧ Keep h0 h [a1] ∧ Fld Z h a1 "com/example/shiftweave/shiftweave/rostering/Penalties" "choices" "I" (.int 3) ∧ Fld Z h a1 "com/example/shiftweave/shiftweave/rostering/Penalties" "requests" "[[J" (.ref ra) ∧ Arv Z h ra ka (.array .long) (2 : Int32) [(.ref rb), (.ref rc)] .null ∧ own_Arf Z h rb kb (6 : Int32) f ∧ own_Arf Z h rc kb (6 : Int32) (own_hi f) ∧ f = (own_all i1 i2 i3 i4 j1 j2 j3 j4)
theorem rm_pen (l : Launch) (Z : State) (a0 : Array Value) (hw : ∀ d ∈ tables_1, d.before a0 Z = true) (ws : List Jvm.Cond) (a1 : Addr) (a2 : Addr) (z2 : Addr) (z3 : Addr) (z4 : Addr) (z5 : Addr) (u4 : Addr) (u5 : Addr) (v2 : Addr) (v3 : Addr) (i1 : Int32) (i2 : Int32) (i3 : Int32) (i4 : Int32) (j1 : Int32) (j2 : Int32) (j3 : Int32) (j4 : Int32) (w : Nat → Addr) (h0 : Heap) (n0 : Nat) (O0 : Old Z n0 h0) (W : own_World Z w) (E_a1 : Exa Z h0 a1 "com/example/shiftweave/shiftweave/rostering/Penalties") (g_a1 : n0 ≤ a1) (F_choices_a1 : Fld Z h0 a1 "com/example/shiftweave/shiftweave/rostering/Penalties" "choices" "I" (.int 0)) (F_cover_a1 : Fld Z h0 a1 "com/example/shiftweave/shiftweave/rostering/Penalties" "cover" "[[[J" .null) (F_requests_a1 : Fld Z h0 a1 "com/example/shiftweave/shiftweave/rostering/Penalties" "requests" "[[J" .null) (F_mostCoverChange_a1 : Fld Z h0 a1 "com/example/shiftweave/shiftweave/rostering/Penalties" "mostCoverChange" "J" (.long 0)) (F_mostRequestChange_a1 : Fld Z h0 a1 "com/example/shiftweave/shiftweave/rostering/Penalties" "mostRequestChange" "J" (.long 0)) (E_a2 : Exa Z h0 a2 "com/example/shiftweave/shiftweave/rostering/Ward") (F_days_a2 : Fld Z h0 a2 "com/example/shiftweave/shiftweave/rostering/Ward" "days" "I" (.int 2)) (F_shifts_a2 : Fld Z h0 a2 "com/example/shiftweave/shiftweave/rostering/Ward" "shifts" "Ljava/util/List;" (.ref z2)) (F_staff_a2 : Fld Z h0 a2 "com/example/shiftweave/shiftweave/rostering/Ward" "staff" "Ljava/util/List;" (.ref z3)) (F_onRequests_a2 : Fld Z h0 a2 "com/example/shiftweave/shiftweave/rostering/Ward" "onRequests" "Ljava/util/List;" (.ref z4)) (F_offRequests_a2 : Fld Z h0 a2 "com/example/shiftweave/shiftweave/rostering/Ward" "offRequests" "Ljava/util/List;" (.ref z5)) (F_cover_a2 : Fld Z h0 a2 "com/example/shiftweave/shiftweave/rostering/Ward" "cover" "Ljava/util/List;" (.ref (w 4))) (E_z2 : Exa Z h0 z2 "java/util/ImmutableCollections$List12") (F_e1_z2 : Fld Z h0 z2 "java/util/ImmutableCollections$List12" "e1" "Ljava/lang/Object;" (.ref v2)) (E_v2 : Exa Z h0 v2 "java/lang/Integer") (E_z3 : Exa Z h0 z3 "java/util/ImmutableCollections$List12") (F_e1_z3 : Fld Z h0 z3 "java/util/ImmutableCollections$List12" "e1" "Ljava/lang/Object;" (.ref v3)) (E_v3 : Exa Z h0 v3 "java/lang/Integer") (E_z4 : Exa Z h0 z4 "java/util/ImmutableCollections$List12") (F_e0_z4 : Fld Z h0 z4 "java/util/ImmutableCollections$List12" "e0" "Ljava/lang/Object;" (.ref u4)) (F_e1_z4 : Fld Z h0 z4 "java/util/ImmutableCollections$List12" "e1" "Ljava/lang/Object;" (.ref (w 3))) (E_z5 : Exa Z h0 z5 "java/util/ImmutableCollections$List12") (F_e0_z5 : Fld Z h0 z5 "java/util/ImmutableCollections$List12" "e0" "Ljava/lang/Object;" (.ref u5)) (F_e1_z5 : Fld Z h0 z5 "java/util/ImmutableCollections$List12" "e1" "Ljava/lang/Object;" (.ref (w 3))) (E_u4 : Exa Z h0 u4 "com/example/shiftweave/shiftweave/rostering/ShiftRequest") (E_u5 : Exa Z h0 u5 "com/example/shiftweave/shiftweave/rostering/ShiftRequest") (F_staff_u4 : Fld Z h0 u4 "com/example/shiftweave/shiftweave/rostering/ShiftRequest" "staff" "I" (.int i1)) (F_day_u4 : Fld Z h0 u4 "com/example/shiftweave/shiftweave/rostering/ShiftRequest" "day" "I" (.int i2)) (F_shift_u4 : Fld Z h0 u4 "com/example/shiftweave/shiftweave/rostering/ShiftRequest" "shift" "I" (.int i3)) (F_weight_u4 : Fld Z h0 u4 "com/example/shiftweave/shiftweave/rostering/ShiftRequest" "weight" "I" (.int i4)) (F_staff_u5 : Fld Z h0 u5 "com/example/shiftweave/shiftweave/rostering/ShiftRequest" "staff" "I" (.int j1)) (F_day_u5 : Fld Z h0 u5 "com/example/shiftweave/shiftweave/rostering/ShiftRequest" "day" "I" (.int j2)) (F_shift_u5 : Fld Z h0 u5 "com/example/shiftweave/shiftweave/rostering/ShiftRequest" "shift" "I" (.int j3)) (F_weight_u5 : Fld Z h0 u5 "com/example/shiftweave/shiftweave/rostering/ShiftRequest" "weight" "I" (.int j4)) (g_a2 : n0 ≤ a2) (g_z2 : n0 ≤ z2) (g_z3 : n0 ≤ z3) (g_z4 : n0 ≤ z4) (g_z5 : n0 ≤ z5) (g_u4 : n0 ≤ u4) (g_u5 : n0 ≤ u5) (ne_a1_a2 : a1 ≠ a2) (ne_a1_z2 : a1 ≠ z2) (ne_a1_z3 : a1 ≠ z3) (ne_a1_z4 : a1 ≠ z4) (ne_a1_z5 : a1 ≠ z5) (ne_a1_u4 : a1 ≠ u4) (ne_a1_u5 : a1 ≠ u5) (hi1 : i1 = (0 : Int32) ∨ i1 = (1 : Int32)) (hi2 : i2 = (0 : Int32) ∨ i2 = (1 : Int32)) (hi3 : i3 = (0 : Int32) ∨ i3 = (1 : Int32)) (hj1 : j1 = (0 : Int32) ∨ j1 = (1 : Int32)) (hj2 : j2 = (0 : Int32) ∨ j2 = (1 : Int32)) (hj3 : j3 = (0 : Int32) ∨ j3 = (1 : Int32)) :
    MetFree l mY53 (head1 (Jvm.Cond.code mY53 prog_56_method_1_code 19 none :: ws) R_26) (fun a U => a = #[(.ref a1), (.ref a2)] ∧ Z.Warmed39 U.vm ∧ U.heap = h0) (fun _ _ _ _ _ => True) (fun _ U o U' => ∃ v L, o = .returned v ∧ Q_pen Z a1 a2 z2 z3 z4 z5 u4 u5 v2 v3 i1 i2 i3 i4 j1 j2 j3 j4 w h0 n0 v U'.heap L ∧ FrameEnd U o U' L R_26.cells R_26.slots) := by
  refine MetFree.of_bodySF (plainFor_of_name pn_16) hisR ?_
  intro p e s m args below meth c s₁ Bd hml0 hP hK
  obtain ⟨rfl, hZ, hh⟩ := hP
  have hx := Bd.exec
  have hby := Bd.bytes
  have hml : c.maxLocals = 19 := hml0
  have hown : s.vm.findClass "com/example/shiftweave/shiftweave/rostering/Penalties" = some m.cls := findClass_of_methodNamed Bd.named
  have hnm := (name_of_methodNamed Bd.named Bd.method).1
  have X0 : Stand p l e R_26 s m #[(.ref a1), (.ref a2)] below meth c s₁ [] 0 0 := Stand.of_body Bd
  have e0 : s₁.heap = h0 := by rw [← hh, Bd.state]; rfl
  have N0 := Fr.nil n0
  show oG p e below s (Q_pen Z a1 a2 z2 z3 z4 z5 u4 u5 v2 v3 i1 i2 i3 i4 j1 j2 j3 j4 w h0 n0) R_26.cells R_26.slots _
  refine oS (fun t k => castTop (ef_28_rr m a1 a2) k) ?_
  show oG _ _ _ _ _ _ _ (s₁.setTop (mkF m 0 #[.val (.ref a1), .val (.ref a2), .unset, .unset, .unset, .unset, .unset, .unset, .unset, .unset, .unset, .unset, .unset, .unset, .unset, .unset, .unset, .unset, .unset] []))
  refine oS (fun t k => XS.aloadN X0.here hx rfl (hb hby d28_0) rfl rfl k) ?_
  obtain ⟨T1, X1, e1, st1⟩ := initO X0 hx hZ hown (oW hw 204 rfl) (oW hw 20 rfl) (oW hw 21 rfl) e0 (g := (mkF m 1 #[.val (.ref a1), .val (.ref a2), .unset, .unset, .unset, .unset, .unset, .unset, .unset, .unset, .unset, .unset, .unset, .unset, .unset, .unset, .unset, .unset, .unset] [(.ref a1)])) rfl (by rw [hml]; rfl) rfl (hb hby d28_1) (by decide) (W := 0) (by show 2 * 0 + _ ≤ _; exact Nat.le_of_eq rfl) (by decide)
  refine oS (fun t k => st1 t k) ?_
  refine oS (fun t k => XS.aloadN X1.here hx rfl (hb hby d28_4) rfl rfl k) ?_
  obtain ⟨cq2, kq2, q2a, q2b, q2c⟩ := isOf hZ e1 E_a2
  obtain ⟨_, _, ⟨T2, L2, k2, n2⟩, -, X2, ⟨Lc2, hQ2, l2, y2, z2⟩, st2⟩ := X1.virtualBack hx (y := mY28) (z := mY28) hown (oM hZ hw 205 rfl) (oM hZ hw 206 rfl) (notFace_of_selects (args := #[]) (oM hZ hw 208 rfl)) (oM hZ hw 208 rfl) (oM hZ hw 207 rfl) (by decide) (backOf (W := 0) (rm_w_shifts l Z a0 hw [] a2 z2  h0 n0 O0  F_shifts_a2) hZ (oW hw 209 rfl) (oW hw 88 rfl) (by decide) (by decide)) q2a q2c (g := (mkF m 5 #[.val (.ref a1), .val (.ref a2), .unset, .unset, .unset, .unset, .unset, .unset, .unset, .unset, .unset, .unset, .unset, .unset, .unset, .unset, .unset, .unset, .unset] [(.ref a2)])) rfl (by rw [hml]; rfl) (Steps.refl _) (argsL := []) (rest := []) (lenOf pd_13 rfl) rfl (by show 2 * 0 + _ ≤ _; exact Nat.le_of_eq rfl) (hb hby d28_5) (fun _ _ => ⟨rfl, e1, (by decide : 0 + 0 ≤ _), (by decide : 0 + 0 ≤ _)⟩)
  dsimp only [Pt.U, Pt.locs, Pt.cells, Pt.slots] at X2 l2 y2 z2 st2 hQ2
  rw [l2, y2, z2] at X2
  clear l2 y2 z2
  obtain ⟨rfl, Nq2, e2⟩ := hQ2
  have N2 := Fr.app N0 Nq2
  refine oS (fun t k => st2.trans k) ?_
  show oG _ _ _ _ _ _ _ (T2.setTop (mkF m 8 #[.val (.ref a1), .val (.ref a2), .unset, .unset, .unset, .unset, .unset, .unset, .unset, .unset, .unset, .unset, .unset, .unset, .unset, .unset, .unset, .unset, .unset] [(.ref z2)]))
  try clear st2 X1 e1
  try clear T1
  obtain ⟨cq3, kq3, q3a, q3b, q3c⟩ := isOf hZ e2 E_z2
  obtain ⟨_, _, ⟨T3, L3, k3, n3⟩, -, X3, ⟨Lc3, hQ3, l3, y3, z3⟩, st3⟩ := X2.interfaceBack hx (xi := mY49) (y := mY38) hown (oM hZ hw 210 rfl) (oM hZ hw 211 rfl) (oM hZ hw 212 rfl) (oM hZ hw 213 rfl) (oM hZ hw 214 rfl) (oM hZ hw 215 rfl) (oM hZ hw 216 rfl) (oM hZ hw 217 rfl) (by decide) (backOf (W := 0) (rm_size2 l Z a0 hw [] z2 v2 w h0 n0 O0 W F_e1_z2 E_v2) hZ (oW hw 218 rfl) (oW hw 151 rfl) (by decide) (by decide)) q3a q3b q3c (g := (mkF m 8 #[.val (.ref a1), .val (.ref a2), .unset, .unset, .unset, .unset, .unset, .unset, .unset, .unset, .unset, .unset, .unset, .unset, .unset, .unset, .unset, .unset, .unset] [(.ref z2)])) rfl (by rw [hml]; rfl) (Steps.refl _) (argsL := []) (rest := []) (lenOf pd_14 rfl) rfl (by show 2 * 0 + _ ≤ _; exact Nat.le_of_eq rfl) (hb hby d28_8) (fun _ _ => ⟨rfl, e2, (by decide : 0 + 0 ≤ _), (by decide : 0 + 0 ≤ _)⟩)
  dsimp only [Pt.U, Pt.locs, Pt.cells, Pt.slots] at X3 l3 y3 z3 st3 hQ3
  rw [l3, y3, z3] at X3
  clear l3 y3 z3
  obtain ⟨rfl, Nq3, e3⟩ := hQ3
  have N3 := Fr.app N2 Nq3
  refine oS (fun t k => st3.trans k) ?_
  show oG _ _ _ _ _ _ _ (T3.setTop (mkF m 13 #[.val (.ref a1), .val (.ref a2), .unset, .unset, .unset, .unset, .unset, .unset, .unset, .unset, .unset, .unset, .unset, .unset, .unset, .unset, .unset, .unset, .unset] [(.int 2)]))
  try clear st3 X2 e2
  refine oS (fun t k => XS.istoreN X3.here hx rfl (hb hby d28_13) rfl (l' := #[.val (.ref a1), .val (.ref a2), .val (.int 2), .unset, .unset, .unset, .unset, .unset, .unset, .unset, .unset, .unset, .unset, .unset, .unset, .unset, .unset, .unset, .unset]) rfl k) ?_
  refine oS (fun t k => XS.aloadN X3.here hx rfl (hb hby d28_14) rfl rfl k) ?_
  obtain ⟨cq4, kq4, q4a, q4b, q4c⟩ := isOf hZ e3 E_a2
  obtain ⟨_, _, ⟨T4, L4, k4, n4⟩, -, X4, ⟨Lc4, hQ4, l4, y4, z4⟩, st4⟩ := X3.virtualBack hx (y := mY29) (z := mY29) hown (oM hZ hw 219 rfl) (oM hZ hw 220 rfl) (notFace_of_selects (args := #[]) (oM hZ hw 222 rfl)) (oM hZ hw 222 rfl) (oM hZ hw 221 rfl) (by decide) (backOf (W := 0) (rm_w_staff l Z a0 hw [] a2 z3  h0 n0 O0  F_staff_a2) hZ (oW hw 223 rfl) (oW hw 88 rfl) (by decide) (by decide)) q4a q4c (g := (mkF m 15 #[.val (.ref a1), .val (.ref a2), .val (.int 2), .unset, .unset, .unset, .unset, .unset, .unset, .unset, .unset, .unset, .unset, .unset, .unset, .unset, .unset, .unset, .unset] [(.ref a2)])) rfl (by rw [hml]; rfl) (Steps.refl _) (argsL := []) (rest := []) (lenOf pd_13 rfl) rfl (by show 2 * 0 + _ ≤ _; exact Nat.le_of_eq rfl) (hb hby d28_15) (fun _ _ => ⟨rfl, e3, (by decide : 0 + 0 ≤ _), (by decide : 0 + 0 ≤ _)⟩)
  dsimp only [Pt.U, Pt.locs, Pt.cells, Pt.slots] at X4 l4 y4 z4 st4 hQ4
  rw [l4, y4, z4] at X4
  clear l4 y4 z4
  obtain ⟨rfl, Nq4, e4⟩ := hQ4
  have N4 := Fr.app N3 Nq4
  refine oS (fun t k => st4.trans k) ?_
  show oG _ _ _ _ _ _ _ (T4.setTop (mkF m 18 #[.val (.ref a1), .val (.ref a2), .val (.int 2), .unset, .unset, .unset, .unset, .unset, .unset, .unset, .unset, .unset, .unset, .unset, .unset, .unset, .unset, .unset, .unset] [(.ref z3)]))
  try clear st4 X3 e3
  obtain ⟨cq5, kq5, q5a, q5b, q5c⟩ := isOf hZ e4 E_z3
  obtain ⟨_, _, ⟨T5, L5, k5, n5⟩, -, X5, ⟨Lc5, hQ5, l5, y5, z5⟩, st5⟩ := X4.interfaceBack hx (xi := mY49) (y := mY38) hown (oM hZ hw 210 rfl) (oM hZ hw 211 rfl) (oM hZ hw 212 rfl) (oM hZ hw 213 rfl) (oM hZ hw 214 rfl) (oM hZ hw 215 rfl) (oM hZ hw 216 rfl) (oM hZ hw 217 rfl) (by decide) (backOf (W := 0) (rm_size2 l Z a0 hw [] z3 v3 w h0 n0 O0 W F_e1_z3 E_v3) hZ (oW hw 218 rfl) (oW hw 151 rfl) (by decide) (by decide)) q5a q5b q5c (g := (mkF m 18 #[.val (.ref a1), .val (.ref a2), .val (.int 2), .unset, .unset, .unset, .unset, .unset, .unset, .unset, .unset, .unset, .unset, .unset, .unset, .unset, .unset, .unset, .unset] [(.ref z3)])) rfl (by rw [hml]; rfl) (Steps.refl _) (argsL := []) (rest := []) (lenOf pd_14 rfl) rfl (by show 2 * 0 + _ ≤ _; exact Nat.le_of_eq rfl) (hb hby d28_18) (fun _ _ => ⟨rfl, e4, (by decide : 0 + 0 ≤ _), (by decide : 0 + 0 ≤ _)⟩)
  dsimp only [Pt.U, Pt.locs, Pt.cells, Pt.slots] at X5 l5 y5 z5 st5 hQ5
  rw [l5, y5, z5] at X5
  clear l5 y5 z5
  obtain ⟨rfl, Nq5, e5⟩ := hQ5
  have N5 := Fr.app N4 Nq5
  refine oS (fun t k => st5.trans k) ?_
  show oG _ _ _ _ _ _ _ (T5.setTop (mkF m 23 #[.val (.ref a1), .val (.ref a2), .val (.int 2), .unset, .unset, .unset, .unset, .unset, .unset, .unset, .unset, .unset, .unset, .unset, .unset, .unset, .unset, .unset, .unset] [(.int 2)]))
  try clear st5 X4 e4
  refine oS (fun t k => XS.istoreN X5.here hx rfl (hb hby d28_23) rfl (l' := #[.val (.ref a1), .val (.ref a2), .val (.int 2), .val (.int 2), .unset, .unset, .unset, .unset, .unset, .unset, .unset, .unset, .unset, .unset, .unset, .unset, .unset, .unset, .unset]) rfl k) ?_
  refine oS (fun t k => XS.aloadN X5.here hx rfl (hb hby d28_24) rfl rfl k) ?_
  refine oS (fun t k => XS.iloadN X5.here hx rfl (hb hby d28_25) rfl k) ?_
  refine oS (fun t k => oIc li_1 X5.here hx rfl (hb hby d28_26) k) ?_
  refine oS (S' := (T5.setTop (mkF m 28 #[.val (.ref a1), .val (.ref a2), .val (.int 2), .val (.int 2), .unset, .unset, .unset, .unset, .unset, .unset, .unset, .unset, .unset, .unset, .unset, .unset, .unset, .unset, .unset] [(.int 3), (.ref a1)]))) (fun t k => XS.iadd X5.here hx rfl (hb hby d28_27) rfl (by rw [show (2 : Int32) + (1 : Int32) = (3 : Int32) from by decide]; exact k)) ?_
  obtain ⟨T6, h6, X6, e6, W6, st6⟩ := putF X5 hx hZ hown (host := "") (Or.inl (oW hw 224 rfl)) Via.refl e5 F_choices_a1 E_a1 (Or.inr ⟨(oW hw 225 rfl), rfl, hnm⟩) (oW hw 199 rfl) (ty := .int) (by decide) rfl rfl (g := (mkF m 28 #[.val (.ref a1), .val (.ref a2), .val (.int 2), .val (.int 2), .unset, .unset, .unset, .unset, .unset, .unset, .unset, .unset, .unset, .unset, .unset, .unset, .unset, .unset, .unset] [(.int 3), (.ref a1)])) rfl rfl (hb hby d28_28)
  have O6 := O0.wr W6 g_a1
  have N6 := Fr.snoc X6 N5 g_a1
  have Kp6 : Keep h0 h6 [a1] := (Keep.refl h0 [a1]).wr W6 (Or.inl (List.mem_of_getElem? (i := 0) rfl))
  have Fw6 := F_choices_a1.same W6
  refine oS (fun t k => st6 t k) ?_
  try clear st6 X5 e5
  refine oS (fun t k => XS.iloadN X6.here hx rfl (hb hby d28_31) rfl k) ?_
  show oG _ _ _ _ _ _ _ (T6.setTop (mkF m 32 #[.val (.ref a1), .val (.ref a2), .val (.int 2), .val (.int 2), .unset, .unset, .unset, .unset, .unset, .unset, .unset, .unset, .unset, .unset, .unset, .unset, .unset, .unset, .unset] [(.int 2)]))
  refine oS (fun t k => oIc li_1 X6.here hx rfl (hb hby d28_32) k) ?_
  refine oS (S' := (T6.setTop (mkF m 34 #[.val (.ref a1), .val (.ref a2), .val (.int 2), .val (.int 2), .unset, .unset, .unset, .unset, .unset, .unset, .unset, .unset, .unset, .unset, .unset, .unset, .unset, .unset, .unset] [(.int 3)]))) (fun t k => XS.iadd X6.here hx rfl (hb hby d28_33) rfl (by rw [show (2 : Int32) + (1 : Int32) = (3 : Int32) from by decide]; exact k)) ?_
  obtain ⟨T7, h7, k7, X7, e7, E7, A7, Ex7, st7⟩ := newPE X6 hx hZ (oW hw 226 rfl) e6 (g := (mkF m 34 #[.val (.ref a1), .val (.ref a2), .val (.int 2), .val (.int 2), .unset, .unset, .unset, .unset, .unset, .unset, .unset, .unset, .unset, .unset, .unset, .unset, .unset, .unset, .unset] [(.int 3)])) rfl (hb hby d28_34) rfl (by decide) (cap := 3) (by decide) (by decide) (by decide) (by decide) (ad := "[J") (by decide)
  obtain ⟨b7, g7⟩ : ∃ z, z = h6.size := ⟨_, rfl⟩
  rw [← g7] at A7 Ex7 st7
  have V7 : Arv Z h7 b7 k7 .long (3 : Int32) [(.long 0), (.long 0), (.long 0)] (.long 0) := (Arv.new A7 (by decide)).pad (pad_rep [] (.long 0) 3)
  have gx7 : n0 ≤ b7 := Nat.le_trans (O6.1 ▸ O6.2.1) (Nat.le_of_eq g7.symm)
  have sz7 : h0.size ≤ b7 := Nat.le_trans Kp6.1 (Nat.le_of_eq g7.symm)
  have ne_a1_b7 : a1 ≠ b7 := Nat.ne_of_lt (Nat.lt_of_lt_of_le (E_a1.wr W6).lt (Nat.le_of_eq g7.symm))
  have ne_a2_b7 : a2 ≠ b7 := Nat.ne_of_lt (Nat.lt_of_lt_of_le (E_a2.wr W6).lt (Nat.le_of_eq g7.symm))
  have ne_z2_b7 : z2 ≠ b7 := Nat.ne_of_lt (Nat.lt_of_lt_of_le (E_z2.wr W6).lt (Nat.le_of_eq g7.symm))
  have ne_z3_b7 : z3 ≠ b7 := Nat.ne_of_lt (Nat.lt_of_lt_of_le (E_z3.wr W6).lt (Nat.le_of_eq g7.symm))
  have ne_z4_b7 : z4 ≠ b7 := Nat.ne_of_lt (Nat.lt_of_lt_of_le (E_z4.wr W6).lt (Nat.le_of_eq g7.symm))
  have ne_z5_b7 : z5 ≠ b7 := Nat.ne_of_lt (Nat.lt_of_lt_of_le (E_z5.wr W6).lt (Nat.le_of_eq g7.symm))
  have ne_u4_b7 : u4 ≠ b7 := Nat.ne_of_lt (Nat.lt_of_lt_of_le (E_u4.wr W6).lt (Nat.le_of_eq g7.symm))
  have ne_u5_b7 : u5 ≠ b7 := Nat.ne_of_lt (Nat.lt_of_lt_of_le (E_u5.wr W6).lt (Nat.le_of_eq g7.symm))
  have O7 := O6.ext E7
  have Kp7 : Keep h0 h7 [a1] := Kp6.ext E7
  refine oS (fun t k => st7 t k) ?_
  try clear st7 X6 e6
  try clear T6
  refine oS (fun t k => XS.astore X7.here hx rfl (hb hby d28_36) rfl rfl (l' := #[.val (.ref a1), .val (.ref a2), .val (.int 2), .val (.int 2), .val (.ref b7), .unset, .unset, .unset, .unset, .unset, .unset, .unset, .unset, .unset, .unset, .unset, .unset, .unset, .unset]) rfl k) ?_
  refine oS (fun t k => XS.aloadN X7.here hx rfl (hb hby d28_38) rfl rfl k) ?_
  refine oS (fun t k => XS.aloadN X7.here hx rfl (hb hby d28_39) rfl rfl k) ?_
  obtain ⟨cq8, kq8, q8a, q8b, q8c⟩ := isOf hZ e7 ((E_a2.wr W6).ext E7)
  obtain ⟨_, _, ⟨T8, L8, k8, n8⟩, -, X8, ⟨Lc8, hQ8, l8, y8, z8⟩, st8⟩ := X7.virtualBack hx (y := mY33) (z := mY33) hown (oM hZ hw 227 rfl) (oM hZ hw 228 rfl) (notFace_of_selects (args := #[]) (oM hZ hw 230 rfl)) (oM hZ hw 230 rfl) (oM hZ hw 229 rfl) (by decide) (backOf (W := 1) (rm_w_days l Z a0 hw [] a2  h7 n0 O7  ((F_days_a2.other W6 (Or.inl (Ne.symm ne_a1_a2))).ext E7)) hZ (oW hw 231 rfl) (oW hw 88 rfl) (by decide) (by decide)) q8a q8c (g := (mkF m 40 #[.val (.ref a1), .val (.ref a2), .val (.int 2), .val (.int 2), .val (.ref b7), .unset, .unset, .unset, .unset, .unset, .unset, .unset, .unset, .unset, .unset, .unset, .unset, .unset, .unset] [(.ref a2), (.ref a1)])) rfl (by rw [hml]; rfl) (Steps.refl _) (argsL := []) (rest := [(.ref a1)]) (lenOf pd_14 rfl) rfl (by show 2 * 0 + _ ≤ _; exact Nat.le_of_eq rfl) (hb hby d28_40) (fun _ _ => ⟨rfl, e7, (by decide : 1 + 0 ≤ _), (by decide : 3 + 0 ≤ _)⟩)
  dsimp only [Pt.U, Pt.locs, Pt.cells, Pt.slots] at X8 l8 y8 z8 st8 hQ8
  rw [l8, y8, z8] at X8
  clear l8 y8 z8
  obtain ⟨rfl, Nq8, e8⟩ := hQ8
  have N8 := Fr.app N6 Nq8
  refine oS (fun t k => st8.trans k) ?_
  show oG _ _ _ _ _ _ _ (T8.setTop (mkF m 43 #[.val (.ref a1), .val (.ref a2), .val (.int 2), .val (.int 2), .val (.ref b7), .unset, .unset, .unset, .unset, .unset, .unset, .unset, .unset, .unset, .unset, .unset, .unset, .unset, .unset] [(.int 2), (.ref a1)]))
  try clear st8 X7 e7
  try clear T7
  refine oS (fun t k => XS.iloadN X8.here hx rfl (hb hby d28_43) rfl k) ?_
  obtain ⟨b9, g9⟩ : ∃ z, z = h7.size := ⟨_, rfl⟩
  obtain ⟨c9_0, gc9_0⟩ : ∃ z, z = h7.size + 1 + 0 := ⟨_, rfl⟩
  obtain ⟨c9_1, gc9_1⟩ : ∃ z, z = h7.size + 1 + 1 := ⟨_, rfl⟩
  obtain ⟨T9, h9, k9, kr9, X9, e9, E9, V9, O9v, Ex9, R9, st9⟩ := gridM X8 hx hZ hown (ty := (.array .long)) (C := "[[J") (ad := "[[[J") (by decide) (by decide) (oW hw 232 rfl) (oW hw 233 rfl) (own_arrayClass (oW hw 234 rfl)) e8 (g := (mkF m 44 #[.val (.ref a1), .val (.ref a2), .val (.int 2), .val (.int 2), .val (.ref b7), .unset, .unset, .unset, .unset, .unset, .unset, .unset, .unset, .unset, .unset, .unset, .unset, .unset, .unset] [(.int 2), (.int 2), (.ref a1)])) rfl (hb hby d28_44) (n := (2 : Int32)) (k := (2 : Int32)) rfl (by decide) (by decide) (xs := [c9_0, c9_1]) (N := 2) (by decide) (by rw [gc9_0, gc9_1]; rfl) (cap := 2) (by decide) (by decide) (by decide) rfl rfl (by decide) (by decide)
  rw [← g9] at V9 Ex9 st9
  have Vg9 : Arv Z h9 b9 k9 (.array (.array .long)) (2 : Int32) [(.ref c9_0), (.ref c9_1)] .null := V9
  have gxb9 : n0 ≤ b9 := Nat.le_trans (O7.1 ▸ O7.2.1) (Nat.le_of_eq g9.symm)
  have szb9 : h0.size ≤ b9 := Nat.le_trans Kp7.1 (Nat.le_of_eq g9.symm)
  have ne_a1_b9 : a1 ≠ b9 := Nat.ne_of_lt (Nat.lt_of_lt_of_le ((E_a1.wr W6).ext E7).lt (Nat.le_of_eq g9.symm))
  have ne_a2_b9 : a2 ≠ b9 := Nat.ne_of_lt (Nat.lt_of_lt_of_le ((E_a2.wr W6).ext E7).lt (Nat.le_of_eq g9.symm))
  have ne_z2_b9 : z2 ≠ b9 := Nat.ne_of_lt (Nat.lt_of_lt_of_le ((E_z2.wr W6).ext E7).lt (Nat.le_of_eq g9.symm))
  have ne_z3_b9 : z3 ≠ b9 := Nat.ne_of_lt (Nat.lt_of_lt_of_le ((E_z3.wr W6).ext E7).lt (Nat.le_of_eq g9.symm))
  have ne_z4_b9 : z4 ≠ b9 := Nat.ne_of_lt (Nat.lt_of_lt_of_le ((E_z4.wr W6).ext E7).lt (Nat.le_of_eq g9.symm))
  have ne_z5_b9 : z5 ≠ b9 := Nat.ne_of_lt (Nat.lt_of_lt_of_le ((E_z5.wr W6).ext E7).lt (Nat.le_of_eq g9.symm))
  have ne_u4_b9 : u4 ≠ b9 := Nat.ne_of_lt (Nat.lt_of_lt_of_le ((E_u4.wr W6).ext E7).lt (Nat.le_of_eq g9.symm))
  have ne_u5_b9 : u5 ≠ b9 := Nat.ne_of_lt (Nat.lt_of_lt_of_le ((E_u5.wr W6).ext E7).lt (Nat.le_of_eq g9.symm))
  have ne_b7_b9 : b7 ≠ b9 := Nat.ne_of_lt (Nat.lt_of_lt_of_le V7.lt (Nat.le_of_eq g9.symm))
  have gxc9_0 : n0 ≤ c9_0 := Nat.le_trans (O7.1 ▸ O7.2.1) (by rw [gc9_0]; omega)
  have szc9_0 : h0.size ≤ c9_0 := Nat.le_trans Kp7.1 (by rw [gc9_0]; omega)
  have ne_a1_c9_0 : a1 ≠ c9_0 := Nat.ne_of_lt (Nat.lt_of_lt_of_le ((E_a1.wr W6).ext E7).lt (by rw [gc9_0]; omega))
  have ne_a2_c9_0 : a2 ≠ c9_0 := Nat.ne_of_lt (Nat.lt_of_lt_of_le ((E_a2.wr W6).ext E7).lt (by rw [gc9_0]; omega))
  have ne_z2_c9_0 : z2 ≠ c9_0 := Nat.ne_of_lt (Nat.lt_of_lt_of_le ((E_z2.wr W6).ext E7).lt (by rw [gc9_0]; omega))
  have ne_z3_c9_0 : z3 ≠ c9_0 := Nat.ne_of_lt (Nat.lt_of_lt_of_le ((E_z3.wr W6).ext E7).lt (by rw [gc9_0]; omega))
  have ne_z4_c9_0 : z4 ≠ c9_0 := Nat.ne_of_lt (Nat.lt_of_lt_of_le ((E_z4.wr W6).ext E7).lt (by rw [gc9_0]; omega))
  have ne_z5_c9_0 : z5 ≠ c9_0 := Nat.ne_of_lt (Nat.lt_of_lt_of_le ((E_z5.wr W6).ext E7).lt (by rw [gc9_0]; omega))
  have ne_u4_c9_0 : u4 ≠ c9_0 := Nat.ne_of_lt (Nat.lt_of_lt_of_le ((E_u4.wr W6).ext E7).lt (by rw [gc9_0]; omega))
  have ne_u5_c9_0 : u5 ≠ c9_0 := Nat.ne_of_lt (Nat.lt_of_lt_of_le ((E_u5.wr W6).ext E7).lt (by rw [gc9_0]; omega))
  have ne_b7_c9_0 : b7 ≠ c9_0 := Nat.ne_of_lt (Nat.lt_of_lt_of_le V7.lt (by rw [gc9_0]; omega))
  have gxc9_1 : n0 ≤ c9_1 := Nat.le_trans (O7.1 ▸ O7.2.1) (by rw [gc9_1]; omega)
  have szc9_1 : h0.size ≤ c9_1 := Nat.le_trans Kp7.1 (by rw [gc9_1]; omega)
  have ne_a1_c9_1 : a1 ≠ c9_1 := Nat.ne_of_lt (Nat.lt_of_lt_of_le ((E_a1.wr W6).ext E7).lt (by rw [gc9_1]; omega))
  have ne_a2_c9_1 : a2 ≠ c9_1 := Nat.ne_of_lt (Nat.lt_of_lt_of_le ((E_a2.wr W6).ext E7).lt (by rw [gc9_1]; omega))
  have ne_z2_c9_1 : z2 ≠ c9_1 := Nat.ne_of_lt (Nat.lt_of_lt_of_le ((E_z2.wr W6).ext E7).lt (by rw [gc9_1]; omega))
  have ne_z3_c9_1 : z3 ≠ c9_1 := Nat.ne_of_lt (Nat.lt_of_lt_of_le ((E_z3.wr W6).ext E7).lt (by rw [gc9_1]; omega))
  have ne_z4_c9_1 : z4 ≠ c9_1 := Nat.ne_of_lt (Nat.lt_of_lt_of_le ((E_z4.wr W6).ext E7).lt (by rw [gc9_1]; omega))
  have ne_z5_c9_1 : z5 ≠ c9_1 := Nat.ne_of_lt (Nat.lt_of_lt_of_le ((E_z5.wr W6).ext E7).lt (by rw [gc9_1]; omega))
  have ne_u4_c9_1 : u4 ≠ c9_1 := Nat.ne_of_lt (Nat.lt_of_lt_of_le ((E_u4.wr W6).ext E7).lt (by rw [gc9_1]; omega))
  have ne_u5_c9_1 : u5 ≠ c9_1 := Nat.ne_of_lt (Nat.lt_of_lt_of_le ((E_u5.wr W6).ext E7).lt (by rw [gc9_1]; omega))
  have ne_b7_c9_1 : b7 ≠ c9_1 := Nat.ne_of_lt (Nat.lt_of_lt_of_le V7.lt (by rw [gc9_1]; omega))
  have ne_b9_c9_0 : b9 ≠ c9_0 := (by rw [g9, gc9_0]; omega)
  have ne_b9_c9_1 : b9 ≠ c9_1 := (by rw [g9, gc9_1]; omega)
  have ne_c9_0_c9_1 : c9_0 ≠ c9_1 := (by rw [gc9_0, gc9_1]; omega)
  have O9 := O7.ext E9
  have Kp9 : Keep h0 h9 [a1] := Kp7.ext E9
  have Ac9_0 := (R9 0 c9_0 rfl).1
  have Exc9_0 := (R9 0 c9_0 rfl).2
  have Vc9_0 : Arv Z h9 c9_0 kr9 (.array .long) (2 : Int32) [.null, .null] .null := (Arv.new Ac9_0 (by decide)).pad (pad_rep [] .null 2)
  have Ov9 := own_ovrA (C := "[J") Ac9_0 Exc9_0 (oW hw 234 rfl)
  have Ac9_1 := (R9 1 c9_1 rfl).1
  have Exc9_1 := (R9 1 c9_1 rfl).2
  have Vc9_1 : Arv Z h9 c9_1 kr9 (.array .long) (2 : Int32) [.null, .null] .null := (Arv.new Ac9_1 (by decide)).pad (pad_rep [] .null 2)
  clear R9 Ac9_0 Ac9_1
  refine oS (fun t k => st9 t k) ?_
  try clear st9 X8 e8
  obtain ⟨T10, h10, X10, e10, W10, st10⟩ := putF X9 hx hZ hown (host := "") (Or.inl (oW hw 235 rfl)) Via.refl e9 (((F_cover_a1.other W6 (Or.inr (slot_ne (Or.inr (oW hw 236 rfl)) (Or.inr (oW hw 225 rfl)) (by decide) (t := (.array (.array (.array .long)))) (t' := .int) (by decide) (by decide)))).ext E7).ext E9) (((E_a1.wr W6).ext E7).ext E9) (Or.inr ⟨(oW hw 236 rfl), rfl, hnm⟩) (oW hw 199 rfl) (ty := (.array (.array (.array .long)))) (by decide) rfl rfl (g := (mkF m 48 #[.val (.ref a1), .val (.ref a2), .val (.int 2), .val (.int 2), .val (.ref b7), .unset, .unset, .unset, .unset, .unset, .unset, .unset, .unset, .unset, .unset, .unset, .unset, .unset, .unset] [(.ref b9), (.ref a1)])) rfl rfl (hb hby d28_48)
  have O10 := O9.wr W10 g_a1
  have N10 := Fr.snoc X10 N8 g_a1
  have Kp10 : Keep h0 h10 [a1] := Kp9.wr W10 (Or.inl (List.mem_of_getElem? (i := 0) rfl))
  have Fw10 := (((F_cover_a1.other W6 (Or.inr (slot_ne (Or.inr (oW hw 236 rfl)) (Or.inr (oW hw 225 rfl)) (by decide) (t := (.array (.array (.array .long)))) (t' := .int) (by decide) (by decide)))).ext E7).ext E9).same W10
  refine oS (fun t k => st10 t k) ?_
  try clear st10 X9 e9
  try clear T9
  refine oS (fun t k => XS.aloadN X10.here hx rfl (hb hby d28_51) rfl rfl k) ?_
  obtain ⟨T11, X11, e11, st11⟩ := getF X10 hx hZ hown (host := "") (Or.inl (oW hw 235 rfl)) Via.refl e10 Fw10 (g := (mkF m 52 #[.val (.ref a1), .val (.ref a2), .val (.int 2), .val (.int 2), .val (.ref b7), .unset, .unset, .unset, .unset, .unset, .unset, .unset, .unset, .unset, .unset, .unset, .unset, .unset, .unset] [(.ref a1)])) rfl rfl (hb hby d28_52)
  refine oS (fun t k => st11 t k) ?_
  try clear st11 X10 e10
  try clear T10
  refine oS (fun t k => XS.astore X11.here hx rfl (hb hby d28_55) rfl rfl (l' := #[.val (.ref a1), .val (.ref a2), .val (.int 2), .val (.int 2), .val (.ref b7), .val (.ref b9), .unset, .unset, .unset, .unset, .unset, .unset, .unset, .unset, .unset, .unset, .unset, .unset, .unset]) rfl k) ?_
  refine oS (fun t k => XS.aload X11.here hx rfl (hb hby d28_57) rfl rfl k) ?_
  show oG _ _ _ _ _ _ _ (T11.setTop (mkF m 59 #[.val (.ref a1), .val (.ref a2), .val (.int 2), .val (.int 2), .val (.ref b7), .val (.ref b9), .unset, .unset, .unset, .unset, .unset, .unset, .unset, .unset, .unset, .unset, .unset, .unset, .unset] [(.ref b9)]))
  obtain ⟨cl12, Ar12, -, Sz12, Ng12, -, -⟩ := id (Vg9.other W10 (Ne.symm ne_a1_b9))
  refine oS (S' := (T11.setTop (mkF m 60 #[.val (.ref a1), .val (.ref a2), .val (.int 2), .val (.int 2), .val (.ref b7), .val (.ref b9), .unset, .unset, .unset, .unset, .unset, .unset, .unset, .unset, .unset, .unset, .unset, .unset, .unset] [(.int 2)]))) (fun t k => X11.arraylength hx (by rw [e11]; exact Ar12.1) (State.isArrayOf_alike hZ.alike Ar12.2.1) (g := (mkF m 59 #[.val (.ref a1), .val (.ref a2), .val (.int 2), .val (.int 2), .val (.ref b7), .val (.ref b9), .unset, .unset, .unset, .unset, .unset, .unset, .unset, .unset, .unset, .unset, .unset, .unset, .unset] [(.ref b9)])) rfl rfl (hb hby d28_59) t (by rw [len_of Sz12 Ng12]; exact k)) ?_
  refine oS (fun t k => XS.istore X11.here hx rfl (hb hby d28_60) rfl (l' := #[.val (.ref a1), .val (.ref a2), .val (.int 2), .val (.int 2), .val (.ref b7), .val (.ref b9), .val (.int 2), .unset, .unset, .unset, .unset, .unset, .unset, .unset, .unset, .unset, .unset, .unset, .unset]) rfl k) ?_
  refine oS (fun t k => oIc li_0 X11.here hx rfl (hb hby d28_62) k) ?_
  refine oS (fun t k => XS.istore X11.here hx rfl (hb hby d28_63) rfl (l' := #[.val (.ref a1), .val (.ref a2), .val (.int 2), .val (.int 2), .val (.ref b7), .val (.ref b9), .val (.int 2), .val (.int 0), .unset, .unset, .unset, .unset, .unset, .unset, .unset, .unset, .unset, .unset, .unset]) rfl k) ?_
  refine oS (fun t k => XS.iload X11.here hx rfl (hb hby d28_65) rfl k) ?_
  refine oS (fun t k => XS.iload X11.here hx rfl (hb hby d28_67) rfl k) ?_
  refine oS (fun t k => XS.icmpNo X11.here hx rfl (hb hby d28_69) rfl (tlt (by decide)).2.1 k) ?_
  show oG _ _ _ _ _ _ _ (T11.setTop (mkF m 72 #[.val (.ref a1), .val (.ref a2), .val (.int 2), .val (.int 2), .val (.ref b7), .val (.ref b9), .val (.int 2), .val (.int 0), .unset, .unset, .unset, .unset, .unset, .unset, .unset, .unset, .unset, .unset, .unset] []))
  refine oS (fun t k => XS.aload X11.here hx rfl (hb hby d28_72) rfl rfl k) ?_
  refine oS (fun t k => XS.iload X11.here hx rfl (hb hby d28_74) rfl k) ?_
  obtain ⟨cl13, Ar13, qk13, Sz13, Ng13, Ha13, Gf13⟩ := id (Vg9.other W10 (Ne.symm ne_a1_b9))
  have hin13 : ¬ ((0 : Int32) < 0 ∨ cl13.slots.size ≤ ((0 : Int32)).toNatClampNeg) := (inb_of Sz13 ⟨by decide, by decide⟩)
  have hat13 : cl13.slots[((0 : Int32)).toNatClampNeg]? = some (.ref c9_0) := Ha13.at hin13 rfl
  refine oS (fun t k => X11.aaload hx (j := (0 : Int32)) (v := (.ref c9_0)) (by rw [e11]; exact Ar13.1) (State.isArrayOf_alike hZ.alike Ar13.2.1) rfl Ar13.2.2 hin13 hat13 (g := (mkF m 76 #[.val (.ref a1), .val (.ref a2), .val (.int 2), .val (.int 2), .val (.ref b7), .val (.ref b9), .val (.int 2), .val (.int 0), .unset, .unset, .unset, .unset, .unset, .unset, .unset, .unset, .unset, .unset, .unset] [(.int 0), (.ref b9)])) rfl rfl (hb hby d28_76) t k) ?_
  refine oS (fun t k => XS.astore X11.here hx rfl (hb hby d28_77) rfl rfl (l' := #[.val (.ref a1), .val (.ref a2), .val (.int 2), .val (.int 2), .val (.ref b7), .val (.ref b9), .val (.int 2), .val (.int 0), .val (.ref c9_0), .unset, .unset, .unset, .unset, .unset, .unset, .unset, .unset, .unset, .unset]) rfl k) ?_
  refine oS (fun t k => XS.aload X11.here hx rfl (hb hby d28_79) rfl rfl k) ?_
  refine oS (fun t k => XS.aload X11.here hx rfl (hb hby d28_81) rfl rfl k) ?_
  obtain ⟨_, _, ⟨T14, L14, k14, n14⟩, -, X14, ⟨Lc14, hQ14, l14, y14, z14⟩, st14⟩ := Jvm.LawKit.callS X11 hx (y := mY48) hown (oM hZ hw 237 rfl) (oM hZ hw 238 rfl) (oM hZ hw 126 rfl) (oM hZ hw 239 rfl) (by decide) (backOf (W := 0) (rm_fill l Z a0 hw [] c9_0 b7 kr9 w h10 n0 O10 W gxc9_0 (Vc9_0.other W10 (Ne.symm ne_a1_c9_0)) Ov9 ((Ex7.ext E9).wr W10)) hZ (oW hw 239 rfl) (oW hw 126 rfl) (by decide) (by decide)) (g := (mkF m 83 #[.val (.ref a1), .val (.ref a2), .val (.int 2), .val (.int 2), .val (.ref b7), .val (.ref b9), .val (.int 2), .val (.int 0), .val (.ref c9_0), .unset, .unset, .unset, .unset, .unset, .unset, .unset, .unset, .unset, .unset] [(.ref b7), (.ref c9_0)])) rfl (by rw [hml]; rfl) (argsL := [(.ref c9_0), (.ref b7)]) (rest := []) (lenOf pd_17 rfl) rfl (by show 2 * 0 + _ ≤ _; exact Nat.le_of_eq rfl) (hb hby d28_83) (fun _ _ => ⟨rfl, e11, (by decide : 4 + 0 ≤ _), (by decide : 9 + 0 ≤ _)⟩)
  dsimp only [Pt.U, Pt.locs, Pt.cells, Pt.slots] at X14 l14 y14 z14 st14 hQ14
  rw [l14, y14, z14] at X14
  clear l14 y14 z14
  obtain ⟨rfl, Nq14, K14, P14_0⟩ := hQ14
  have N14 := Fr.app N10 Nq14
  have O14 := O10.keep K14 (allS gxc9_0 all0)
  have Kp14 : Keep h0 T14.heap [a1] := Kp10.trans K14 (allS (Or.inr szc9_0) all0)
  refine oS (fun t k => st14 t k) ?_
  show oG _ _ _ _ _ _ _ (T14.setTop (mkF m 86 #[.val (.ref a1), .val (.ref a2), .val (.int 2), .val (.int 2), .val (.ref b7), .val (.ref b9), .val (.int 2), .val (.int 0), .val (.ref c9_0), .unset, .unset, .unset, .unset, .unset, .unset, .unset, .unset, .unset, .unset] []))
  try clear st14 X11 e11
  try clear T11
  refine oS (fun t k => XS.iinc X14.here hx rfl (hb hby d28_86) rfl (l' := #[.val (.ref a1), .val (.ref a2), .val (.int 2), .val (.int 2), .val (.ref b7), .val (.ref b9), .val (.int 2), .val (.int 1), .val (.ref c9_0), .unset, .unset, .unset, .unset, .unset, .unset, .unset, .unset, .unset, .unset]) rfl k) ?_
  show oG _ _ _ _ _ _ _ (T14.setTop (mkF m 89 #[.val (.ref a1), .val (.ref a2), .val (.int 2), .val (.int 2), .val (.ref b7), .val (.ref b9), .val (.int 2), .val (.int 1), .val (.ref c9_0), .unset, .unset, .unset, .unset, .unset, .unset, .unset, .unset, .unset, .unset] []))
  refine oS (fun t k => XS.goto X14.here hx rfl (pc0 := 89) (pc' := 65) rfl (hb hby d28_89) (by decide) (by decide) k) ?_
  refine oS (fun t k => XS.iload X14.here hx rfl (hb hby d28_65) rfl k) ?_
  refine oS (fun t k => XS.iload X14.here hx rfl (hb hby d28_67) rfl k) ?_
  refine oS (fun t k => XS.icmpNo X14.here hx rfl (hb hby d28_69) rfl (tlt (by decide)).2.1 k) ?_
  refine oS (fun t k => XS.aload X14.here hx rfl (hb hby d28_72) rfl rfl k) ?_
  refine oS (fun t k => XS.iload X14.here hx rfl (hb hby d28_74) rfl k) ?_
  obtain ⟨cl15, Ar15, qk15, Sz15, Ng15, Ha15, Gf15⟩ := id ((Vg9.other W10 (Ne.symm ne_a1_b9)).keep K14 (fun q => ne_b9_c9_0 (List.mem_singleton.mp q)))
  have hin15 : ¬ ((1 : Int32) < 0 ∨ cl15.slots.size ≤ ((1 : Int32)).toNatClampNeg) := (inb_of Sz15 ⟨by decide, by decide⟩)
  have hat15 : cl15.slots[((1 : Int32)).toNatClampNeg]? = some (.ref c9_1) := Ha15.at hin15 rfl
  refine oS (fun t k => X14.aaload hx (j := (1 : Int32)) (v := (.ref c9_1)) Ar15.1 (State.isArrayOf_alike hZ.alike Ar15.2.1) rfl Ar15.2.2 hin15 hat15 (g := (mkF m 76 #[.val (.ref a1), .val (.ref a2), .val (.int 2), .val (.int 2), .val (.ref b7), .val (.ref b9), .val (.int 2), .val (.int 1), .val (.ref c9_0), .unset, .unset, .unset, .unset, .unset, .unset, .unset, .unset, .unset, .unset] [(.int 1), (.ref b9)])) rfl rfl (hb hby d28_76) t k) ?_
  show oG _ _ _ _ _ _ _ (T14.setTop (mkF m 77 #[.val (.ref a1), .val (.ref a2), .val (.int 2), .val (.int 2), .val (.ref b7), .val (.ref b9), .val (.int 2), .val (.int 1), .val (.ref c9_0), .unset, .unset, .unset, .unset, .unset, .unset, .unset, .unset, .unset, .unset] [(.ref c9_1)]))
  refine oS (fun t k => XS.astore X14.here hx rfl (hb hby d28_77) rfl rfl (l' := #[.val (.ref a1), .val (.ref a2), .val (.int 2), .val (.int 2), .val (.ref b7), .val (.ref b9), .val (.int 2), .val (.int 1), .val (.ref c9_1), .unset, .unset, .unset, .unset, .unset, .unset, .unset, .unset, .unset, .unset]) rfl k) ?_
  refine oS (fun t k => XS.aload X14.here hx rfl (hb hby d28_79) rfl rfl k) ?_
  refine oS (fun t k => XS.aload X14.here hx rfl (hb hby d28_81) rfl rfl k) ?_
  obtain ⟨_, _, ⟨T16, L16, k16, n16⟩, -, X16, ⟨Lc16, hQ16, l16, y16, z16⟩, st16⟩ := Jvm.LawKit.callS X14 hx (y := mY48) hown (oM hZ hw 237 rfl) (oM hZ hw 238 rfl) (oM hZ hw 126 rfl) (oM hZ hw 239 rfl) (by decide) (backOf (W := 0) (rm_fill l Z a0 hw [] c9_1 b7 kr9 w T14.heap n0 O14 W gxc9_1 ((Vc9_1.other W10 (Ne.symm ne_a1_c9_1)).keep K14 (fun q => (Ne.symm ne_c9_0_c9_1) (List.mem_singleton.mp q))) Ov9 (((Ex7.ext E9).wr W10).keep K14)) hZ (oW hw 239 rfl) (oW hw 126 rfl) (by decide) (by decide)) (g := (mkF m 83 #[.val (.ref a1), .val (.ref a2), .val (.int 2), .val (.int 2), .val (.ref b7), .val (.ref b9), .val (.int 2), .val (.int 1), .val (.ref c9_1), .unset, .unset, .unset, .unset, .unset, .unset, .unset, .unset, .unset, .unset] [(.ref b7), (.ref c9_1)])) rfl (by rw [hml]; rfl) (argsL := [(.ref c9_1), (.ref b7)]) (rest := []) (lenOf pd_17 rfl) rfl (by show 2 * 0 + _ ≤ _; exact Nat.le_of_eq rfl) (hb hby d28_83) (fun _ _ => ⟨rfl, rfl, (by decide : 4 + 0 ≤ _), (by decide : 9 + 0 ≤ _)⟩)
  dsimp only [Pt.U, Pt.locs, Pt.cells, Pt.slots] at X16 l16 y16 z16 st16 hQ16
  rw [l16, y16, z16] at X16
  clear l16 y16 z16
  obtain ⟨rfl, Nq16, K16, P16_0⟩ := hQ16
  have N16 := Fr.app N14 Nq16
  have O16 := O14.keep K16 (allS gxc9_1 all0)
  have Kp16 : Keep h0 T16.heap [a1] := Kp14.trans K16 (allS (Or.inr szc9_1) all0)
  refine oS (fun t k => st16 t k) ?_
  show oG _ _ _ _ _ _ _ (T16.setTop (mkF m 86 #[.val (.ref a1), .val (.ref a2), .val (.int 2), .val (.int 2), .val (.ref b7), .val (.ref b9), .val (.int 2), .val (.int 1), .val (.ref c9_1), .unset, .unset, .unset, .unset, .unset, .unset, .unset, .unset, .unset, .unset] []))
  try clear st16 X14 e14
  refine oS (fun t k => XS.iinc X16.here hx rfl (hb hby d28_86) rfl (l' := #[.val (.ref a1), .val (.ref a2), .val (.int 2), .val (.int 2), .val (.ref b7), .val (.ref b9), .val (.int 2), .val (.int 2), .val (.ref c9_1), .unset, .unset, .unset, .unset, .unset, .unset, .unset, .unset, .unset, .unset]) rfl k) ?_
  show oG _ _ _ _ _ _ _ (T16.setTop (mkF m 89 #[.val (.ref a1), .val (.ref a2), .val (.int 2), .val (.int 2), .val (.ref b7), .val (.ref b9), .val (.int 2), .val (.int 2), .val (.ref c9_1), .unset, .unset, .unset, .unset, .unset, .unset, .unset, .unset, .unset, .unset] []))
  refine oS (fun t k => XS.goto X16.here hx rfl (pc0 := 89) (pc' := 65) rfl (hb hby d28_89) (by decide) (by decide) k) ?_
  refine oS (fun t k => XS.iload X16.here hx rfl (hb hby d28_65) rfl k) ?_
  refine oS (fun t k => XS.iload X16.here hx rfl (hb hby d28_67) rfl k) ?_
  refine oS (fun t k => XS.icmpYes X16.here hx rfl (pc0 := 69) (pc' := 92) rfl (hb hby d28_69) rfl (flt (by decide)).2.1 (by decide) (by decide) k) ?_
  refine oS (fun t k => XS.aloadN X16.here hx rfl (hb hby d28_92) rfl rfl k) ?_
  obtain ⟨cq17, kq17, q17a, q17b, q17c⟩ := isOf hZ rfl ((((((E_a2.wr W6).ext E7).ext E9).wr W10).keep K14).keep K16)
  obtain ⟨_, _, ⟨T17, L17, k17, n17⟩, -, X17, ⟨Lc17, hQ17, l17, y17, z17⟩, st17⟩ := X16.virtualBack hx (y := mY33) (z := mY33) hown (oM hZ hw 227 rfl) (oM hZ hw 228 rfl) (notFace_of_selects (args := #[]) (oM hZ hw 230 rfl)) (oM hZ hw 230 rfl) (oM hZ hw 229 rfl) (by decide) (backOf (W := 0) (rm_w_days l Z a0 hw [] a2  T16.heap n0 O16  ((((((F_days_a2.other W6 (Or.inl (Ne.symm ne_a1_a2))).ext E7).ext E9).other W10 (Or.inl (Ne.symm ne_a1_a2))).keep K14 (fun q => ne_a2_c9_0 (List.mem_singleton.mp q))).keep K16 (fun q => ne_a2_c9_1 (List.mem_singleton.mp q)))) hZ (oW hw 231 rfl) (oW hw 88 rfl) (by decide) (by decide)) q17a q17c (g := (mkF m 93 #[.val (.ref a1), .val (.ref a2), .val (.int 2), .val (.int 2), .val (.ref b7), .val (.ref b9), .val (.int 2), .val (.int 2), .val (.ref c9_1), .unset, .unset, .unset, .unset, .unset, .unset, .unset, .unset, .unset, .unset] [(.ref a2)])) rfl (by rw [hml]; rfl) (Steps.refl _) (argsL := []) (rest := []) (lenOf pd_14 rfl) rfl (by show 2 * 0 + _ ≤ _; exact Nat.le_of_eq rfl) (hb hby d28_93) (fun _ _ => ⟨rfl, rfl, (by decide : 4 + 0 ≤ _), (by decide : 9 + 0 ≤ _)⟩)
  dsimp only [Pt.U, Pt.locs, Pt.cells, Pt.slots] at X17 l17 y17 z17 st17 hQ17
  rw [l17, y17, z17] at X17
  clear l17 y17 z17
  obtain ⟨rfl, Nq17, e17⟩ := hQ17
  have N17 := Fr.app N16 Nq17
  refine oS (fun t k => st17.trans k) ?_
  show oG _ _ _ _ _ _ _ (T17.setTop (mkF m 96 #[.val (.ref a1), .val (.ref a2), .val (.int 2), .val (.int 2), .val (.ref b7), .val (.ref b9), .val (.int 2), .val (.int 2), .val (.ref c9_1), .unset, .unset, .unset, .unset, .unset, .unset, .unset, .unset, .unset, .unset] [(.int 2)]))
  try clear st17 X16 e16
  refine oS (fun t k => XS.iloadN X17.here hx rfl (hb hby d28_96) rfl k) ?_
  obtain ⟨b18, g18⟩ : ∃ z, z = T16.heap.size := ⟨_, rfl⟩
  obtain ⟨c18_0, gc18_0⟩ : ∃ z, z = T16.heap.size + 1 + 0 := ⟨_, rfl⟩
  obtain ⟨c18_1, gc18_1⟩ : ∃ z, z = T16.heap.size + 1 + 1 := ⟨_, rfl⟩
  obtain ⟨T18, h18, k18, kr18, X18, e18, E18, V18, O18v, Ex18, R18, st18⟩ := gridM X17 hx hZ hown (ty := .long) (C := "[J") (ad := "[[J") (by decide) (by decide) (oW hw 241 rfl) (oW hw 234 rfl) (oW hw 226 rfl) e17 (g := (mkF m 97 #[.val (.ref a1), .val (.ref a2), .val (.int 2), .val (.int 2), .val (.ref b7), .val (.ref b9), .val (.int 2), .val (.int 2), .val (.ref c9_1), .unset, .unset, .unset, .unset, .unset, .unset, .unset, .unset, .unset, .unset] [(.int 2), (.int 2)])) rfl (hb hby d28_97) (n := (2 : Int32)) (k := (2 : Int32)) rfl (by decide) (by decide) (xs := [c18_0, c18_1]) (N := 2) (by decide) (by rw [gc18_0, gc18_1]; rfl) (cap := 2) (by decide) (by decide) (by decide) rfl rfl (by decide) (by decide)
  rw [← g18] at V18 Ex18 st18
  have Vg18 : Arv Z h18 b18 k18 (.array .long) (2 : Int32) [(.ref c18_0), (.ref c18_1)] .null := V18
  have gxb18 : n0 ≤ b18 := Nat.le_trans (O16.1 ▸ O16.2.1) (Nat.le_of_eq g18.symm)
  have szb18 : h0.size ≤ b18 := Nat.le_trans Kp16.1 (Nat.le_of_eq g18.symm)
  have ne_a1_b18 : a1 ≠ b18 := Nat.ne_of_lt (Nat.lt_of_lt_of_le ((((((E_a1.wr W6).ext E7).ext E9).wr W10).keep K14).keep K16).lt (Nat.le_of_eq g18.symm))
  have ne_a2_b18 : a2 ≠ b18 := Nat.ne_of_lt (Nat.lt_of_lt_of_le ((((((E_a2.wr W6).ext E7).ext E9).wr W10).keep K14).keep K16).lt (Nat.le_of_eq g18.symm))
  have ne_z2_b18 : z2 ≠ b18 := Nat.ne_of_lt (Nat.lt_of_lt_of_le ((((((E_z2.wr W6).ext E7).ext E9).wr W10).keep K14).keep K16).lt (Nat.le_of_eq g18.symm))
  have ne_z3_b18 : z3 ≠ b18 := Nat.ne_of_lt (Nat.lt_of_lt_of_le ((((((E_z3.wr W6).ext E7).ext E9).wr W10).keep K14).keep K16).lt (Nat.le_of_eq g18.symm))
  have ne_z4_b18 : z4 ≠ b18 := Nat.ne_of_lt (Nat.lt_of_lt_of_le ((((((E_z4.wr W6).ext E7).ext E9).wr W10).keep K14).keep K16).lt (Nat.le_of_eq g18.symm))
  have ne_z5_b18 : z5 ≠ b18 := Nat.ne_of_lt (Nat.lt_of_lt_of_le ((((((E_z5.wr W6).ext E7).ext E9).wr W10).keep K14).keep K16).lt (Nat.le_of_eq g18.symm))
  have ne_u4_b18 : u4 ≠ b18 := Nat.ne_of_lt (Nat.lt_of_lt_of_le ((((((E_u4.wr W6).ext E7).ext E9).wr W10).keep K14).keep K16).lt (Nat.le_of_eq g18.symm))
  have ne_u5_b18 : u5 ≠ b18 := Nat.ne_of_lt (Nat.lt_of_lt_of_le ((((((E_u5.wr W6).ext E7).ext E9).wr W10).keep K14).keep K16).lt (Nat.le_of_eq g18.symm))
  have ne_b7_b18 : b7 ≠ b18 := Nat.ne_of_lt (Nat.lt_of_lt_of_le ((((V7.ext E9).other W10 (Ne.symm ne_a1_b7)).keep K14 (fun q => ne_b7_c9_0 (List.mem_singleton.mp q))).keep K16 (fun q => ne_b7_c9_1 (List.mem_singleton.mp q))).lt (Nat.le_of_eq g18.symm))
  have ne_b9_b18 : b9 ≠ b18 := Nat.ne_of_lt (Nat.lt_of_lt_of_le (((Vg9.other W10 (Ne.symm ne_a1_b9)).keep K14 (fun q => ne_b9_c9_0 (List.mem_singleton.mp q))).keep K16 (fun q => ne_b9_c9_1 (List.mem_singleton.mp q))).lt (Nat.le_of_eq g18.symm))
  have ne_c9_0_b18 : c9_0 ≠ b18 := Nat.ne_of_lt (Nat.lt_of_lt_of_le (((Exc9_0.wr W10).keep K14).keep K16).lt (Nat.le_of_eq g18.symm))
  have ne_c9_1_b18 : c9_1 ≠ b18 := Nat.ne_of_lt (Nat.lt_of_lt_of_le (((Exc9_1.wr W10).keep K14).keep K16).lt (Nat.le_of_eq g18.symm))
  have gxc18_0 : n0 ≤ c18_0 := Nat.le_trans (O16.1 ▸ O16.2.1) (by rw [gc18_0]; omega)
  have szc18_0 : h0.size ≤ c18_0 := Nat.le_trans Kp16.1 (by rw [gc18_0]; omega)
  have ne_a1_c18_0 : a1 ≠ c18_0 := Nat.ne_of_lt (Nat.lt_of_lt_of_le ((((((E_a1.wr W6).ext E7).ext E9).wr W10).keep K14).keep K16).lt (by rw [gc18_0]; omega))
  have ne_a2_c18_0 : a2 ≠ c18_0 := Nat.ne_of_lt (Nat.lt_of_lt_of_le ((((((E_a2.wr W6).ext E7).ext E9).wr W10).keep K14).keep K16).lt (by rw [gc18_0]; omega))
  have ne_z2_c18_0 : z2 ≠ c18_0 := Nat.ne_of_lt (Nat.lt_of_lt_of_le ((((((E_z2.wr W6).ext E7).ext E9).wr W10).keep K14).keep K16).lt (by rw [gc18_0]; omega))
  have ne_z3_c18_0 : z3 ≠ c18_0 := Nat.ne_of_lt (Nat.lt_of_lt_of_le ((((((E_z3.wr W6).ext E7).ext E9).wr W10).keep K14).keep K16).lt (by rw [gc18_0]; omega))
  have ne_z4_c18_0 : z4 ≠ c18_0 := Nat.ne_of_lt (Nat.lt_of_lt_of_le ((((((E_z4.wr W6).ext E7).ext E9).wr W10).keep K14).keep K16).lt (by rw [gc18_0]; omega))
  have ne_z5_c18_0 : z5 ≠ c18_0 := Nat.ne_of_lt (Nat.lt_of_lt_of_le ((((((E_z5.wr W6).ext E7).ext E9).wr W10).keep K14).keep K16).lt (by rw [gc18_0]; omega))
  have ne_u4_c18_0 : u4 ≠ c18_0 := Nat.ne_of_lt (Nat.lt_of_lt_of_le ((((((E_u4.wr W6).ext E7).ext E9).wr W10).keep K14).keep K16).lt (by rw [gc18_0]; omega))
  have ne_u5_c18_0 : u5 ≠ c18_0 := Nat.ne_of_lt (Nat.lt_of_lt_of_le ((((((E_u5.wr W6).ext E7).ext E9).wr W10).keep K14).keep K16).lt (by rw [gc18_0]; omega))
  have ne_b7_c18_0 : b7 ≠ c18_0 := Nat.ne_of_lt (Nat.lt_of_lt_of_le ((((V7.ext E9).other W10 (Ne.symm ne_a1_b7)).keep K14 (fun q => ne_b7_c9_0 (List.mem_singleton.mp q))).keep K16 (fun q => ne_b7_c9_1 (List.mem_singleton.mp q))).lt (by rw [gc18_0]; omega))
  have ne_b9_c18_0 : b9 ≠ c18_0 := Nat.ne_of_lt (Nat.lt_of_lt_of_le (((Vg9.other W10 (Ne.symm ne_a1_b9)).keep K14 (fun q => ne_b9_c9_0 (List.mem_singleton.mp q))).keep K16 (fun q => ne_b9_c9_1 (List.mem_singleton.mp q))).lt (by rw [gc18_0]; omega))
  have ne_c9_0_c18_0 : c9_0 ≠ c18_0 := Nat.ne_of_lt (Nat.lt_of_lt_of_le (((Exc9_0.wr W10).keep K14).keep K16).lt (by rw [gc18_0]; omega))
  have ne_c9_1_c18_0 : c9_1 ≠ c18_0 := Nat.ne_of_lt (Nat.lt_of_lt_of_le (((Exc9_1.wr W10).keep K14).keep K16).lt (by rw [gc18_0]; omega))
  have gxc18_1 : n0 ≤ c18_1 := Nat.le_trans (O16.1 ▸ O16.2.1) (by rw [gc18_1]; omega)
  have szc18_1 : h0.size ≤ c18_1 := Nat.le_trans Kp16.1 (by rw [gc18_1]; omega)
  have ne_a1_c18_1 : a1 ≠ c18_1 := Nat.ne_of_lt (Nat.lt_of_lt_of_le ((((((E_a1.wr W6).ext E7).ext E9).wr W10).keep K14).keep K16).lt (by rw [gc18_1]; omega))
  have ne_a2_c18_1 : a2 ≠ c18_1 := Nat.ne_of_lt (Nat.lt_of_lt_of_le ((((((E_a2.wr W6).ext E7).ext E9).wr W10).keep K14).keep K16).lt (by rw [gc18_1]; omega))
  have ne_z2_c18_1 : z2 ≠ c18_1 := Nat.ne_of_lt (Nat.lt_of_lt_of_le ((((((E_z2.wr W6).ext E7).ext E9).wr W10).keep K14).keep K16).lt (by rw [gc18_1]; omega))
  have ne_z3_c18_1 : z3 ≠ c18_1 := Nat.ne_of_lt (Nat.lt_of_lt_of_le ((((((E_z3.wr W6).ext E7).ext E9).wr W10).keep K14).keep K16).lt (by rw [gc18_1]; omega))
  have ne_z4_c18_1 : z4 ≠ c18_1 := Nat.ne_of_lt (Nat.lt_of_lt_of_le ((((((E_z4.wr W6).ext E7).ext E9).wr W10).keep K14).keep K16).lt (by rw [gc18_1]; omega))
  have ne_z5_c18_1 : z5 ≠ c18_1 := Nat.ne_of_lt (Nat.lt_of_lt_of_le ((((((E_z5.wr W6).ext E7).ext E9).wr W10).keep K14).keep K16).lt (by rw [gc18_1]; omega))
  have ne_u4_c18_1 : u4 ≠ c18_1 := Nat.ne_of_lt (Nat.lt_of_lt_of_le ((((((E_u4.wr W6).ext E7).ext E9).wr W10).keep K14).keep K16).lt (by rw [gc18_1]; omega))
  have ne_u5_c18_1 : u5 ≠ c18_1 := Nat.ne_of_lt (Nat.lt_of_lt_of_le ((((((E_u5.wr W6).ext E7).ext E9).wr W10).keep K14).keep K16).lt (by rw [gc18_1]; omega))
  have ne_b7_c18_1 : b7 ≠ c18_1 := Nat.ne_of_lt (Nat.lt_of_lt_of_le ((((V7.ext E9).other W10 (Ne.symm ne_a1_b7)).keep K14 (fun q => ne_b7_c9_0 (List.mem_singleton.mp q))).keep K16 (fun q => ne_b7_c9_1 (List.mem_singleton.mp q))).lt (by rw [gc18_1]; omega))
  have ne_b9_c18_1 : b9 ≠ c18_1 := Nat.ne_of_lt (Nat.lt_of_lt_of_le (((Vg9.other W10 (Ne.symm ne_a1_b9)).keep K14 (fun q => ne_b9_c9_0 (List.mem_singleton.mp q))).keep K16 (fun q => ne_b9_c9_1 (List.mem_singleton.mp q))).lt (by rw [gc18_1]; omega))
  have ne_c9_0_c18_1 : c9_0 ≠ c18_1 := Nat.ne_of_lt (Nat.lt_of_lt_of_le (((Exc9_0.wr W10).keep K14).keep K16).lt (by rw [gc18_1]; omega))
  have ne_c9_1_c18_1 : c9_1 ≠ c18_1 := Nat.ne_of_lt (Nat.lt_of_lt_of_le (((Exc9_1.wr W10).keep K14).keep K16).lt (by rw [gc18_1]; omega))
  have ne_b18_c18_0 : b18 ≠ c18_0 := (by rw [g18, gc18_0]; omega)
  have ne_b18_c18_1 : b18 ≠ c18_1 := (by rw [g18, gc18_1]; omega)
  have ne_c18_0_c18_1 : c18_0 ≠ c18_1 := (by rw [gc18_0, gc18_1]; omega)
  have O18 := O16.ext E18
  have Kp18 : Keep h0 h18 [a1] := Kp16.ext E18
  have Ac18_0 := (R18 0 c18_0 rfl).1
  have Exc18_0 := (R18 0 c18_0 rfl).2
  have Vc18_0 : Arv Z h18 c18_0 kr18 .long (2 : Int32) [(.long 0), (.long 0)] (.long 0) := (Arv.new Ac18_0 (by decide)).pad (pad_rep [] (.long 0) 2)
  have Ac18_1 := (R18 1 c18_1 rfl).1
  have Exc18_1 := (R18 1 c18_1 rfl).2
  have Vc18_1 : Arv Z h18 c18_1 kr18 .long (2 : Int32) [(.long 0), (.long 0)] (.long 0) := (Arv.new Ac18_1 (by decide)).pad (pad_rep [] (.long 0) 2)
  clear R18 Ac18_0 Ac18_1
  refine oS (fun t k => st18 t k) ?_
  try clear st18 X17 e17
  refine oS (fun t k => XS.astore X18.here hx rfl (hb hby d28_101) rfl rfl (l' := #[.val (.ref a1), .val (.ref a2), .val (.int 2), .val (.int 2), .val (.ref b7), .val (.ref b18), .val (.int 2), .val (.int 2), .val (.ref c9_1), .unset, .unset, .unset, .unset, .unset, .unset, .unset, .unset, .unset, .unset]) rfl k) ?_
  refine oS (fun t k => XS.aloadN X18.here hx rfl (hb hby d28_103) rfl rfl k) ?_
  obtain ⟨cq19, kq19, q19a, q19b, q19c⟩ := isOf hZ e18 (((((((E_a2.wr W6).ext E7).ext E9).wr W10).keep K14).keep K16).ext E18)
  obtain ⟨_, _, ⟨T19, L19, k19, n19⟩, -, X19, ⟨Lc19, hQ19, l19, y19, z19⟩, st19⟩ := X18.virtualBack hx (y := mY32) (z := mY32) hown (oM hZ hw 242 rfl) (oM hZ hw 243 rfl) (notFace_of_selects (args := #[]) (oM hZ hw 245 rfl)) (oM hZ hw 245 rfl) (oM hZ hw 244 rfl) (by decide) (backOf (W := 0) (rm_w_cover l Z a0 hw [] a2 (w 4)  h18 n0 O18  (((((((F_cover_a2.other W6 (Or.inl (Ne.symm ne_a1_a2))).ext E7).ext E9).other W10 (Or.inl (Ne.symm ne_a1_a2))).keep K14 (fun q => ne_a2_c9_0 (List.mem_singleton.mp q))).keep K16 (fun q => ne_a2_c9_1 (List.mem_singleton.mp q))).ext E18)) hZ (oW hw 246 rfl) (oW hw 88 rfl) (by decide) (by decide)) q19a q19c (g := (mkF m 104 #[.val (.ref a1), .val (.ref a2), .val (.int 2), .val (.int 2), .val (.ref b7), .val (.ref b18), .val (.int 2), .val (.int 2), .val (.ref c9_1), .unset, .unset, .unset, .unset, .unset, .unset, .unset, .unset, .unset, .unset] [(.ref a2)])) rfl (by rw [hml]; rfl) (Steps.refl _) (argsL := []) (rest := []) (lenOf pd_13 rfl) rfl (by show 2 * 0 + _ ≤ _; exact Nat.le_of_eq rfl) (hb hby d28_104) (fun _ _ => ⟨rfl, e18, (by decide : 7 + 0 ≤ _), (by decide : 15 + 0 ≤ _)⟩)
  dsimp only [Pt.U, Pt.locs, Pt.cells, Pt.slots] at X19 l19 y19 z19 st19 hQ19
  rw [l19, y19, z19] at X19
  clear l19 y19 z19
  obtain ⟨rfl, Nq19, e19⟩ := hQ19
  have N19 := Fr.app N17 Nq19
  refine oS (fun t k => st19.trans k) ?_
  show oG _ _ _ _ _ _ _ (T19.setTop (mkF m 107 #[.val (.ref a1), .val (.ref a2), .val (.int 2), .val (.int 2), .val (.ref b7), .val (.ref b18), .val (.int 2), .val (.int 2), .val (.ref c9_1), .unset, .unset, .unset, .unset, .unset, .unset, .unset, .unset, .unset, .unset] [(.ref (w 4))]))
  try clear st19 X18 e18
  try clear T18
  obtain ⟨cq20, kq20, q20a, q20b, q20c⟩ := isOf hZ e19 ((wE4 W).ext O18.2)
  obtain ⟨_, _, ⟨T20, L20, k20, n20⟩, -, X20, ⟨Lc20, hQ20, l20, y20, z20⟩, st20⟩ := X19.interfaceBack hx (xi := mY50) (y := mY43) hown (oM hZ hw 247 rfl) (oM hZ hw 248 rfl) (oM hZ hw 249 rfl) (oM hZ hw 250 rfl) (oM hZ hw 251 rfl) (oM hZ hw 252 rfl) (oM hZ hw 253 rfl) (oM hZ hw 254 rfl) (by decide) (backOf (W := 0) (rm_it0 l Z a0 hw []  w h18 n0 O18 W ) hZ (oW hw 255 rfl) (oW hw 160 rfl) (by decide) (by decide)) q20a q20b q20c (g := (mkF m 107 #[.val (.ref a1), .val (.ref a2), .val (.int 2), .val (.int 2), .val (.ref b7), .val (.ref b18), .val (.int 2), .val (.int 2), .val (.ref c9_1), .unset, .unset, .unset, .unset, .unset, .unset, .unset, .unset, .unset, .unset] [(.ref (w 4))])) rfl (by rw [hml]; rfl) (Steps.refl _) (argsL := []) (rest := []) (lenOf pd_18 rfl) rfl (by show 2 * 0 + _ ≤ _; exact Nat.le_of_eq rfl) (hb hby d28_107) (fun _ _ => ⟨rfl, e19, (by decide : 7 + 1 ≤ _), (by decide : 15 + 4 ≤ _)⟩)
  dsimp only [Pt.U, Pt.locs, Pt.cells, Pt.slots] at X20 l20 y20 z20 st20 hQ20
  rw [l20, y20, z20] at X20
  clear l20 y20 z20
  obtain ⟨r20, rfl, Nq20, K20, sr20, P20_0, P20_1, P20_2, P20_3⟩ := hQ20
  have N20 := Fr.app N19 Nq20
  have O20 := O18.keep K20 all0
  have Kp20 : Keep h0 T20.heap [a1] := Kp18.trans K20 all0
  have gr20 : n0 ≤ r20 := Nat.le_trans (O18.1 ▸ O18.2.1) sr20
  have ne_a1_r20 : a1 ≠ r20 := Nat.ne_of_lt (Nat.lt_of_lt_of_le (((((((E_a1.wr W6).ext E7).ext E9).wr W10).keep K14).keep K16).ext E18).lt sr20)
  have ne_a2_r20 : a2 ≠ r20 := Nat.ne_of_lt (Nat.lt_of_lt_of_le (((((((E_a2.wr W6).ext E7).ext E9).wr W10).keep K14).keep K16).ext E18).lt sr20)
  have ne_z2_r20 : z2 ≠ r20 := Nat.ne_of_lt (Nat.lt_of_lt_of_le (((((((E_z2.wr W6).ext E7).ext E9).wr W10).keep K14).keep K16).ext E18).lt sr20)
  have ne_z3_r20 : z3 ≠ r20 := Nat.ne_of_lt (Nat.lt_of_lt_of_le (((((((E_z3.wr W6).ext E7).ext E9).wr W10).keep K14).keep K16).ext E18).lt sr20)
  have ne_z4_r20 : z4 ≠ r20 := Nat.ne_of_lt (Nat.lt_of_lt_of_le (((((((E_z4.wr W6).ext E7).ext E9).wr W10).keep K14).keep K16).ext E18).lt sr20)
  have ne_z5_r20 : z5 ≠ r20 := Nat.ne_of_lt (Nat.lt_of_lt_of_le (((((((E_z5.wr W6).ext E7).ext E9).wr W10).keep K14).keep K16).ext E18).lt sr20)
  have ne_u4_r20 : u4 ≠ r20 := Nat.ne_of_lt (Nat.lt_of_lt_of_le (((((((E_u4.wr W6).ext E7).ext E9).wr W10).keep K14).keep K16).ext E18).lt sr20)
  have ne_u5_r20 : u5 ≠ r20 := Nat.ne_of_lt (Nat.lt_of_lt_of_le (((((((E_u5.wr W6).ext E7).ext E9).wr W10).keep K14).keep K16).ext E18).lt sr20)
  have ne_b7_r20 : b7 ≠ r20 := Nat.ne_of_lt (Nat.lt_of_lt_of_le (((((V7.ext E9).other W10 (Ne.symm ne_a1_b7)).keep K14 (fun q => ne_b7_c9_0 (List.mem_singleton.mp q))).keep K16 (fun q => ne_b7_c9_1 (List.mem_singleton.mp q))).ext E18).lt sr20)
  have ne_b9_r20 : b9 ≠ r20 := Nat.ne_of_lt (Nat.lt_of_lt_of_le ((((Vg9.other W10 (Ne.symm ne_a1_b9)).keep K14 (fun q => ne_b9_c9_0 (List.mem_singleton.mp q))).keep K16 (fun q => ne_b9_c9_1 (List.mem_singleton.mp q))).ext E18).lt sr20)
  have ne_c9_0_r20 : c9_0 ≠ r20 := Nat.ne_of_lt (Nat.lt_of_lt_of_le ((((Exc9_0.wr W10).keep K14).keep K16).ext E18).lt sr20)
  have ne_c9_1_r20 : c9_1 ≠ r20 := Nat.ne_of_lt (Nat.lt_of_lt_of_le ((((Exc9_1.wr W10).keep K14).keep K16).ext E18).lt sr20)
  have ne_b18_r20 : b18 ≠ r20 := Nat.ne_of_lt (Nat.lt_of_lt_of_le Vg18.lt sr20)
  have ne_c18_0_r20 : c18_0 ≠ r20 := Nat.ne_of_lt (Nat.lt_of_lt_of_le Vc18_0.lt sr20)
  have ne_c18_1_r20 : c18_1 ≠ r20 := Nat.ne_of_lt (Nat.lt_of_lt_of_le Vc18_1.lt sr20)
  have szrr20 : h0.size ≤ r20 := Nat.le_trans Kp18.1 sr20
  refine oS (fun t k => st20.trans k) ?_
  show oG _ _ _ _ _ _ _ (T20.setTop (mkF m 112 #[.val (.ref a1), .val (.ref a2), .val (.int 2), .val (.int 2), .val (.ref b7), .val (.ref b18), .val (.int 2), .val (.int 2), .val (.ref c9_1), .unset, .unset, .unset, .unset, .unset, .unset, .unset, .unset, .unset, .unset] [(.ref r20)]))
  try clear st20 X19 e19
  refine oS (fun t k => XS.astore X20.here hx rfl (hb hby d28_112) rfl rfl (l' := #[.val (.ref a1), .val (.ref a2), .val (.int 2), .val (.int 2), .val (.ref b7), .val (.ref b18), .val (.ref r20), .val (.int 2), .val (.ref c9_1), .unset, .unset, .unset, .unset, .unset, .unset, .unset, .unset, .unset, .unset]) rfl k) ?_
  refine oS (fun t k => XS.aload X20.here hx rfl (hb hby d28_114) rfl rfl k) ?_
  obtain ⟨cq21, kq21, q21a, q21b, q21c⟩ := isOf hZ rfl P20_0
  obtain ⟨_, _, ⟨T21, L21, k21, n21⟩, -, X21, ⟨Lc21, hQ21, l21, y21, z21⟩, st21⟩ := X20.interfaceBack hx (xi := mY51) (y := mY44) hown (oM hZ hw 281 rfl) (oM hZ hw 282 rfl) (oM hZ hw 283 rfl) (oM hZ hw 284 rfl) (oM hZ hw 285 rfl) (oM hZ hw 286 rfl) (oM hZ hw 287 rfl) (oM hZ hw 288 rfl) (by decide) (backOf (W := 0) (rm_hn00 l Z a0 hw [] r20  T20.heap n0 O20  P20_2 P20_3) hZ (oW hw 289 rfl) (oW hw 258 rfl) (by decide) (by decide)) q21a q21b q21c (g := (mkF m 116 #[.val (.ref a1), .val (.ref a2), .val (.int 2), .val (.int 2), .val (.ref b7), .val (.ref b18), .val (.ref r20), .val (.int 2), .val (.ref c9_1), .unset, .unset, .unset, .unset, .unset, .unset, .unset, .unset, .unset, .unset] [(.ref r20)])) rfl (by rw [hml]; rfl) (Steps.refl _) (argsL := []) (rest := []) (lenOf pd_9 rfl) rfl (by show 2 * 0 + _ ≤ _; exact Nat.le_of_eq rfl) (hb hby d28_116) (fun _ _ => ⟨rfl, rfl, (by decide : 8 + 0 ≤ _), (by decide : 19 + 0 ≤ _)⟩)
  dsimp only [Pt.U, Pt.locs, Pt.cells, Pt.slots] at X21 l21 y21 z21 st21 hQ21
  rw [l21, y21, z21] at X21
  clear l21 y21 z21
  obtain ⟨rfl, Nq21, e21⟩ := hQ21
  have N21 := Fr.app N20 Nq21
  refine oS (fun t k => st21.trans k) ?_
  show oG _ _ _ _ _ _ _ (T21.setTop (mkF m 121 #[.val (.ref a1), .val (.ref a2), .val (.int 2), .val (.int 2), .val (.ref b7), .val (.ref b18), .val (.ref r20), .val (.int 2), .val (.ref c9_1), .unset, .unset, .unset, .unset, .unset, .unset, .unset, .unset, .unset, .unset] [(.int 0)]))
  try clear st21 X20 e20
  refine oS (fun t k => XS.ifYes X21.here hx rfl (pc0 := 121) (pc' := 294) rfl (hb hby d28_121) rfl ((if0 _ _).trans (teq (by decide)).1) (by decide) (by decide) k) ?_
  refine oS (fun t k => oLc ll_0 X21.here hx rfl (hb hby d28_294) k) ?_
  refine oS (fun t k => XS.lstore X21.here hx rfl (hb hby d28_295) rfl (l' := #[.val (.ref a1), .val (.ref a2), .val (.int 2), .val (.int 2), .val (.ref b7), .val (.ref b18), .val (.long 0), .second, .val (.ref c9_1), .unset, .unset, .unset, .unset, .unset, .unset, .unset, .unset, .unset, .unset]) rfl k) ?_
  refine oS (fun t k => XS.aload X21.here hx rfl (hb hby d28_297) rfl rfl k) ?_
  refine oS (fun t k => XS.astore X21.here hx rfl (hb hby d28_299) rfl rfl (l' := #[.val (.ref a1), .val (.ref a2), .val (.int 2), .val (.int 2), .val (.ref b7), .val (.ref b18), .val (.long 0), .second, .val (.ref b18), .unset, .unset, .unset, .unset, .unset, .unset, .unset, .unset, .unset, .unset]) rfl k) ?_
  refine oS (fun t k => XS.aload X21.here hx rfl (hb hby d28_301) rfl rfl k) ?_
  obtain ⟨cl22, Ar22, -, Sz22, Ng22, -, -⟩ := id (Vg18.keep K20 List.not_mem_nil)
  refine oS (S' := (T21.setTop (mkF m 304 #[.val (.ref a1), .val (.ref a2), .val (.int 2), .val (.int 2), .val (.ref b7), .val (.ref b18), .val (.long 0), .second, .val (.ref b18), .unset, .unset, .unset, .unset, .unset, .unset, .unset, .unset, .unset, .unset] [(.int 2)]))) (fun t k => X21.arraylength hx (by rw [e21]; exact Ar22.1) (State.isArrayOf_alike hZ.alike Ar22.2.1) (g := (mkF m 303 #[.val (.ref a1), .val (.ref a2), .val (.int 2), .val (.int 2), .val (.ref b7), .val (.ref b18), .val (.long 0), .second, .val (.ref b18), .unset, .unset, .unset, .unset, .unset, .unset, .unset, .unset, .unset, .unset] [(.ref b18)])) rfl rfl (hb hby d28_303) t (by rw [len_of Sz22 Ng22]; exact k)) ?_
  refine oS (fun t k => XS.istore X21.here hx rfl (hb hby d28_304) rfl (l' := #[.val (.ref a1), .val (.ref a2), .val (.int 2), .val (.int 2), .val (.ref b7), .val (.ref b18), .val (.long 0), .second, .val (.ref b18), .val (.int 2), .unset, .unset, .unset, .unset, .unset, .unset, .unset, .unset, .unset]) rfl k) ?_
  refine oS (fun t k => oIc li_0 X21.here hx rfl (hb hby d28_306) k) ?_
  refine oS (fun t k => XS.istore X21.here hx rfl (hb hby d28_307) rfl (l' := #[.val (.ref a1), .val (.ref a2), .val (.int 2), .val (.int 2), .val (.ref b7), .val (.ref b18), .val (.long 0), .second, .val (.ref b18), .val (.int 2), .val (.int 0), .unset, .unset, .unset, .unset, .unset, .unset, .unset, .unset]) rfl k) ?_
  refine oS (fun t k => XS.iload X21.here hx rfl (hb hby d28_309) rfl k) ?_
  refine oS (fun t k => XS.iload X21.here hx rfl (hb hby d28_311) rfl k) ?_
  refine oS (fun t k => XS.icmpNo X21.here hx rfl (hb hby d28_313) rfl (tlt (by decide)).2.1 k) ?_
  refine oS (fun t k => XS.aload X21.here hx rfl (hb hby d28_316) rfl rfl k) ?_
  show oG _ _ _ _ _ _ _ (T21.setTop (mkF m 318 #[.val (.ref a1), .val (.ref a2), .val (.int 2), .val (.int 2), .val (.ref b7), .val (.ref b18), .val (.long 0), .second, .val (.ref b18), .val (.int 2), .val (.int 0), .unset, .unset, .unset, .unset, .unset, .unset, .unset, .unset] [(.ref b18)]))
  refine oS (fun t k => XS.iload X21.here hx rfl (hb hby d28_318) rfl k) ?_
  obtain ⟨cl23, Ar23, qk23, Sz23, Ng23, Ha23, Gf23⟩ := id (Vg18.keep K20 List.not_mem_nil)
  have hin23 : ¬ ((0 : Int32) < 0 ∨ cl23.slots.size ≤ ((0 : Int32)).toNatClampNeg) := (inb_of Sz23 ⟨by decide, by decide⟩)
  have hat23 : cl23.slots[((0 : Int32)).toNatClampNeg]? = some (.ref c18_0) := Ha23.at hin23 rfl
  refine oS (fun t k => X21.aaload hx (j := (0 : Int32)) (v := (.ref c18_0)) (by rw [e21]; exact Ar23.1) (State.isArrayOf_alike hZ.alike Ar23.2.1) rfl Ar23.2.2 hin23 hat23 (g := (mkF m 320 #[.val (.ref a1), .val (.ref a2), .val (.int 2), .val (.int 2), .val (.ref b7), .val (.ref b18), .val (.long 0), .second, .val (.ref b18), .val (.int 2), .val (.int 0), .unset, .unset, .unset, .unset, .unset, .unset, .unset, .unset] [(.int 0), (.ref b18)])) rfl rfl (hb hby d28_320) t k) ?_
  refine oS (fun t k => XS.astore X21.here hx rfl (hb hby d28_321) rfl rfl (l' := #[.val (.ref a1), .val (.ref a2), .val (.int 2), .val (.int 2), .val (.ref b7), .val (.ref b18), .val (.long 0), .second, .val (.ref b18), .val (.int 2), .val (.int 0), .val (.ref c18_0), .unset, .unset, .unset, .unset, .unset, .unset, .unset]) rfl k) ?_
  refine oS (fun t k => XS.aload X21.here hx rfl (hb hby d28_323) rfl rfl k) ?_
  refine oS (fun t k => XS.astore X21.here hx rfl (hb hby d28_325) rfl rfl (l' := #[.val (.ref a1), .val (.ref a2), .val (.int 2), .val (.int 2), .val (.ref b7), .val (.ref b18), .val (.long 0), .second, .val (.ref b18), .val (.int 2), .val (.int 0), .val (.ref c18_0), .val (.ref c18_0), .unset, .unset, .unset, .unset, .unset, .unset]) rfl k) ?_
  refine oS (fun t k => XS.aload X21.here hx rfl (hb hby d28_327) rfl rfl k) ?_
  obtain ⟨cl24, Ar24, -, Sz24, Ng24, -, -⟩ := id (Vc18_0.keep K20 List.not_mem_nil)
  refine oS (S' := (T21.setTop (mkF m 330 #[.val (.ref a1), .val (.ref a2), .val (.int 2), .val (.int 2), .val (.ref b7), .val (.ref b18), .val (.long 0), .second, .val (.ref b18), .val (.int 2), .val (.int 0), .val (.ref c18_0), .val (.ref c18_0), .unset, .unset, .unset, .unset, .unset, .unset] [(.int 2)]))) (fun t k => X21.arraylength hx (by rw [e21]; exact Ar24.1) (State.isArrayOf_alike hZ.alike Ar24.2.1) (g := (mkF m 329 #[.val (.ref a1), .val (.ref a2), .val (.int 2), .val (.int 2), .val (.ref b7), .val (.ref b18), .val (.long 0), .second, .val (.ref b18), .val (.int 2), .val (.int 0), .val (.ref c18_0), .val (.ref c18_0), .unset, .unset, .unset, .unset, .unset, .unset] [(.ref c18_0)])) rfl rfl (hb hby d28_329) t (by rw [len_of Sz24 Ng24]; exact k)) ?_
  refine oS (fun t k => XS.istore X21.here hx rfl (hb hby d28_330) rfl (l' := #[.val (.ref a1), .val (.ref a2), .val (.int 2), .val (.int 2), .val (.ref b7), .val (.ref b18), .val (.long 0), .second, .val (.ref b18), .val (.int 2), .val (.int 0), .val (.ref c18_0), .val (.ref c18_0), .val (.int 2), .unset, .unset, .unset, .unset, .unset]) rfl k) ?_
  refine oS (fun t k => oIc li_0 X21.here hx rfl (hb hby d28_332) k) ?_
  refine oS (fun t k => XS.istore X21.here hx rfl (hb hby d28_333) rfl (l' := #[.val (.ref a1), .val (.ref a2), .val (.int 2), .val (.int 2), .val (.ref b7), .val (.ref b18), .val (.long 0), .second, .val (.ref b18), .val (.int 2), .val (.int 0), .val (.ref c18_0), .val (.ref c18_0), .val (.int 2), .val (.int 0), .unset, .unset, .unset, .unset]) rfl k) ?_
  refine oS (fun t k => XS.iload X21.here hx rfl (hb hby d28_335) rfl k) ?_
  refine oS (fun t k => XS.iload X21.here hx rfl (hb hby d28_337) rfl k) ?_
  refine oS (fun t k => XS.icmpNo X21.here hx rfl (hb hby d28_339) rfl (tlt (by decide)).2.1 k) ?_
  refine oS (fun t k => XS.aload X21.here hx rfl (hb hby d28_342) rfl rfl k) ?_
  show oG _ _ _ _ _ _ _ (T21.setTop (mkF m 344 #[.val (.ref a1), .val (.ref a2), .val (.int 2), .val (.int 2), .val (.ref b7), .val (.ref b18), .val (.long 0), .second, .val (.ref b18), .val (.int 2), .val (.int 0), .val (.ref c18_0), .val (.ref c18_0), .val (.int 2), .val (.int 0), .unset, .unset, .unset, .unset] [(.ref c18_0)]))
  refine oS (fun t k => XS.iload X21.here hx rfl (hb hby d28_344) rfl k) ?_
  obtain ⟨cl25, Ar25, qk25, Sz25, Ng25, Ha25, Gf25⟩ := id (Vc18_0.keep K20 List.not_mem_nil)
  have hin25 : ¬ ((0 : Int32) < 0 ∨ cl25.slots.size ≤ ((0 : Int32)).toNatClampNeg) := (inb_of Sz25 ⟨by decide, by decide⟩)
  have hat25 : cl25.slots[((0 : Int32)).toNatClampNeg]? = some (.long 0) := Ha25.at hin25 rfl
  refine oS (fun t k => X21.laload hx (j := (0 : Int32)) (v := (.long 0)) (by rw [e21]; exact Ar25.1) (State.isArrayOf_alike hZ.alike Ar25.2.1) Ar25.2.2 hin25 hat25 (g := (mkF m 346 #[.val (.ref a1), .val (.ref a2), .val (.int 2), .val (.int 2), .val (.ref b7), .val (.ref b18), .val (.long 0), .second, .val (.ref b18), .val (.int 2), .val (.int 0), .val (.ref c18_0), .val (.ref c18_0), .val (.int 2), .val (.int 0), .unset, .unset, .unset, .unset] [(.int 0), (.ref c18_0)])) rfl rfl (hb hby d28_346) t k) ?_
  refine oS (fun t k => XS.lstore X21.here hx rfl (hb hby d28_347) rfl (l' := #[.val (.ref a1), .val (.ref a2), .val (.int 2), .val (.int 2), .val (.ref b7), .val (.ref b18), .val (.long 0), .second, .val (.ref b18), .val (.int 2), .val (.int 0), .val (.ref c18_0), .val (.ref c18_0), .val (.int 2), .val (.int 0), .val (.long 0), .second, .unset, .unset]) rfl k) ?_
  refine oS (fun t k => XS.lload X21.here hx rfl (hb hby d28_349) rfl k) ?_
  refine oS (fun t k => XS.lload X21.here hx rfl (hb hby d28_351) rfl k) ?_
  obtain ⟨_, _, ⟨T26, L26, k26, n26⟩, -, X26, ⟨Lc26, hQ26, l26, y26, z26⟩, st26⟩ := Jvm.LawKit.callS X21 hx (y := mY47) hown (oM hZ hw 290 rfl) (oM hZ hw 291 rfl) (oM hZ hw 60 rfl) (oM hZ hw 292 rfl) (by decide) (backOf (W := 0) (rm_maxJ l Z a0 hw [] (0 : Int64) (0 : Int64)  T20.heap n0 O20  ) hZ (oW hw 292 rfl) (oW hw 60 rfl) (by decide) (by decide)) (g := (mkF m 353 #[.val (.ref a1), .val (.ref a2), .val (.int 2), .val (.int 2), .val (.ref b7), .val (.ref b18), .val (.long 0), .second, .val (.ref b18), .val (.int 2), .val (.int 0), .val (.ref c18_0), .val (.ref c18_0), .val (.int 2), .val (.int 0), .val (.long 0), .second, .unset, .unset] [(.long 0), (.long 0)])) rfl (by rw [hml]; rfl) (argsL := [(.long 0), (.long 0)]) (rest := []) (lenOf pd_19 rfl) rfl (by show 2 * 0 + _ ≤ _; exact Nat.le_of_eq rfl) (hb hby d28_353) (fun _ _ => ⟨rfl, e21, (by decide : 8 + 0 ≤ _), (by decide : 19 + 0 ≤ _)⟩)
  dsimp only [Pt.U, Pt.locs, Pt.cells, Pt.slots] at X26 l26 y26 z26 st26 hQ26
  rw [l26, y26, z26] at X26
  clear l26 y26 z26
  obtain ⟨x26_r, rfl, Nq26, e26⟩ := hQ26
  have N26 := Fr.app N21 Nq26
  refine oS (fun t k => st26 t k) ?_
  show oG _ _ _ _ _ _ _ (T26.setTop (mkF m 356 #[.val (.ref a1), .val (.ref a2), .val (.int 2), .val (.int 2), .val (.ref b7), .val (.ref b18), .val (.long 0), .second, .val (.ref b18), .val (.int 2), .val (.int 0), .val (.ref c18_0), .val (.ref c18_0), .val (.int 2), .val (.int 0), .val (.long 0), .second, .unset, .unset] [(.long x26_r)]))
  try clear st26 X21 e21
  refine oS (fun t k => XS.lstore X26.here hx rfl (hb hby d28_356) rfl (l' := #[.val (.ref a1), .val (.ref a2), .val (.int 2), .val (.int 2), .val (.ref b7), .val (.ref b18), .val (.long x26_r), .second, .val (.ref b18), .val (.int 2), .val (.int 0), .val (.ref c18_0), .val (.ref c18_0), .val (.int 2), .val (.int 0), .val (.long 0), .second, .unset, .unset]) rfl k) ?_
  refine oS (fun t k => XS.iinc X26.here hx rfl (hb hby d28_358) rfl (l' := #[.val (.ref a1), .val (.ref a2), .val (.int 2), .val (.int 2), .val (.ref b7), .val (.ref b18), .val (.long x26_r), .second, .val (.ref b18), .val (.int 2), .val (.int 0), .val (.ref c18_0), .val (.ref c18_0), .val (.int 2), .val (.int 1), .val (.long 0), .second, .unset, .unset]) rfl k) ?_
  show oG _ _ _ _ _ _ _ (T26.setTop (mkF m 361 #[.val (.ref a1), .val (.ref a2), .val (.int 2), .val (.int 2), .val (.ref b7), .val (.ref b18), .val (.long x26_r), .second, .val (.ref b18), .val (.int 2), .val (.int 0), .val (.ref c18_0), .val (.ref c18_0), .val (.int 2), .val (.int 1), .val (.long 0), .second, .unset, .unset] []))
  refine oS (fun t k => XS.goto X26.here hx rfl (pc0 := 361) (pc' := 335) rfl (hb hby d28_361) (by decide) (by decide) k) ?_
  refine oS (fun t k => XS.iload X26.here hx rfl (hb hby d28_335) rfl k) ?_
  refine oS (fun t k => XS.iload X26.here hx rfl (hb hby d28_337) rfl k) ?_
  refine oS (fun t k => XS.icmpNo X26.here hx rfl (hb hby d28_339) rfl (tlt (by decide)).2.1 k) ?_
  refine oS (fun t k => XS.aload X26.here hx rfl (hb hby d28_342) rfl rfl k) ?_
  refine oS (fun t k => XS.iload X26.here hx rfl (hb hby d28_344) rfl k) ?_
  obtain ⟨cl27, Ar27, qk27, Sz27, Ng27, Ha27, Gf27⟩ := id (Vc18_0.keep K20 List.not_mem_nil)
  have hin27 : ¬ ((1 : Int32) < 0 ∨ cl27.slots.size ≤ ((1 : Int32)).toNatClampNeg) := (inb_of Sz27 ⟨by decide, by decide⟩)
  have hat27 : cl27.slots[((1 : Int32)).toNatClampNeg]? = some (.long 0) := Ha27.at hin27 rfl
  refine oS (fun t k => X26.laload hx (j := (1 : Int32)) (v := (.long 0)) (by rw [e26]; exact Ar27.1) (State.isArrayOf_alike hZ.alike Ar27.2.1) Ar27.2.2 hin27 hat27 (g := (mkF m 346 #[.val (.ref a1), .val (.ref a2), .val (.int 2), .val (.int 2), .val (.ref b7), .val (.ref b18), .val (.long x26_r), .second, .val (.ref b18), .val (.int 2), .val (.int 0), .val (.ref c18_0), .val (.ref c18_0), .val (.int 2), .val (.int 1), .val (.long 0), .second, .unset, .unset] [(.int 1), (.ref c18_0)])) rfl rfl (hb hby d28_346) t k) ?_
  show oG _ _ _ _ _ _ _ (T26.setTop (mkF m 347 #[.val (.ref a1), .val (.ref a2), .val (.int 2), .val (.int 2), .val (.ref b7), .val (.ref b18), .val (.long x26_r), .second, .val (.ref b18), .val (.int 2), .val (.int 0), .val (.ref c18_0), .val (.ref c18_0), .val (.int 2), .val (.int 1), .val (.long 0), .second, .unset, .unset] [(.long 0)]))
  refine oS (fun t k => XS.lstore X26.here hx rfl (hb hby d28_347) rfl (l' := #[.val (.ref a1), .val (.ref a2), .val (.int 2), .val (.int 2), .val (.ref b7), .val (.ref b18), .val (.long x26_r), .second, .val (.ref b18), .val (.int 2), .val (.int 0), .val (.ref c18_0), .val (.ref c18_0), .val (.int 2), .val (.int 1), .val (.long 0), .second, .unset, .unset]) rfl k) ?_
  refine oS (fun t k => XS.lload X26.here hx rfl (hb hby d28_349) rfl k) ?_
  refine oS (fun t k => XS.lload X26.here hx rfl (hb hby d28_351) rfl k) ?_
  obtain ⟨_, _, ⟨T28, L28, k28, n28⟩, -, X28, ⟨Lc28, hQ28, l28, y28, z28⟩, st28⟩ := Jvm.LawKit.callS X26 hx (y := mY47) hown (oM hZ hw 290 rfl) (oM hZ hw 291 rfl) (oM hZ hw 60 rfl) (oM hZ hw 292 rfl) (by decide) (backOf (W := 0) (rm_maxJ l Z a0 hw [] x26_r (0 : Int64)  T20.heap n0 O20  ) hZ (oW hw 292 rfl) (oW hw 60 rfl) (by decide) (by decide)) (g := (mkF m 353 #[.val (.ref a1), .val (.ref a2), .val (.int 2), .val (.int 2), .val (.ref b7), .val (.ref b18), .val (.long x26_r), .second, .val (.ref b18), .val (.int 2), .val (.int 0), .val (.ref c18_0), .val (.ref c18_0), .val (.int 2), .val (.int 1), .val (.long 0), .second, .unset, .unset] [(.long 0), (.long x26_r)])) rfl (by rw [hml]; rfl) (argsL := [(.long x26_r), (.long 0)]) (rest := []) (lenOf pd_19 rfl) rfl (by show 2 * 0 + _ ≤ _; exact Nat.le_of_eq rfl) (hb hby d28_353) (fun _ _ => ⟨rfl, e26, (by decide : 8 + 0 ≤ _), (by decide : 19 + 0 ≤ _)⟩)
  dsimp only [Pt.U, Pt.locs, Pt.cells, Pt.slots] at X28 l28 y28 z28 st28 hQ28
  rw [l28, y28, z28] at X28
  clear l28 y28 z28
  obtain ⟨x28_r, rfl, Nq28, e28⟩ := hQ28
  have N28 := Fr.app N26 Nq28
  refine oS (fun t k => st28 t k) ?_
  show oG _ _ _ _ _ _ _ (T28.setTop (mkF m 356 #[.val (.ref a1), .val (.ref a2), .val (.int 2), .val (.int 2), .val (.ref b7), .val (.ref b18), .val (.long x26_r), .second, .val (.ref b18), .val (.int 2), .val (.int 0), .val (.ref c18_0), .val (.ref c18_0), .val (.int 2), .val (.int 1), .val (.long 0), .second, .unset, .unset] [(.long x28_r)]))
  try clear st28 X26 e26
  refine oS (fun t k => XS.lstore X28.here hx rfl (hb hby d28_356) rfl (l' := #[.val (.ref a1), .val (.ref a2), .val (.int 2), .val (.int 2), .val (.ref b7), .val (.ref b18), .val (.long x28_r), .second, .val (.ref b18), .val (.int 2), .val (.int 0), .val (.ref c18_0), .val (.ref c18_0), .val (.int 2), .val (.int 1), .val (.long 0), .second, .unset, .unset]) rfl k) ?_
  refine oS (fun t k => XS.iinc X28.here hx rfl (hb hby d28_358) rfl (l' := #[.val (.ref a1), .val (.ref a2), .val (.int 2), .val (.int 2), .val (.ref b7), .val (.ref b18), .val (.long x28_r), .second, .val (.ref b18), .val (.int 2), .val (.int 0), .val (.ref c18_0), .val (.ref c18_0), .val (.int 2), .val (.int 2), .val (.long 0), .second, .unset, .unset]) rfl k) ?_
  show oG _ _ _ _ _ _ _ (T28.setTop (mkF m 361 #[.val (.ref a1), .val (.ref a2), .val (.int 2), .val (.int 2), .val (.ref b7), .val (.ref b18), .val (.long x28_r), .second, .val (.ref b18), .val (.int 2), .val (.int 0), .val (.ref c18_0), .val (.ref c18_0), .val (.int 2), .val (.int 2), .val (.long 0), .second, .unset, .unset] []))
  refine oS (fun t k => XS.goto X28.here hx rfl (pc0 := 361) (pc' := 335) rfl (hb hby d28_361) (by decide) (by decide) k) ?_
  refine oS (fun t k => XS.iload X28.here hx rfl (hb hby d28_335) rfl k) ?_
  refine oS (fun t k => XS.iload X28.here hx rfl (hb hby d28_337) rfl k) ?_
  refine oS (fun t k => XS.icmpYes X28.here hx rfl (pc0 := 339) (pc' := 364) rfl (hb hby d28_339) rfl (flt (by decide)).2.1 (by decide) (by decide) k) ?_
  refine oS (fun t k => XS.iinc X28.here hx rfl (hb hby d28_364) rfl (l' := #[.val (.ref a1), .val (.ref a2), .val (.int 2), .val (.int 2), .val (.ref b7), .val (.ref b18), .val (.long x28_r), .second, .val (.ref b18), .val (.int 2), .val (.int 1), .val (.ref c18_0), .val (.ref c18_0), .val (.int 2), .val (.int 2), .val (.long 0), .second, .unset, .unset]) rfl k) ?_
  show oG _ _ _ _ _ _ _ (T28.setTop (mkF m 367 #[.val (.ref a1), .val (.ref a2), .val (.int 2), .val (.int 2), .val (.ref b7), .val (.ref b18), .val (.long x28_r), .second, .val (.ref b18), .val (.int 2), .val (.int 1), .val (.ref c18_0), .val (.ref c18_0), .val (.int 2), .val (.int 2), .val (.long 0), .second, .unset, .unset] []))
  refine oS (fun t k => XS.goto X28.here hx rfl (pc0 := 367) (pc' := 309) rfl (hb hby d28_367) (by decide) (by decide) k) ?_
  refine oS (fun t k => XS.iload X28.here hx rfl (hb hby d28_309) rfl k) ?_
  refine oS (fun t k => XS.iload X28.here hx rfl (hb hby d28_311) rfl k) ?_
  refine oS (fun t k => XS.icmpNo X28.here hx rfl (hb hby d28_313) rfl (tlt (by decide)).2.1 k) ?_
  refine oS (fun t k => XS.aload X28.here hx rfl (hb hby d28_316) rfl rfl k) ?_
  refine oS (fun t k => XS.iload X28.here hx rfl (hb hby d28_318) rfl k) ?_
  obtain ⟨cl29, Ar29, qk29, Sz29, Ng29, Ha29, Gf29⟩ := id (Vg18.keep K20 List.not_mem_nil)
  have hin29 : ¬ ((1 : Int32) < 0 ∨ cl29.slots.size ≤ ((1 : Int32)).toNatClampNeg) := (inb_of Sz29 ⟨by decide, by decide⟩)
  have hat29 : cl29.slots[((1 : Int32)).toNatClampNeg]? = some (.ref c18_1) := Ha29.at hin29 rfl
  refine oS (fun t k => X28.aaload hx (j := (1 : Int32)) (v := (.ref c18_1)) (by rw [e28]; exact Ar29.1) (State.isArrayOf_alike hZ.alike Ar29.2.1) rfl Ar29.2.2 hin29 hat29 (g := (mkF m 320 #[.val (.ref a1), .val (.ref a2), .val (.int 2), .val (.int 2), .val (.ref b7), .val (.ref b18), .val (.long x28_r), .second, .val (.ref b18), .val (.int 2), .val (.int 1), .val (.ref c18_0), .val (.ref c18_0), .val (.int 2), .val (.int 2), .val (.long 0), .second, .unset, .unset] [(.int 1), (.ref b18)])) rfl rfl (hb hby d28_320) t k) ?_
  show oG _ _ _ _ _ _ _ (T28.setTop (mkF m 321 #[.val (.ref a1), .val (.ref a2), .val (.int 2), .val (.int 2), .val (.ref b7), .val (.ref b18), .val (.long x28_r), .second, .val (.ref b18), .val (.int 2), .val (.int 1), .val (.ref c18_0), .val (.ref c18_0), .val (.int 2), .val (.int 2), .val (.long 0), .second, .unset, .unset] [(.ref c18_1)]))
  refine oS (fun t k => XS.astore X28.here hx rfl (hb hby d28_321) rfl rfl (l' := #[.val (.ref a1), .val (.ref a2), .val (.int 2), .val (.int 2), .val (.ref b7), .val (.ref b18), .val (.long x28_r), .second, .val (.ref b18), .val (.int 2), .val (.int 1), .val (.ref c18_1), .val (.ref c18_0), .val (.int 2), .val (.int 2), .val (.long 0), .second, .unset, .unset]) rfl k) ?_
  refine oS (fun t k => XS.aload X28.here hx rfl (hb hby d28_323) rfl rfl k) ?_
  refine oS (fun t k => XS.astore X28.here hx rfl (hb hby d28_325) rfl rfl (l' := #[.val (.ref a1), .val (.ref a2), .val (.int 2), .val (.int 2), .val (.ref b7), .val (.ref b18), .val (.long x28_r), .second, .val (.ref b18), .val (.int 2), .val (.int 1), .val (.ref c18_1), .val (.ref c18_1), .val (.int 2), .val (.int 2), .val (.long 0), .second, .unset, .unset]) rfl k) ?_
  refine oS (fun t k => XS.aload X28.here hx rfl (hb hby d28_327) rfl rfl k) ?_
  obtain ⟨cl30, Ar30, -, Sz30, Ng30, -, -⟩ := id (Vc18_1.keep K20 List.not_mem_nil)
  refine oS (S' := (T28.setTop (mkF m 330 #[.val (.ref a1), .val (.ref a2), .val (.int 2), .val (.int 2), .val (.ref b7), .val (.ref b18), .val (.long x28_r), .second, .val (.ref b18), .val (.int 2), .val (.int 1), .val (.ref c18_1), .val (.ref c18_1), .val (.int 2), .val (.int 2), .val (.long 0), .second, .unset, .unset] [(.int 2)]))) (fun t k => X28.arraylength hx (by rw [e28]; exact Ar30.1) (State.isArrayOf_alike hZ.alike Ar30.2.1) (g := (mkF m 329 #[.val (.ref a1), .val (.ref a2), .val (.int 2), .val (.int 2), .val (.ref b7), .val (.ref b18), .val (.long x28_r), .second, .val (.ref b18), .val (.int 2), .val (.int 1), .val (.ref c18_1), .val (.ref c18_1), .val (.int 2), .val (.int 2), .val (.long 0), .second, .unset, .unset] [(.ref c18_1)])) rfl rfl (hb hby d28_329) t (by rw [len_of Sz30 Ng30]; exact k)) ?_
  refine oS (fun t k => XS.istore X28.here hx rfl (hb hby d28_330) rfl (l' := #[.val (.ref a1), .val (.ref a2), .val (.int 2), .val (.int 2), .val (.ref b7), .val (.ref b18), .val (.long x28_r), .second, .val (.ref b18), .val (.int 2), .val (.int 1), .val (.ref c18_1), .val (.ref c18_1), .val (.int 2), .val (.int 2), .val (.long 0), .second, .unset, .unset]) rfl k) ?_
  refine oS (fun t k => oIc li_0 X28.here hx rfl (hb hby d28_332) k) ?_
  show oG _ _ _ _ _ _ _ (T28.setTop (mkF m 333 #[.val (.ref a1), .val (.ref a2), .val (.int 2), .val (.int 2), .val (.ref b7), .val (.ref b18), .val (.long x28_r), .second, .val (.ref b18), .val (.int 2), .val (.int 1), .val (.ref c18_1), .val (.ref c18_1), .val (.int 2), .val (.int 2), .val (.long 0), .second, .unset, .unset] [(.int 0)]))
  refine oS (fun t k => XS.istore X28.here hx rfl (hb hby d28_333) rfl (l' := #[.val (.ref a1), .val (.ref a2), .val (.int 2), .val (.int 2), .val (.ref b7), .val (.ref b18), .val (.long x28_r), .second, .val (.ref b18), .val (.int 2), .val (.int 1), .val (.ref c18_1), .val (.ref c18_1), .val (.int 2), .val (.int 0), .val (.long 0), .second, .unset, .unset]) rfl k) ?_
  refine oS (fun t k => XS.iload X28.here hx rfl (hb hby d28_335) rfl k) ?_
  refine oS (fun t k => XS.iload X28.here hx rfl (hb hby d28_337) rfl k) ?_
  refine oS (fun t k => XS.icmpNo X28.here hx rfl (hb hby d28_339) rfl (tlt (by decide)).2.1 k) ?_
  refine oS (fun t k => XS.aload X28.here hx rfl (hb hby d28_342) rfl rfl k) ?_
  refine oS (fun t k => XS.iload X28.here hx rfl (hb hby d28_344) rfl k) ?_
  obtain ⟨cl31, Ar31, qk31, Sz31, Ng31, Ha31, Gf31⟩ := id (Vc18_1.keep K20 List.not_mem_nil)
  have hin31 : ¬ ((0 : Int32) < 0 ∨ cl31.slots.size ≤ ((0 : Int32)).toNatClampNeg) := (inb_of Sz31 ⟨by decide, by decide⟩)
  have hat31 : cl31.slots[((0 : Int32)).toNatClampNeg]? = some (.long 0) := Ha31.at hin31 rfl
  refine oS (fun t k => X28.laload hx (j := (0 : Int32)) (v := (.long 0)) (by rw [e28]; exact Ar31.1) (State.isArrayOf_alike hZ.alike Ar31.2.1) Ar31.2.2 hin31 hat31 (g := (mkF m 346 #[.val (.ref a1), .val (.ref a2), .val (.int 2), .val (.int 2), .val (.ref b7), .val (.ref b18), .val (.long x28_r), .second, .val (.ref b18), .val (.int 2), .val (.int 1), .val (.ref c18_1), .val (.ref c18_1), .val (.int 2), .val (.int 0), .val (.long 0), .second, .unset, .unset] [(.int 0), (.ref c18_1)])) rfl rfl (hb hby d28_346) t k) ?_
  show oG _ _ _ _ _ _ _ (T28.setTop (mkF m 347 #[.val (.ref a1), .val (.ref a2), .val (.int 2), .val (.int 2), .val (.ref b7), .val (.ref b18), .val (.long x28_r), .second, .val (.ref b18), .val (.int 2), .val (.int 1), .val (.ref c18_1), .val (.ref c18_1), .val (.int 2), .val (.int 0), .val (.long 0), .second, .unset, .unset] [(.long 0)]))
  refine oS (fun t k => XS.lstore X28.here hx rfl (hb hby d28_347) rfl (l' := #[.val (.ref a1), .val (.ref a2), .val (.int 2), .val (.int 2), .val (.ref b7), .val (.ref b18), .val (.long x28_r), .second, .val (.ref b18), .val (.int 2), .val (.int 1), .val (.ref c18_1), .val (.ref c18_1), .val (.int 2), .val (.int 0), .val (.long 0), .second, .unset, .unset]) rfl k) ?_
  refine oS (fun t k => XS.lload X28.here hx rfl (hb hby d28_349) rfl k) ?_
  refine oS (fun t k => XS.lload X28.here hx rfl (hb hby d28_351) rfl k) ?_
  obtain ⟨_, _, ⟨T32, L32, k32, n32⟩, -, X32, ⟨Lc32, hQ32, l32, y32, z32⟩, st32⟩ := Jvm.LawKit.callS X28 hx (y := mY47) hown (oM hZ hw 290 rfl) (oM hZ hw 291 rfl) (oM hZ hw 60 rfl) (oM hZ hw 292 rfl) (by decide) (backOf (W := 0) (rm_maxJ l Z a0 hw [] x28_r (0 : Int64)  T20.heap n0 O20  ) hZ (oW hw 292 rfl) (oW hw 60 rfl) (by decide) (by decide)) (g := (mkF m 353 #[.val (.ref a1), .val (.ref a2), .val (.int 2), .val (.int 2), .val (.ref b7), .val (.ref b18), .val (.long x28_r), .second, .val (.ref b18), .val (.int 2), .val (.int 1), .val (.ref c18_1), .val (.ref c18_1), .val (.int 2), .val (.int 0), .val (.long 0), .second, .unset, .unset] [(.long 0), (.long x28_r)])) rfl (by rw [hml]; rfl) (argsL := [(.long x28_r), (.long 0)]) (rest := []) (lenOf pd_19 rfl) rfl (by show 2 * 0 + _ ≤ _; exact Nat.le_of_eq rfl) (hb hby d28_353) (fun _ _ => ⟨rfl, e28, (by decide : 8 + 0 ≤ _), (by decide : 19 + 0 ≤ _)⟩)
  dsimp only [Pt.U, Pt.locs, Pt.cells, Pt.slots] at X32 l32 y32 z32 st32 hQ32
  rw [l32, y32, z32] at X32
  clear l32 y32 z32
  obtain ⟨x32_r, rfl, Nq32, e32⟩ := hQ32
  have N32 := Fr.app N28 Nq32
  refine oS (fun t k => st32 t k) ?_
  show oG _ _ _ _ _ _ _ (T32.setTop (mkF m 356 #[.val (.ref a1), .val (.ref a2), .val (.int 2), .val (.int 2), .val (.ref b7), .val (.ref b18), .val (.long x28_r), .second, .val (.ref b18), .val (.int 2), .val (.int 1), .val (.ref c18_1), .val (.ref c18_1), .val (.int 2), .val (.int 0), .val (.long 0), .second, .unset, .unset] [(.long x32_r)]))
  try clear st32 X28 e28
  refine oS (fun t k => XS.lstore X32.here hx rfl (hb hby d28_356) rfl (l' := #[.val (.ref a1), .val (.ref a2), .val (.int 2), .val (.int 2), .val (.ref b7), .val (.ref b18), .val (.long x32_r), .second, .val (.ref b18), .val (.int 2), .val (.int 1), .val (.ref c18_1), .val (.ref c18_1), .val (.int 2), .val (.int 0), .val (.long 0), .second, .unset, .unset]) rfl k) ?_
  refine oS (fun t k => XS.iinc X32.here hx rfl (hb hby d28_358) rfl (l' := #[.val (.ref a1), .val (.ref a2), .val (.int 2), .val (.int 2), .val (.ref b7), .val (.ref b18), .val (.long x32_r), .second, .val (.ref b18), .val (.int 2), .val (.int 1), .val (.ref c18_1), .val (.ref c18_1), .val (.int 2), .val (.int 1), .val (.long 0), .second, .unset, .unset]) rfl k) ?_
  show oG _ _ _ _ _ _ _ (T32.setTop (mkF m 361 #[.val (.ref a1), .val (.ref a2), .val (.int 2), .val (.int 2), .val (.ref b7), .val (.ref b18), .val (.long x32_r), .second, .val (.ref b18), .val (.int 2), .val (.int 1), .val (.ref c18_1), .val (.ref c18_1), .val (.int 2), .val (.int 1), .val (.long 0), .second, .unset, .unset] []))
  refine oS (fun t k => XS.goto X32.here hx rfl (pc0 := 361) (pc' := 335) rfl (hb hby d28_361) (by decide) (by decide) k) ?_
  refine oS (fun t k => XS.iload X32.here hx rfl (hb hby d28_335) rfl k) ?_
  refine oS (fun t k => XS.iload X32.here hx rfl (hb hby d28_337) rfl k) ?_
  refine oS (fun t k => XS.icmpNo X32.here hx rfl (hb hby d28_339) rfl (tlt (by decide)).2.1 k) ?_
  refine oS (fun t k => XS.aload X32.here hx rfl (hb hby d28_342) rfl rfl k) ?_
  refine oS (fun t k => XS.iload X32.here hx rfl (hb hby d28_344) rfl k) ?_
  obtain ⟨cl33, Ar33, qk33, Sz33, Ng33, Ha33, Gf33⟩ := id (Vc18_1.keep K20 List.not_mem_nil)
  have hin33 : ¬ ((1 : Int32) < 0 ∨ cl33.slots.size ≤ ((1 : Int32)).toNatClampNeg) := (inb_of Sz33 ⟨by decide, by decide⟩)
  have hat33 : cl33.slots[((1 : Int32)).toNatClampNeg]? = some (.long 0) := Ha33.at hin33 rfl
  refine oS (fun t k => X32.laload hx (j := (1 : Int32)) (v := (.long 0)) (by rw [e32]; exact Ar33.1) (State.isArrayOf_alike hZ.alike Ar33.2.1) Ar33.2.2 hin33 hat33 (g := (mkF m 346 #[.val (.ref a1), .val (.ref a2), .val (.int 2), .val (.int 2), .val (.ref b7), .val (.ref b18), .val (.long x32_r), .second, .val (.ref b18), .val (.int 2), .val (.int 1), .val (.ref c18_1), .val (.ref c18_1), .val (.int 2), .val (.int 1), .val (.long 0), .second, .unset, .unset] [(.int 1), (.ref c18_1)])) rfl rfl (hb hby d28_346) t k) ?_
  show oG _ _ _ _ _ _ _ (T32.setTop (mkF m 347 #[.val (.ref a1), .val (.ref a2), .val (.int 2), .val (.int 2), .val (.ref b7), .val (.ref b18), .val (.long x32_r), .second, .val (.ref b18), .val (.int 2), .val (.int 1), .val (.ref c18_1), .val (.ref c18_1), .val (.int 2), .val (.int 1), .val (.long 0), .second, .unset, .unset] [(.long 0)]))
  refine oS (fun t k => XS.lstore X32.here hx rfl (hb hby d28_347) rfl (l' := #[.val (.ref a1), .val (.ref a2), .val (.int 2), .val (.int 2), .val (.ref b7), .val (.ref b18), .val (.long x32_r), .second, .val (.ref b18), .val (.int 2), .val (.int 1), .val (.ref c18_1), .val (.ref c18_1), .val (.int 2), .val (.int 1), .val (.long 0), .second, .unset, .unset]) rfl k) ?_
  refine oS (fun t k => XS.lload X32.here hx rfl (hb hby d28_349) rfl k) ?_
  refine oS (fun t k => XS.lload X32.here hx rfl (hb hby d28_351) rfl k) ?_
  obtain ⟨_, _, ⟨T34, L34, k34, n34⟩, -, X34, ⟨Lc34, hQ34, l34, y34, z34⟩, st34⟩ := Jvm.LawKit.callS X32 hx (y := mY47) hown (oM hZ hw 290 rfl) (oM hZ hw 291 rfl) (oM hZ hw 60 rfl) (oM hZ hw 292 rfl) (by decide) (backOf (W := 0) (rm_maxJ l Z a0 hw [] x32_r (0 : Int64)  T20.heap n0 O20  ) hZ (oW hw 292 rfl) (oW hw 60 rfl) (by decide) (by decide)) (g := (mkF m 353 #[.val (.ref a1), .val (.ref a2), .val (.int 2), .val (.int 2), .val (.ref b7), .val (.ref b18), .val (.long x32_r), .second, .val (.ref b18), .val (.int 2), .val (.int 1), .val (.ref c18_1), .val (.ref c18_1), .val (.int 2), .val (.int 1), .val (.long 0), .second, .unset, .unset] [(.long 0), (.long x32_r)])) rfl (by rw [hml]; rfl) (argsL := [(.long x32_r), (.long 0)]) (rest := []) (lenOf pd_19 rfl) rfl (by show 2 * 0 + _ ≤ _; exact Nat.le_of_eq rfl) (hb hby d28_353) (fun _ _ => ⟨rfl, e32, (by decide : 8 + 0 ≤ _), (by decide : 19 + 0 ≤ _)⟩)
  dsimp only [Pt.U, Pt.locs, Pt.cells, Pt.slots] at X34 l34 y34 z34 st34 hQ34
  rw [l34, y34, z34] at X34
  clear l34 y34 z34
  obtain ⟨x34_r, rfl, Nq34, e34⟩ := hQ34
  have N34 := Fr.app N32 Nq34
  refine oS (fun t k => st34 t k) ?_
  show oG _ _ _ _ _ _ _ (T34.setTop (mkF m 356 #[.val (.ref a1), .val (.ref a2), .val (.int 2), .val (.int 2), .val (.ref b7), .val (.ref b18), .val (.long x32_r), .second, .val (.ref b18), .val (.int 2), .val (.int 1), .val (.ref c18_1), .val (.ref c18_1), .val (.int 2), .val (.int 1), .val (.long 0), .second, .unset, .unset] [(.long x34_r)]))
  try clear st34 X32 e32
  refine oS (fun t k => XS.lstore X34.here hx rfl (hb hby d28_356) rfl (l' := #[.val (.ref a1), .val (.ref a2), .val (.int 2), .val (.int 2), .val (.ref b7), .val (.ref b18), .val (.long x34_r), .second, .val (.ref b18), .val (.int 2), .val (.int 1), .val (.ref c18_1), .val (.ref c18_1), .val (.int 2), .val (.int 1), .val (.long 0), .second, .unset, .unset]) rfl k) ?_
  refine oS (fun t k => XS.iinc X34.here hx rfl (hb hby d28_358) rfl (l' := #[.val (.ref a1), .val (.ref a2), .val (.int 2), .val (.int 2), .val (.ref b7), .val (.ref b18), .val (.long x34_r), .second, .val (.ref b18), .val (.int 2), .val (.int 1), .val (.ref c18_1), .val (.ref c18_1), .val (.int 2), .val (.int 2), .val (.long 0), .second, .unset, .unset]) rfl k) ?_
  show oG _ _ _ _ _ _ _ (T34.setTop (mkF m 361 #[.val (.ref a1), .val (.ref a2), .val (.int 2), .val (.int 2), .val (.ref b7), .val (.ref b18), .val (.long x34_r), .second, .val (.ref b18), .val (.int 2), .val (.int 1), .val (.ref c18_1), .val (.ref c18_1), .val (.int 2), .val (.int 2), .val (.long 0), .second, .unset, .unset] []))
  refine oS (fun t k => XS.goto X34.here hx rfl (pc0 := 361) (pc' := 335) rfl (hb hby d28_361) (by decide) (by decide) k) ?_
  refine oS (fun t k => XS.iload X34.here hx rfl (hb hby d28_335) rfl k) ?_
  refine oS (fun t k => XS.iload X34.here hx rfl (hb hby d28_337) rfl k) ?_
  refine oS (fun t k => XS.icmpYes X34.here hx rfl (pc0 := 339) (pc' := 364) rfl (hb hby d28_339) rfl (flt (by decide)).2.1 (by decide) (by decide) k) ?_
  refine oS (fun t k => XS.iinc X34.here hx rfl (hb hby d28_364) rfl (l' := #[.val (.ref a1), .val (.ref a2), .val (.int 2), .val (.int 2), .val (.ref b7), .val (.ref b18), .val (.long x34_r), .second, .val (.ref b18), .val (.int 2), .val (.int 2), .val (.ref c18_1), .val (.ref c18_1), .val (.int 2), .val (.int 2), .val (.long 0), .second, .unset, .unset]) rfl k) ?_
  show oG _ _ _ _ _ _ _ (T34.setTop (mkF m 367 #[.val (.ref a1), .val (.ref a2), .val (.int 2), .val (.int 2), .val (.ref b7), .val (.ref b18), .val (.long x34_r), .second, .val (.ref b18), .val (.int 2), .val (.int 2), .val (.ref c18_1), .val (.ref c18_1), .val (.int 2), .val (.int 2), .val (.long 0), .second, .unset, .unset] []))
  refine oS (fun t k => XS.goto X34.here hx rfl (pc0 := 367) (pc' := 309) rfl (hb hby d28_367) (by decide) (by decide) k) ?_
  refine oS (fun t k => XS.iload X34.here hx rfl (hb hby d28_309) rfl k) ?_
  refine oS (fun t k => XS.iload X34.here hx rfl (hb hby d28_311) rfl k) ?_
  refine oS (fun t k => XS.icmpYes X34.here hx rfl (pc0 := 313) (pc' := 370) rfl (hb hby d28_313) rfl (flt (by decide)).2.1 (by decide) (by decide) k) ?_
  refine oS (fun t k => XS.aloadN X34.here hx rfl (hb hby d28_370) rfl rfl k) ?_
  refine oS (fun t k => XS.aloadN X34.here hx rfl (hb hby d28_371) rfl rfl k) ?_
  obtain ⟨cq35, kq35, q35a, q35b, q35c⟩ := isOf hZ e34 ((((((((E_a2.wr W6).ext E7).ext E9).wr W10).keep K14).keep K16).ext E18).keep K20)
  obtain ⟨_, _, ⟨T35, L35, k35, n35⟩, -, X35, ⟨Lc35, hQ35, l35, y35, z35⟩, st35⟩ := X34.virtualBack hx (y := mY29) (z := mY29) hown (oM hZ hw 219 rfl) (oM hZ hw 220 rfl) (notFace_of_selects (args := #[]) (oM hZ hw 222 rfl)) (oM hZ hw 222 rfl) (oM hZ hw 221 rfl) (by decide) (backOf (W := 1) (rm_w_staff l Z a0 hw [] a2 z3  T20.heap n0 O20  ((((((((F_staff_a2.other W6 (Or.inl (Ne.symm ne_a1_a2))).ext E7).ext E9).other W10 (Or.inl (Ne.symm ne_a1_a2))).keep K14 (fun q => ne_a2_c9_0 (List.mem_singleton.mp q))).keep K16 (fun q => ne_a2_c9_1 (List.mem_singleton.mp q))).ext E18).keep K20 List.not_mem_nil)) hZ (oW hw 223 rfl) (oW hw 88 rfl) (by decide) (by decide)) q35a q35c (g := (mkF m 372 #[.val (.ref a1), .val (.ref a2), .val (.int 2), .val (.int 2), .val (.ref b7), .val (.ref b18), .val (.long x34_r), .second, .val (.ref b18), .val (.int 2), .val (.int 2), .val (.ref c18_1), .val (.ref c18_1), .val (.int 2), .val (.int 2), .val (.long 0), .second, .unset, .unset] [(.ref a2), (.ref a1)])) rfl (by rw [hml]; rfl) (Steps.refl _) (argsL := []) (rest := [(.ref a1)]) (lenOf pd_13 rfl) rfl (by show 2 * 0 + _ ≤ _; exact Nat.le_of_eq rfl) (hb hby d28_372) (fun _ _ => ⟨rfl, e34, (by decide : 8 + 0 ≤ _), (by decide : 19 + 0 ≤ _)⟩)
  dsimp only [Pt.U, Pt.locs, Pt.cells, Pt.slots] at X35 l35 y35 z35 st35 hQ35
  rw [l35, y35, z35] at X35
  clear l35 y35 z35
  obtain ⟨rfl, Nq35, e35⟩ := hQ35
  have N35 := Fr.app N34 Nq35
  refine oS (fun t k => st35.trans k) ?_
  show oG _ _ _ _ _ _ _ (T35.setTop (mkF m 375 #[.val (.ref a1), .val (.ref a2), .val (.int 2), .val (.int 2), .val (.ref b7), .val (.ref b18), .val (.long x34_r), .second, .val (.ref b18), .val (.int 2), .val (.int 2), .val (.ref c18_1), .val (.ref c18_1), .val (.int 2), .val (.int 2), .val (.long 0), .second, .unset, .unset] [(.ref z3), (.ref a1)]))
  try clear st35 X34 e34
  obtain ⟨cq36, kq36, q36a, q36b, q36c⟩ := isOf hZ e35 ((((((((E_z3.wr W6).ext E7).ext E9).wr W10).keep K14).keep K16).ext E18).keep K20)
  obtain ⟨_, _, ⟨T36, L36, k36, n36⟩, -, X36, ⟨Lc36, hQ36, l36, y36, z36⟩, st36⟩ := X35.interfaceBack hx (xi := mY49) (y := mY38) hown (oM hZ hw 210 rfl) (oM hZ hw 211 rfl) (oM hZ hw 212 rfl) (oM hZ hw 213 rfl) (oM hZ hw 214 rfl) (oM hZ hw 215 rfl) (oM hZ hw 216 rfl) (oM hZ hw 217 rfl) (by decide) (backOf (W := 1) (rm_size2 l Z a0 hw [] z3 v3 w T20.heap n0 O20 W ((((((((F_e1_z3.other W6 (Or.inl (Ne.symm ne_a1_z3))).ext E7).ext E9).other W10 (Or.inl (Ne.symm ne_a1_z3))).keep K14 (fun q => ne_z3_c9_0 (List.mem_singleton.mp q))).keep K16 (fun q => ne_z3_c9_1 (List.mem_singleton.mp q))).ext E18).keep K20 List.not_mem_nil) ((((((((E_v3.wr W6).ext E7).ext E9).wr W10).keep K14).keep K16).ext E18).keep K20)) hZ (oW hw 218 rfl) (oW hw 151 rfl) (by decide) (by decide)) q36a q36b q36c (g := (mkF m 375 #[.val (.ref a1), .val (.ref a2), .val (.int 2), .val (.int 2), .val (.ref b7), .val (.ref b18), .val (.long x34_r), .second, .val (.ref b18), .val (.int 2), .val (.int 2), .val (.ref c18_1), .val (.ref c18_1), .val (.int 2), .val (.int 2), .val (.long 0), .second, .unset, .unset] [(.ref z3), (.ref a1)])) rfl (by rw [hml]; rfl) (Steps.refl _) (argsL := []) (rest := [(.ref a1)]) (lenOf pd_14 rfl) rfl (by show 2 * 0 + _ ≤ _; exact Nat.le_of_eq rfl) (hb hby d28_375) (fun _ _ => ⟨rfl, e35, (by decide : 8 + 0 ≤ _), (by decide : 19 + 0 ≤ _)⟩)
  dsimp only [Pt.U, Pt.locs, Pt.cells, Pt.slots] at X36 l36 y36 z36 st36 hQ36
  rw [l36, y36, z36] at X36
  clear l36 y36 z36
  obtain ⟨rfl, Nq36, e36⟩ := hQ36
  have N36 := Fr.app N35 Nq36
  refine oS (fun t k => st36.trans k) ?_
  show oG _ _ _ _ _ _ _ (T36.setTop (mkF m 380 #[.val (.ref a1), .val (.ref a2), .val (.int 2), .val (.int 2), .val (.ref b7), .val (.ref b18), .val (.long x34_r), .second, .val (.ref b18), .val (.int 2), .val (.int 2), .val (.ref c18_1), .val (.ref c18_1), .val (.int 2), .val (.int 2), .val (.long 0), .second, .unset, .unset] [(.int 2), (.ref a1)]))
  try clear st36 X35 e35
  refine oS (fun t k => XS.aloadN X36.here hx rfl (hb hby d28_380) rfl rfl k) ?_
  obtain ⟨cq37, kq37, q37a, q37b, q37c⟩ := isOf hZ e36 ((((((((E_a2.wr W6).ext E7).ext E9).wr W10).keep K14).keep K16).ext E18).keep K20)
  obtain ⟨_, _, ⟨T37, L37, k37, n37⟩, -, X37, ⟨Lc37, hQ37, l37, y37, z37⟩, st37⟩ := X36.virtualBack hx (y := mY33) (z := mY33) hown (oM hZ hw 227 rfl) (oM hZ hw 228 rfl) (notFace_of_selects (args := #[]) (oM hZ hw 230 rfl)) (oM hZ hw 230 rfl) (oM hZ hw 229 rfl) (by decide) (backOf (W := 2) (rm_w_days l Z a0 hw [] a2  T20.heap n0 O20  ((((((((F_days_a2.other W6 (Or.inl (Ne.symm ne_a1_a2))).ext E7).ext E9).other W10 (Or.inl (Ne.symm ne_a1_a2))).keep K14 (fun q => ne_a2_c9_0 (List.mem_singleton.mp q))).keep K16 (fun q => ne_a2_c9_1 (List.mem_singleton.mp q))).ext E18).keep K20 List.not_mem_nil)) hZ (oW hw 231 rfl) (oW hw 88 rfl) (by decide) (by decide)) q37a q37c (g := (mkF m 381 #[.val (.ref a1), .val (.ref a2), .val (.int 2), .val (.int 2), .val (.ref b7), .val (.ref b18), .val (.long x34_r), .second, .val (.ref b18), .val (.int 2), .val (.int 2), .val (.ref c18_1), .val (.ref c18_1), .val (.int 2), .val (.int 2), .val (.long 0), .second, .unset, .unset] [(.ref a2), (.int 2), (.ref a1)])) rfl (by rw [hml]; rfl) (Steps.refl _) (argsL := []) (rest := [(.int 2), (.ref a1)]) (lenOf pd_14 rfl) rfl (by show 2 * 0 + _ ≤ _; exact Nat.le_of_eq rfl) (hb hby d28_381) (fun _ _ => ⟨rfl, e36, (by decide : 8 + 0 ≤ _), (by decide : 19 + 0 ≤ _)⟩)
  dsimp only [Pt.U, Pt.locs, Pt.cells, Pt.slots] at X37 l37 y37 z37 st37 hQ37
  rw [l37, y37, z37] at X37
  clear l37 y37 z37
  obtain ⟨rfl, Nq37, e37⟩ := hQ37
  have N37 := Fr.app N36 Nq37
  refine oS (fun t k => st37.trans k) ?_
  show oG _ _ _ _ _ _ _ (T37.setTop (mkF m 384 #[.val (.ref a1), .val (.ref a2), .val (.int 2), .val (.int 2), .val (.ref b7), .val (.ref b18), .val (.long x34_r), .second, .val (.ref b18), .val (.int 2), .val (.int 2), .val (.ref c18_1), .val (.ref c18_1), .val (.int 2), .val (.int 2), .val (.long 0), .second, .unset, .unset] [(.int 2), (.int 2), (.ref a1)]))
  try clear st37 X36 e36
  refine oS (fun t k => XS.aloadN X37.here hx rfl (hb hby d28_384) rfl rfl k) ?_
  obtain ⟨T38, X38, e38, st38⟩ := getF X37 hx hZ hown (host := "") (Or.inl (oW hw 224 rfl)) Via.refl e37 (((((((Fw6.ext E7).ext E9).other W10 (Or.inr (slot_ne (Or.inr (oW hw 225 rfl)) (Or.inr (oW hw 236 rfl)) (by decide) (t := .int) (t' := (.array (.array (.array .long)))) (by decide) (by decide)))).keep K14 (fun q => ne_a1_c9_0 (List.mem_singleton.mp q))).keep K16 (fun q => ne_a1_c9_1 (List.mem_singleton.mp q))).ext E18).keep K20 List.not_mem_nil) (g := (mkF m 385 #[.val (.ref a1), .val (.ref a2), .val (.int 2), .val (.int 2), .val (.ref b7), .val (.ref b18), .val (.long x34_r), .second, .val (.ref b18), .val (.int 2), .val (.int 2), .val (.ref c18_1), .val (.ref c18_1), .val (.int 2), .val (.int 2), .val (.long 0), .second, .unset, .unset] [(.ref a1), (.int 2), (.int 2), (.ref a1)])) rfl rfl (hb hby d28_385)
  refine oS (fun t k => st38 t k) ?_
  try clear st38 X37 e37
  refine oS (S' := (T38.setTop (mkF m 389 #[.val (.ref a1), .val (.ref a2), .val (.int 2), .val (.int 2), .val (.ref b7), .val (.ref b18), .val (.long x34_r), .second, .val (.ref b18), .val (.int 2), .val (.int 2), .val (.ref c18_1), .val (.ref c18_1), .val (.int 2), .val (.int 2), .val (.long 0), .second, .unset, .unset] [(.int 6), (.int 2), (.ref a1)]))) (fun t k => XS.imul X38.here hx rfl (hb hby d28_388) rfl (by rw [show (2 : Int32) * (3 : Int32) = (6 : Int32) from by decide]; exact k)) ?_
  obtain ⟨b39, g39⟩ : ∃ z, z = T20.heap.size := ⟨_, rfl⟩
  obtain ⟨c39_0, gc39_0⟩ : ∃ z, z = T20.heap.size + 1 + 0 := ⟨_, rfl⟩
  obtain ⟨c39_1, gc39_1⟩ : ∃ z, z = T20.heap.size + 1 + 1 := ⟨_, rfl⟩
  obtain ⟨T39, h39, k39, kr39, X39, e39, E39, V39, O39v, Ex39, R39, st39⟩ := gridM X38 hx hZ hown (ty := .long) (C := "[J") (ad := "[[J") (by decide) (by decide) (oW hw 241 rfl) (oW hw 234 rfl) (oW hw 226 rfl) e38 (g := (mkF m 389 #[.val (.ref a1), .val (.ref a2), .val (.int 2), .val (.int 2), .val (.ref b7), .val (.ref b18), .val (.long x34_r), .second, .val (.ref b18), .val (.int 2), .val (.int 2), .val (.ref c18_1), .val (.ref c18_1), .val (.int 2), .val (.int 2), .val (.long 0), .second, .unset, .unset] [(.int 6), (.int 2), (.ref a1)])) rfl (hb hby d28_389) (n := (2 : Int32)) (k := (6 : Int32)) rfl (by decide) (by decide) (xs := [c39_0, c39_1]) (N := 2) (by decide) (by rw [gc39_0, gc39_1]; rfl) (cap := 6) (by decide) (by decide) (by decide) rfl rfl (by decide) (by decide)
  rw [← g39] at V39 Ex39 st39
  have Vg39 : Arv Z h39 b39 k39 (.array .long) (2 : Int32) [(.ref c39_0), (.ref c39_1)] .null := V39
  have gxb39 : n0 ≤ b39 := Nat.le_trans (O20.1 ▸ O20.2.1) (Nat.le_of_eq g39.symm)
  have szb39 : h0.size ≤ b39 := Nat.le_trans Kp20.1 (Nat.le_of_eq g39.symm)
  have ne_a1_b39 : a1 ≠ b39 := Nat.ne_of_lt (Nat.lt_of_lt_of_le ((((((((E_a1.wr W6).ext E7).ext E9).wr W10).keep K14).keep K16).ext E18).keep K20).lt (Nat.le_of_eq g39.symm))
  have ne_a2_b39 : a2 ≠ b39 := Nat.ne_of_lt (Nat.lt_of_lt_of_le ((((((((E_a2.wr W6).ext E7).ext E9).wr W10).keep K14).keep K16).ext E18).keep K20).lt (Nat.le_of_eq g39.symm))
  have ne_z2_b39 : z2 ≠ b39 := Nat.ne_of_lt (Nat.lt_of_lt_of_le ((((((((E_z2.wr W6).ext E7).ext E9).wr W10).keep K14).keep K16).ext E18).keep K20).lt (Nat.le_of_eq g39.symm))
  have ne_z3_b39 : z3 ≠ b39 := Nat.ne_of_lt (Nat.lt_of_lt_of_le ((((((((E_z3.wr W6).ext E7).ext E9).wr W10).keep K14).keep K16).ext E18).keep K20).lt (Nat.le_of_eq g39.symm))
  have ne_z4_b39 : z4 ≠ b39 := Nat.ne_of_lt (Nat.lt_of_lt_of_le ((((((((E_z4.wr W6).ext E7).ext E9).wr W10).keep K14).keep K16).ext E18).keep K20).lt (Nat.le_of_eq g39.symm))
  have ne_z5_b39 : z5 ≠ b39 := Nat.ne_of_lt (Nat.lt_of_lt_of_le ((((((((E_z5.wr W6).ext E7).ext E9).wr W10).keep K14).keep K16).ext E18).keep K20).lt (Nat.le_of_eq g39.symm))
  have ne_u4_b39 : u4 ≠ b39 := Nat.ne_of_lt (Nat.lt_of_lt_of_le ((((((((E_u4.wr W6).ext E7).ext E9).wr W10).keep K14).keep K16).ext E18).keep K20).lt (Nat.le_of_eq g39.symm))
  have ne_u5_b39 : u5 ≠ b39 := Nat.ne_of_lt (Nat.lt_of_lt_of_le ((((((((E_u5.wr W6).ext E7).ext E9).wr W10).keep K14).keep K16).ext E18).keep K20).lt (Nat.le_of_eq g39.symm))
  have ne_b7_b39 : b7 ≠ b39 := Nat.ne_of_lt (Nat.lt_of_lt_of_le ((((((V7.ext E9).other W10 (Ne.symm ne_a1_b7)).keep K14 (fun q => ne_b7_c9_0 (List.mem_singleton.mp q))).keep K16 (fun q => ne_b7_c9_1 (List.mem_singleton.mp q))).ext E18).keep K20 List.not_mem_nil).lt (Nat.le_of_eq g39.symm))
  have ne_b9_b39 : b9 ≠ b39 := Nat.ne_of_lt (Nat.lt_of_lt_of_le (((((Vg9.other W10 (Ne.symm ne_a1_b9)).keep K14 (fun q => ne_b9_c9_0 (List.mem_singleton.mp q))).keep K16 (fun q => ne_b9_c9_1 (List.mem_singleton.mp q))).ext E18).keep K20 List.not_mem_nil).lt (Nat.le_of_eq g39.symm))
  have ne_c9_0_b39 : c9_0 ≠ b39 := Nat.ne_of_lt (Nat.lt_of_lt_of_le (((((Exc9_0.wr W10).keep K14).keep K16).ext E18).keep K20).lt (Nat.le_of_eq g39.symm))
  have ne_c9_1_b39 : c9_1 ≠ b39 := Nat.ne_of_lt (Nat.lt_of_lt_of_le (((((Exc9_1.wr W10).keep K14).keep K16).ext E18).keep K20).lt (Nat.le_of_eq g39.symm))
  have ne_b18_b39 : b18 ≠ b39 := Nat.ne_of_lt (Nat.lt_of_lt_of_le (Vg18.keep K20 List.not_mem_nil).lt (Nat.le_of_eq g39.symm))
  have ne_c18_0_b39 : c18_0 ≠ b39 := Nat.ne_of_lt (Nat.lt_of_lt_of_le (Vc18_0.keep K20 List.not_mem_nil).lt (Nat.le_of_eq g39.symm))
  have ne_c18_1_b39 : c18_1 ≠ b39 := Nat.ne_of_lt (Nat.lt_of_lt_of_le (Vc18_1.keep K20 List.not_mem_nil).lt (Nat.le_of_eq g39.symm))
  have ne_r20_b39 : r20 ≠ b39 := Nat.ne_of_lt (Nat.lt_of_lt_of_le P20_0.lt (Nat.le_of_eq g39.symm))
  have gxc39_0 : n0 ≤ c39_0 := Nat.le_trans (O20.1 ▸ O20.2.1) (by rw [gc39_0]; omega)
  have szc39_0 : h0.size ≤ c39_0 := Nat.le_trans Kp20.1 (by rw [gc39_0]; omega)
  have ne_a1_c39_0 : a1 ≠ c39_0 := Nat.ne_of_lt (Nat.lt_of_lt_of_le ((((((((E_a1.wr W6).ext E7).ext E9).wr W10).keep K14).keep K16).ext E18).keep K20).lt (by rw [gc39_0]; omega))
  have ne_a2_c39_0 : a2 ≠ c39_0 := Nat.ne_of_lt (Nat.lt_of_lt_of_le ((((((((E_a2.wr W6).ext E7).ext E9).wr W10).keep K14).keep K16).ext E18).keep K20).lt (by rw [gc39_0]; omega))
  have ne_z2_c39_0 : z2 ≠ c39_0 := Nat.ne_of_lt (Nat.lt_of_lt_of_le ((((((((E_z2.wr W6).ext E7).ext E9).wr W10).keep K14).keep K16).ext E18).keep K20).lt (by rw [gc39_0]; omega))
  have ne_z3_c39_0 : z3 ≠ c39_0 := Nat.ne_of_lt (Nat.lt_of_lt_of_le ((((((((E_z3.wr W6).ext E7).ext E9).wr W10).keep K14).keep K16).ext E18).keep K20).lt (by rw [gc39_0]; omega))
  have ne_z4_c39_0 : z4 ≠ c39_0 := Nat.ne_of_lt (Nat.lt_of_lt_of_le ((((((((E_z4.wr W6).ext E7).ext E9).wr W10).keep K14).keep K16).ext E18).keep K20).lt (by rw [gc39_0]; omega))
  have ne_z5_c39_0 : z5 ≠ c39_0 := Nat.ne_of_lt (Nat.lt_of_lt_of_le ((((((((E_z5.wr W6).ext E7).ext E9).wr W10).keep K14).keep K16).ext E18).keep K20).lt (by rw [gc39_0]; omega))
  have ne_u4_c39_0 : u4 ≠ c39_0 := Nat.ne_of_lt (Nat.lt_of_lt_of_le ((((((((E_u4.wr W6).ext E7).ext E9).wr W10).keep K14).keep K16).ext E18).keep K20).lt (by rw [gc39_0]; omega))
  have ne_u5_c39_0 : u5 ≠ c39_0 := Nat.ne_of_lt (Nat.lt_of_lt_of_le ((((((((E_u5.wr W6).ext E7).ext E9).wr W10).keep K14).keep K16).ext E18).keep K20).lt (by rw [gc39_0]; omega))
  have ne_b7_c39_0 : b7 ≠ c39_0 := Nat.ne_of_lt (Nat.lt_of_lt_of_le ((((((V7.ext E9).other W10 (Ne.symm ne_a1_b7)).keep K14 (fun q => ne_b7_c9_0 (List.mem_singleton.mp q))).keep K16 (fun q => ne_b7_c9_1 (List.mem_singleton.mp q))).ext E18).keep K20 List.not_mem_nil).lt (by rw [gc39_0]; omega))
  have ne_b9_c39_0 : b9 ≠ c39_0 := Nat.ne_of_lt (Nat.lt_of_lt_of_le (((((Vg9.other W10 (Ne.symm ne_a1_b9)).keep K14 (fun q => ne_b9_c9_0 (List.mem_singleton.mp q))).keep K16 (fun q => ne_b9_c9_1 (List.mem_singleton.mp q))).ext E18).keep K20 List.not_mem_nil).lt (by rw [gc39_0]; omega))
  have ne_c9_0_c39_0 : c9_0 ≠ c39_0 := Nat.ne_of_lt (Nat.lt_of_lt_of_le (((((Exc9_0.wr W10).keep K14).keep K16).ext E18).keep K20).lt (by rw [gc39_0]; omega))
  have ne_c9_1_c39_0 : c9_1 ≠ c39_0 := Nat.ne_of_lt (Nat.lt_of_lt_of_le (((((Exc9_1.wr W10).keep K14).keep K16).ext E18).keep K20).lt (by rw [gc39_0]; omega))
  have ne_b18_c39_0 : b18 ≠ c39_0 := Nat.ne_of_lt (Nat.lt_of_lt_of_le (Vg18.keep K20 List.not_mem_nil).lt (by rw [gc39_0]; omega))
  have ne_c18_0_c39_0 : c18_0 ≠ c39_0 := Nat.ne_of_lt (Nat.lt_of_lt_of_le (Vc18_0.keep K20 List.not_mem_nil).lt (by rw [gc39_0]; omega))
  have ne_c18_1_c39_0 : c18_1 ≠ c39_0 := Nat.ne_of_lt (Nat.lt_of_lt_of_le (Vc18_1.keep K20 List.not_mem_nil).lt (by rw [gc39_0]; omega))
  have ne_r20_c39_0 : r20 ≠ c39_0 := Nat.ne_of_lt (Nat.lt_of_lt_of_le P20_0.lt (by rw [gc39_0]; omega))
  have gxc39_1 : n0 ≤ c39_1 := Nat.le_trans (O20.1 ▸ O20.2.1) (by rw [gc39_1]; omega)
  have szc39_1 : h0.size ≤ c39_1 := Nat.le_trans Kp20.1 (by rw [gc39_1]; omega)
  have ne_a1_c39_1 : a1 ≠ c39_1 := Nat.ne_of_lt (Nat.lt_of_lt_of_le ((((((((E_a1.wr W6).ext E7).ext E9).wr W10).keep K14).keep K16).ext E18).keep K20).lt (by rw [gc39_1]; omega))
  have ne_a2_c39_1 : a2 ≠ c39_1 := Nat.ne_of_lt (Nat.lt_of_lt_of_le ((((((((E_a2.wr W6).ext E7).ext E9).wr W10).keep K14).keep K16).ext E18).keep K20).lt (by rw [gc39_1]; omega))
  have ne_z2_c39_1 : z2 ≠ c39_1 := Nat.ne_of_lt (Nat.lt_of_lt_of_le ((((((((E_z2.wr W6).ext E7).ext E9).wr W10).keep K14).keep K16).ext E18).keep K20).lt (by rw [gc39_1]; omega))
  have ne_z3_c39_1 : z3 ≠ c39_1 := Nat.ne_of_lt (Nat.lt_of_lt_of_le ((((((((E_z3.wr W6).ext E7).ext E9).wr W10).keep K14).keep K16).ext E18).keep K20).lt (by rw [gc39_1]; omega))
  have ne_z4_c39_1 : z4 ≠ c39_1 := Nat.ne_of_lt (Nat.lt_of_lt_of_le ((((((((E_z4.wr W6).ext E7).ext E9).wr W10).keep K14).keep K16).ext E18).keep K20).lt (by rw [gc39_1]; omega))
  have ne_z5_c39_1 : z5 ≠ c39_1 := Nat.ne_of_lt (Nat.lt_of_lt_of_le ((((((((E_z5.wr W6).ext E7).ext E9).wr W10).keep K14).keep K16).ext E18).keep K20).lt (by rw [gc39_1]; omega))
  have ne_u4_c39_1 : u4 ≠ c39_1 := Nat.ne_of_lt (Nat.lt_of_lt_of_le ((((((((E_u4.wr W6).ext E7).ext E9).wr W10).keep K14).keep K16).ext E18).keep K20).lt (by rw [gc39_1]; omega))
  have ne_u5_c39_1 : u5 ≠ c39_1 := Nat.ne_of_lt (Nat.lt_of_lt_of_le ((((((((E_u5.wr W6).ext E7).ext E9).wr W10).keep K14).keep K16).ext E18).keep K20).lt (by rw [gc39_1]; omega))
  have ne_b7_c39_1 : b7 ≠ c39_1 := Nat.ne_of_lt (Nat.lt_of_lt_of_le ((((((V7.ext E9).other W10 (Ne.symm ne_a1_b7)).keep K14 (fun q => ne_b7_c9_0 (List.mem_singleton.mp q))).keep K16 (fun q => ne_b7_c9_1 (List.mem_singleton.mp q))).ext E18).keep K20 List.not_mem_nil).lt (by rw [gc39_1]; omega))
  have ne_b9_c39_1 : b9 ≠ c39_1 := Nat.ne_of_lt (Nat.lt_of_lt_of_le (((((Vg9.other W10 (Ne.symm ne_a1_b9)).keep K14 (fun q => ne_b9_c9_0 (List.mem_singleton.mp q))).keep K16 (fun q => ne_b9_c9_1 (List.mem_singleton.mp q))).ext E18).keep K20 List.not_mem_nil).lt (by rw [gc39_1]; omega))
  have ne_c9_0_c39_1 : c9_0 ≠ c39_1 := Nat.ne_of_lt (Nat.lt_of_lt_of_le (((((Exc9_0.wr W10).keep K14).keep K16).ext E18).keep K20).lt (by rw [gc39_1]; omega))
  have ne_c9_1_c39_1 : c9_1 ≠ c39_1 := Nat.ne_of_lt (Nat.lt_of_lt_of_le (((((Exc9_1.wr W10).keep K14).keep K16).ext E18).keep K20).lt (by rw [gc39_1]; omega))
  have ne_b18_c39_1 : b18 ≠ c39_1 := Nat.ne_of_lt (Nat.lt_of_lt_of_le (Vg18.keep K20 List.not_mem_nil).lt (by rw [gc39_1]; omega))
  have ne_c18_0_c39_1 : c18_0 ≠ c39_1 := Nat.ne_of_lt (Nat.lt_of_lt_of_le (Vc18_0.keep K20 List.not_mem_nil).lt (by rw [gc39_1]; omega))
  have ne_c18_1_c39_1 : c18_1 ≠ c39_1 := Nat.ne_of_lt (Nat.lt_of_lt_of_le (Vc18_1.keep K20 List.not_mem_nil).lt (by rw [gc39_1]; omega))
  have ne_r20_c39_1 : r20 ≠ c39_1 := Nat.ne_of_lt (Nat.lt_of_lt_of_le P20_0.lt (by rw [gc39_1]; omega))
  have ne_b39_c39_0 : b39 ≠ c39_0 := (by rw [g39, gc39_0]; omega)
  have ne_b39_c39_1 : b39 ≠ c39_1 := (by rw [g39, gc39_1]; omega)
  have ne_c39_0_c39_1 : c39_0 ≠ c39_1 := (by rw [gc39_0, gc39_1]; omega)
  have O39 := O20.ext E39
  have Kp39 : Keep h0 h39 [a1] := Kp20.ext E39
  have Ac39_0 := (R39 0 c39_0 rfl).1
  have Exc39_0 := (R39 0 c39_0 rfl).2
  have Vc39_0 : Arv Z h39 c39_0 kr39 .long (6 : Int32) [(.long 0), (.long 0), (.long 0), (.long 0), (.long 0), (.long 0)] (.long 0) := (Arv.new Ac39_0 (by decide)).pad (pad_rep [] (.long 0) 6)
  have Ac39_1 := (R39 1 c39_1 rfl).1
  have Exc39_1 := (R39 1 c39_1 rfl).2
  have Vc39_1 : Arv Z h39 c39_1 kr39 .long (6 : Int32) [(.long 0), (.long 0), (.long 0), (.long 0), (.long 0), (.long 0)] (.long 0) := (Arv.new Ac39_1 (by decide)).pad (pad_rep [] (.long 0) 6)
  clear R39 Ac39_0 Ac39_1
  refine oS (fun t k => st39 t k) ?_
  try clear st39 X38 e38
  try clear T38
  obtain ⟨T40, h40, X40, e40, W40, st40⟩ := putF X39 hx hZ hown (host := "") (Or.inl (oW hw 293 rfl)) Via.refl e39 (((((((((F_requests_a1.other W6 (Or.inr (slot_ne (Or.inr (oW hw 294 rfl)) (Or.inr (oW hw 225 rfl)) (by decide) (t := (.array (.array .long))) (t' := .int) (by decide) (by decide)))).ext E7).ext E9).other W10 (Or.inr (slot_ne (Or.inr (oW hw 294 rfl)) (Or.inr (oW hw 236 rfl)) (by decide) (t := (.array (.array .long))) (t' := (.array (.array (.array .long)))) (by decide) (by decide)))).keep K14 (fun q => ne_a1_c9_0 (List.mem_singleton.mp q))).keep K16 (fun q => ne_a1_c9_1 (List.mem_singleton.mp q))).ext E18).keep K20 List.not_mem_nil).ext E39) (((((((((E_a1.wr W6).ext E7).ext E9).wr W10).keep K14).keep K16).ext E18).keep K20).ext E39) (Or.inr ⟨(oW hw 294 rfl), rfl, hnm⟩) (oW hw 199 rfl) (ty := (.array (.array .long))) (by decide) rfl rfl (g := (mkF m 393 #[.val (.ref a1), .val (.ref a2), .val (.int 2), .val (.int 2), .val (.ref b7), .val (.ref b18), .val (.long x34_r), .second, .val (.ref b18), .val (.int 2), .val (.int 2), .val (.ref c18_1), .val (.ref c18_1), .val (.int 2), .val (.int 2), .val (.long 0), .second, .unset, .unset] [(.ref b39), (.ref a1)])) rfl rfl (hb hby d28_393)
  have O40 := O39.wr W40 g_a1
  have N40 := Fr.snoc X40 N37 g_a1
  have Kp40 : Keep h0 h40 [a1] := Kp39.wr W40 (Or.inl (List.mem_of_getElem? (i := 0) rfl))
  have Fw40 := (((((((((F_requests_a1.other W6 (Or.inr (slot_ne (Or.inr (oW hw 294 rfl)) (Or.inr (oW hw 225 rfl)) (by decide) (t := (.array (.array .long))) (t' := .int) (by decide) (by decide)))).ext E7).ext E9).other W10 (Or.inr (slot_ne (Or.inr (oW hw 294 rfl)) (Or.inr (oW hw 236 rfl)) (by decide) (t := (.array (.array .long))) (t' := (.array (.array (.array .long)))) (by decide) (by decide)))).keep K14 (fun q => ne_a1_c9_0 (List.mem_singleton.mp q))).keep K16 (fun q => ne_a1_c9_1 (List.mem_singleton.mp q))).ext E18).keep K20 List.not_mem_nil).ext E39).same W40
  refine oS (fun t k => st40 t k) ?_
  try clear st40 X39 e39
  try clear T39
  refine oS (fun t k => XS.aloadN X40.here hx rfl (hb hby d28_396) rfl rfl k) ?_
  obtain ⟨cq41, kq41, q41a, q41b, q41c⟩ := isOf hZ e40 ((((((((((E_a2.wr W6).ext E7).ext E9).wr W10).keep K14).keep K16).ext E18).keep K20).ext E39).wr W40)
  obtain ⟨_, _, ⟨T41, L41, k41, n41⟩, -, X41, ⟨Lc41, hQ41, l41, y41, z41⟩, st41⟩ := X40.virtualBack hx (y := mY30) (z := mY30) hown (oM hZ hw 295 rfl) (oM hZ hw 296 rfl) (notFace_of_selects (args := #[]) (oM hZ hw 298 rfl)) (oM hZ hw 298 rfl) (oM hZ hw 297 rfl) (by decide) (backOf (W := 0) (rm_w_onRequests l Z a0 hw [] a2 z4  h40 n0 O40  ((((((((((F_onRequests_a2.other W6 (Or.inl (Ne.symm ne_a1_a2))).ext E7).ext E9).other W10 (Or.inl (Ne.symm ne_a1_a2))).keep K14 (fun q => ne_a2_c9_0 (List.mem_singleton.mp q))).keep K16 (fun q => ne_a2_c9_1 (List.mem_singleton.mp q))).ext E18).keep K20 List.not_mem_nil).ext E39).other W40 (Or.inl (Ne.symm ne_a1_a2)))) hZ (oW hw 299 rfl) (oW hw 88 rfl) (by decide) (by decide)) q41a q41c (g := (mkF m 397 #[.val (.ref a1), .val (.ref a2), .val (.int 2), .val (.int 2), .val (.ref b7), .val (.ref b18), .val (.long x34_r), .second, .val (.ref b18), .val (.int 2), .val (.int 2), .val (.ref c18_1), .val (.ref c18_1), .val (.int 2), .val (.int 2), .val (.long 0), .second, .unset, .unset] [(.ref a2)])) rfl (by rw [hml]; rfl) (Steps.refl _) (argsL := []) (rest := []) (lenOf pd_13 rfl) rfl (by show 2 * 0 + _ ≤ _; exact Nat.le_of_eq rfl) (hb hby d28_397) (fun _ _ => ⟨rfl, e40, (by decide : 11 + 0 ≤ _), (by decide : 33 + 0 ≤ _)⟩)
  dsimp only [Pt.U, Pt.locs, Pt.cells, Pt.slots] at X41 l41 y41 z41 st41 hQ41
  rw [l41, y41, z41] at X41
  clear l41 y41 z41
  obtain ⟨rfl, Nq41, e41⟩ := hQ41
  have N41 := Fr.app N40 Nq41
  refine oS (fun t k => st41.trans k) ?_
  show oG _ _ _ _ _ _ _ (T41.setTop (mkF m 400 #[.val (.ref a1), .val (.ref a2), .val (.int 2), .val (.int 2), .val (.ref b7), .val (.ref b18), .val (.long x34_r), .second, .val (.ref b18), .val (.int 2), .val (.int 2), .val (.ref c18_1), .val (.ref c18_1), .val (.int 2), .val (.int 2), .val (.long 0), .second, .unset, .unset] [(.ref z4)]))
  try clear st41 X40 e40
  try clear T40
  obtain ⟨cq42, kq42, q42a, q42b, q42c⟩ := isOf hZ e41 ((((((((((E_z4.wr W6).ext E7).ext E9).wr W10).keep K14).keep K16).ext E18).keep K20).ext E39).wr W40)
  obtain ⟨_, _, ⟨T42, L42, k42, n42⟩, -, X42, ⟨Lc42, hQ42, l42, y42, z42⟩, st42⟩ := X41.interfaceBack hx (xi := mY50) (y := mY43) hown (oM hZ hw 247 rfl) (oM hZ hw 248 rfl) (oM hZ hw 249 rfl) (oM hZ hw 300 rfl) (oM hZ hw 251 rfl) (oM hZ hw 252 rfl) (oM hZ hw 301 rfl) (oM hZ hw 217 rfl) (by decide) (backOf (W := 0) (rm_it1 l Z a0 hw [] z4 w h40 n0 O40 W ((((((((((E_z4.wr W6).ext E7).ext E9).wr W10).keep K14).keep K16).ext E18).keep K20).ext E39).wr W40) ((((((((((F_e1_z4.other W6 (Or.inl (Ne.symm ne_a1_z4))).ext E7).ext E9).other W10 (Or.inl (Ne.symm ne_a1_z4))).keep K14 (fun q => ne_z4_c9_0 (List.mem_singleton.mp q))).keep K16 (fun q => ne_z4_c9_1 (List.mem_singleton.mp q))).ext E18).keep K20 List.not_mem_nil).ext E39).other W40 (Or.inl (Ne.symm ne_a1_z4)))) hZ (oW hw 255 rfl) (oW hw 160 rfl) (by decide) (by decide)) q42a q42b q42c (g := (mkF m 400 #[.val (.ref a1), .val (.ref a2), .val (.int 2), .val (.int 2), .val (.ref b7), .val (.ref b18), .val (.long x34_r), .second, .val (.ref b18), .val (.int 2), .val (.int 2), .val (.ref c18_1), .val (.ref c18_1), .val (.int 2), .val (.int 2), .val (.long 0), .second, .unset, .unset] [(.ref z4)])) rfl (by rw [hml]; rfl) (Steps.refl _) (argsL := []) (rest := []) (lenOf pd_18 rfl) rfl (by show 2 * 0 + _ ≤ _; exact Nat.le_of_eq rfl) (hb hby d28_400) (fun _ _ => ⟨rfl, e41, (by decide : 11 + 1 ≤ _), (by decide : 33 + 4 ≤ _)⟩)
  dsimp only [Pt.U, Pt.locs, Pt.cells, Pt.slots] at X42 l42 y42 z42 st42 hQ42
  rw [l42, y42, z42] at X42
  clear l42 y42 z42
  obtain ⟨r42, rfl, Nq42, K42, sr42, P42_0, P42_1, P42_2, P42_3⟩ := hQ42
  have N42 := Fr.app N41 Nq42
  have O42 := O40.keep K42 all0
  have Kp42 : Keep h0 T42.heap [a1] := Kp40.trans K42 all0
  have gr42 : n0 ≤ r42 := Nat.le_trans (O40.1 ▸ O40.2.1) sr42
  have ne_a1_r42 : a1 ≠ r42 := Nat.ne_of_lt (Nat.lt_of_lt_of_le ((((((((((E_a1.wr W6).ext E7).ext E9).wr W10).keep K14).keep K16).ext E18).keep K20).ext E39).wr W40).lt sr42)
  have ne_a2_r42 : a2 ≠ r42 := Nat.ne_of_lt (Nat.lt_of_lt_of_le ((((((((((E_a2.wr W6).ext E7).ext E9).wr W10).keep K14).keep K16).ext E18).keep K20).ext E39).wr W40).lt sr42)
  have ne_z2_r42 : z2 ≠ r42 := Nat.ne_of_lt (Nat.lt_of_lt_of_le ((((((((((E_z2.wr W6).ext E7).ext E9).wr W10).keep K14).keep K16).ext E18).keep K20).ext E39).wr W40).lt sr42)
  have ne_z3_r42 : z3 ≠ r42 := Nat.ne_of_lt (Nat.lt_of_lt_of_le ((((((((((E_z3.wr W6).ext E7).ext E9).wr W10).keep K14).keep K16).ext E18).keep K20).ext E39).wr W40).lt sr42)
  have ne_z4_r42 : z4 ≠ r42 := Nat.ne_of_lt (Nat.lt_of_lt_of_le ((((((((((E_z4.wr W6).ext E7).ext E9).wr W10).keep K14).keep K16).ext E18).keep K20).ext E39).wr W40).lt sr42)
  have ne_z5_r42 : z5 ≠ r42 := Nat.ne_of_lt (Nat.lt_of_lt_of_le ((((((((((E_z5.wr W6).ext E7).ext E9).wr W10).keep K14).keep K16).ext E18).keep K20).ext E39).wr W40).lt sr42)
  have ne_u4_r42 : u4 ≠ r42 := Nat.ne_of_lt (Nat.lt_of_lt_of_le ((((((((((E_u4.wr W6).ext E7).ext E9).wr W10).keep K14).keep K16).ext E18).keep K20).ext E39).wr W40).lt sr42)
  have ne_u5_r42 : u5 ≠ r42 := Nat.ne_of_lt (Nat.lt_of_lt_of_le ((((((((((E_u5.wr W6).ext E7).ext E9).wr W10).keep K14).keep K16).ext E18).keep K20).ext E39).wr W40).lt sr42)
  have ne_b7_r42 : b7 ≠ r42 := Nat.ne_of_lt (Nat.lt_of_lt_of_le ((((((((V7.ext E9).other W10 (Ne.symm ne_a1_b7)).keep K14 (fun q => ne_b7_c9_0 (List.mem_singleton.mp q))).keep K16 (fun q => ne_b7_c9_1 (List.mem_singleton.mp q))).ext E18).keep K20 List.not_mem_nil).ext E39).other W40 (Ne.symm ne_a1_b7)).lt sr42)
  have ne_b9_r42 : b9 ≠ r42 := Nat.ne_of_lt (Nat.lt_of_lt_of_le (((((((Vg9.other W10 (Ne.symm ne_a1_b9)).keep K14 (fun q => ne_b9_c9_0 (List.mem_singleton.mp q))).keep K16 (fun q => ne_b9_c9_1 (List.mem_singleton.mp q))).ext E18).keep K20 List.not_mem_nil).ext E39).other W40 (Ne.symm ne_a1_b9)).lt sr42)
  have ne_c9_0_r42 : c9_0 ≠ r42 := Nat.ne_of_lt (Nat.lt_of_lt_of_le (((((((Exc9_0.wr W10).keep K14).keep K16).ext E18).keep K20).ext E39).wr W40).lt sr42)
  have ne_c9_1_r42 : c9_1 ≠ r42 := Nat.ne_of_lt (Nat.lt_of_lt_of_le (((((((Exc9_1.wr W10).keep K14).keep K16).ext E18).keep K20).ext E39).wr W40).lt sr42)
  have ne_b18_r42 : b18 ≠ r42 := Nat.ne_of_lt (Nat.lt_of_lt_of_le (((Vg18.keep K20 List.not_mem_nil).ext E39).other W40 (Ne.symm ne_a1_b18)).lt sr42)
  have ne_c18_0_r42 : c18_0 ≠ r42 := Nat.ne_of_lt (Nat.lt_of_lt_of_le (((Vc18_0.keep K20 List.not_mem_nil).ext E39).other W40 (Ne.symm ne_a1_c18_0)).lt sr42)
  have ne_c18_1_r42 : c18_1 ≠ r42 := Nat.ne_of_lt (Nat.lt_of_lt_of_le (((Vc18_1.keep K20 List.not_mem_nil).ext E39).other W40 (Ne.symm ne_a1_c18_1)).lt sr42)
  have ne_r20_r42 : r20 ≠ r42 := Nat.ne_of_lt (Nat.lt_of_lt_of_le ((P20_0.ext E39).wr W40).lt sr42)
  have ne_b39_r42 : b39 ≠ r42 := Nat.ne_of_lt (Nat.lt_of_lt_of_le (Vg39.other W40 (Ne.symm ne_a1_b39)).lt sr42)
  have ne_c39_0_r42 : c39_0 ≠ r42 := Nat.ne_of_lt (Nat.lt_of_lt_of_le (Vc39_0.other W40 (Ne.symm ne_a1_c39_0)).lt sr42)
  have ne_c39_1_r42 : c39_1 ≠ r42 := Nat.ne_of_lt (Nat.lt_of_lt_of_le (Vc39_1.other W40 (Ne.symm ne_a1_c39_1)).lt sr42)
  have szrr42 : h0.size ≤ r42 := Nat.le_trans Kp40.1 sr42
  refine oS (fun t k => st42.trans k) ?_
  show oG _ _ _ _ _ _ _ (T42.setTop (mkF m 405 #[.val (.ref a1), .val (.ref a2), .val (.int 2), .val (.int 2), .val (.ref b7), .val (.ref b18), .val (.long x34_r), .second, .val (.ref b18), .val (.int 2), .val (.int 2), .val (.ref c18_1), .val (.ref c18_1), .val (.int 2), .val (.int 2), .val (.long 0), .second, .unset, .unset] [(.ref r42)]))
  try clear st42 X41 e41
  refine oS (fun t k => XS.astore X42.here hx rfl (hb hby d28_405) rfl rfl (l' := #[.val (.ref a1), .val (.ref a2), .val (.int 2), .val (.int 2), .val (.ref b7), .val (.ref b18), .val (.long x34_r), .second, .val (.ref r42), .val (.int 2), .val (.int 2), .val (.ref c18_1), .val (.ref c18_1), .val (.int 2), .val (.int 2), .val (.long 0), .second, .unset, .unset]) rfl k) ?_
  have fz43 := (((((((((((E_a1.wr W6).ext E7).ext E9).wr W10).keep K14).keep K16).ext E18).keep K20).ext E39).wr W40).keep K42)
  have fz44 := ((((((((((Fw6.ext E7).ext E9).other W10 (Or.inr (slot_ne (Or.inr (oW hw 225 rfl)) (Or.inr (oW hw 236 rfl)) (by decide) (t := .int) (t' := (.array (.array (.array .long)))) (by decide) (by decide)))).keep K14 (fun q => ne_a1_c9_0 (List.mem_singleton.mp q))).keep K16 (fun q => ne_a1_c9_1 (List.mem_singleton.mp q))).ext E18).keep K20 List.not_mem_nil).ext E39).other W40 (Or.inr (slot_ne (Or.inr (oW hw 225 rfl)) (Or.inr (oW hw 294 rfl)) (by decide) (t := .int) (t' := (.array (.array .long))) (by decide) (by decide)))).keep K42 List.not_mem_nil)
  have fz45 := (((((((Fw10.keep K14 (fun q => ne_a1_c9_0 (List.mem_singleton.mp q))).keep K16 (fun q => ne_a1_c9_1 (List.mem_singleton.mp q))).ext E18).keep K20 List.not_mem_nil).ext E39).other W40 (Or.inr (slot_ne (Or.inr (oW hw 236 rfl)) (Or.inr (oW hw 294 rfl)) (by decide) (t := (.array (.array (.array .long)))) (t' := (.array (.array .long))) (by decide) (by decide)))).keep K42 List.not_mem_nil)
  have fz46 := (Fw40.keep K42 List.not_mem_nil)
  have fz47 := (((((((((((F_mostCoverChange_a1.other W6 (Or.inr (slot_ne (Or.inr (oW hw 348 rfl)) (Or.inr (oW hw 225 rfl)) (by decide) (t := .long) (t' := .int) (by decide) (by decide)))).ext E7).ext E9).other W10 (Or.inr (slot_ne (Or.inr (oW hw 348 rfl)) (Or.inr (oW hw 236 rfl)) (by decide) (t := .long) (t' := (.array (.array (.array .long)))) (by decide) (by decide)))).keep K14 (fun q => ne_a1_c9_0 (List.mem_singleton.mp q))).keep K16 (fun q => ne_a1_c9_1 (List.mem_singleton.mp q))).ext E18).keep K20 List.not_mem_nil).ext E39).other W40 (Or.inr (slot_ne (Or.inr (oW hw 348 rfl)) (Or.inr (oW hw 294 rfl)) (by decide) (t := .long) (t' := (.array (.array .long))) (by decide) (by decide)))).keep K42 List.not_mem_nil)
  have fz48 := (((((((((((F_mostRequestChange_a1.other W6 (Or.inr (slot_ne (Or.inr (oW hw 350 rfl)) (Or.inr (oW hw 225 rfl)) (by decide) (t := .long) (t' := .int) (by decide) (by decide)))).ext E7).ext E9).other W10 (Or.inr (slot_ne (Or.inr (oW hw 350 rfl)) (Or.inr (oW hw 236 rfl)) (by decide) (t := .long) (t' := (.array (.array (.array .long)))) (by decide) (by decide)))).keep K14 (fun q => ne_a1_c9_0 (List.mem_singleton.mp q))).keep K16 (fun q => ne_a1_c9_1 (List.mem_singleton.mp q))).ext E18).keep K20 List.not_mem_nil).ext E39).other W40 (Or.inr (slot_ne (Or.inr (oW hw 350 rfl)) (Or.inr (oW hw 294 rfl)) (by decide) (t := .long) (t' := (.array (.array .long))) (by decide) (by decide)))).keep K42 List.not_mem_nil)
  have fz49 := (((((((((((E_a2.wr W6).ext E7).ext E9).wr W10).keep K14).keep K16).ext E18).keep K20).ext E39).wr W40).keep K42)
  have fz50 := (((((((((((F_days_a2.other W6 (Or.inl (Ne.symm ne_a1_a2))).ext E7).ext E9).other W10 (Or.inl (Ne.symm ne_a1_a2))).keep K14 (fun q => ne_a2_c9_0 (List.mem_singleton.mp q))).keep K16 (fun q => ne_a2_c9_1 (List.mem_singleton.mp q))).ext E18).keep K20 List.not_mem_nil).ext E39).other W40 (Or.inl (Ne.symm ne_a1_a2))).keep K42 List.not_mem_nil)
  have fz51 := (((((((((((F_shifts_a2.other W6 (Or.inl (Ne.symm ne_a1_a2))).ext E7).ext E9).other W10 (Or.inl (Ne.symm ne_a1_a2))).keep K14 (fun q => ne_a2_c9_0 (List.mem_singleton.mp q))).keep K16 (fun q => ne_a2_c9_1 (List.mem_singleton.mp q))).ext E18).keep K20 List.not_mem_nil).ext E39).other W40 (Or.inl (Ne.symm ne_a1_a2))).keep K42 List.not_mem_nil)
  have fz52 := (((((((((((F_staff_a2.other W6 (Or.inl (Ne.symm ne_a1_a2))).ext E7).ext E9).other W10 (Or.inl (Ne.symm ne_a1_a2))).keep K14 (fun q => ne_a2_c9_0 (List.mem_singleton.mp q))).keep K16 (fun q => ne_a2_c9_1 (List.mem_singleton.mp q))).ext E18).keep K20 List.not_mem_nil).ext E39).other W40 (Or.inl (Ne.symm ne_a1_a2))).keep K42 List.not_mem_nil)
  have fz53 := (((((((((((F_onRequests_a2.other W6 (Or.inl (Ne.symm ne_a1_a2))).ext E7).ext E9).other W10 (Or.inl (Ne.symm ne_a1_a2))).keep K14 (fun q => ne_a2_c9_0 (List.mem_singleton.mp q))).keep K16 (fun q => ne_a2_c9_1 (List.mem_singleton.mp q))).ext E18).keep K20 List.not_mem_nil).ext E39).other W40 (Or.inl (Ne.symm ne_a1_a2))).keep K42 List.not_mem_nil)
  have fz54 := (((((((((((F_offRequests_a2.other W6 (Or.inl (Ne.symm ne_a1_a2))).ext E7).ext E9).other W10 (Or.inl (Ne.symm ne_a1_a2))).keep K14 (fun q => ne_a2_c9_0 (List.mem_singleton.mp q))).keep K16 (fun q => ne_a2_c9_1 (List.mem_singleton.mp q))).ext E18).keep K20 List.not_mem_nil).ext E39).other W40 (Or.inl (Ne.symm ne_a1_a2))).keep K42 List.not_mem_nil)
  have fz55 := (((((((((((F_cover_a2.other W6 (Or.inl (Ne.symm ne_a1_a2))).ext E7).ext E9).other W10 (Or.inl (Ne.symm ne_a1_a2))).keep K14 (fun q => ne_a2_c9_0 (List.mem_singleton.mp q))).keep K16 (fun q => ne_a2_c9_1 (List.mem_singleton.mp q))).ext E18).keep K20 List.not_mem_nil).ext E39).other W40 (Or.inl (Ne.symm ne_a1_a2))).keep K42 List.not_mem_nil)
  have fz56 := (((((((((((E_z2.wr W6).ext E7).ext E9).wr W10).keep K14).keep K16).ext E18).keep K20).ext E39).wr W40).keep K42)
  have fz57 := (((((((((((F_e1_z2.other W6 (Or.inl (Ne.symm ne_a1_z2))).ext E7).ext E9).other W10 (Or.inl (Ne.symm ne_a1_z2))).keep K14 (fun q => ne_z2_c9_0 (List.mem_singleton.mp q))).keep K16 (fun q => ne_z2_c9_1 (List.mem_singleton.mp q))).ext E18).keep K20 List.not_mem_nil).ext E39).other W40 (Or.inl (Ne.symm ne_a1_z2))).keep K42 List.not_mem_nil)
  have fz58 := (((((((((((E_v2.wr W6).ext E7).ext E9).wr W10).keep K14).keep K16).ext E18).keep K20).ext E39).wr W40).keep K42)
  have fz59 := (((((((((((E_z3.wr W6).ext E7).ext E9).wr W10).keep K14).keep K16).ext E18).keep K20).ext E39).wr W40).keep K42)
  have fz60 := (((((((((((F_e1_z3.other W6 (Or.inl (Ne.symm ne_a1_z3))).ext E7).ext E9).other W10 (Or.inl (Ne.symm ne_a1_z3))).keep K14 (fun q => ne_z3_c9_0 (List.mem_singleton.mp q))).keep K16 (fun q => ne_z3_c9_1 (List.mem_singleton.mp q))).ext E18).keep K20 List.not_mem_nil).ext E39).other W40 (Or.inl (Ne.symm ne_a1_z3))).keep K42 List.not_mem_nil)
  have fz61 := (((((((((((E_v3.wr W6).ext E7).ext E9).wr W10).keep K14).keep K16).ext E18).keep K20).ext E39).wr W40).keep K42)
  have fz62 := (((((((((((E_z4.wr W6).ext E7).ext E9).wr W10).keep K14).keep K16).ext E18).keep K20).ext E39).wr W40).keep K42)
  have fz63 := (((((((((((F_e0_z4.other W6 (Or.inl (Ne.symm ne_a1_z4))).ext E7).ext E9).other W10 (Or.inl (Ne.symm ne_a1_z4))).keep K14 (fun q => ne_z4_c9_0 (List.mem_singleton.mp q))).keep K16 (fun q => ne_z4_c9_1 (List.mem_singleton.mp q))).ext E18).keep K20 List.not_mem_nil).ext E39).other W40 (Or.inl (Ne.symm ne_a1_z4))).keep K42 List.not_mem_nil)
  have fz64 := (((((((((((F_e1_z4.other W6 (Or.inl (Ne.symm ne_a1_z4))).ext E7).ext E9).other W10 (Or.inl (Ne.symm ne_a1_z4))).keep K14 (fun q => ne_z4_c9_0 (List.mem_singleton.mp q))).keep K16 (fun q => ne_z4_c9_1 (List.mem_singleton.mp q))).ext E18).keep K20 List.not_mem_nil).ext E39).other W40 (Or.inl (Ne.symm ne_a1_z4))).keep K42 List.not_mem_nil)
  have fz65 := (((((((((((E_z5.wr W6).ext E7).ext E9).wr W10).keep K14).keep K16).ext E18).keep K20).ext E39).wr W40).keep K42)
  have fz66 := (((((((((((F_e0_z5.other W6 (Or.inl (Ne.symm ne_a1_z5))).ext E7).ext E9).other W10 (Or.inl (Ne.symm ne_a1_z5))).keep K14 (fun q => ne_z5_c9_0 (List.mem_singleton.mp q))).keep K16 (fun q => ne_z5_c9_1 (List.mem_singleton.mp q))).ext E18).keep K20 List.not_mem_nil).ext E39).other W40 (Or.inl (Ne.symm ne_a1_z5))).keep K42 List.not_mem_nil)
  have fz67 := (((((((((((F_e1_z5.other W6 (Or.inl (Ne.symm ne_a1_z5))).ext E7).ext E9).other W10 (Or.inl (Ne.symm ne_a1_z5))).keep K14 (fun q => ne_z5_c9_0 (List.mem_singleton.mp q))).keep K16 (fun q => ne_z5_c9_1 (List.mem_singleton.mp q))).ext E18).keep K20 List.not_mem_nil).ext E39).other W40 (Or.inl (Ne.symm ne_a1_z5))).keep K42 List.not_mem_nil)
  have fz68 := (((((((((((E_u4.wr W6).ext E7).ext E9).wr W10).keep K14).keep K16).ext E18).keep K20).ext E39).wr W40).keep K42)
  have fz69 := (((((((((((E_u5.wr W6).ext E7).ext E9).wr W10).keep K14).keep K16).ext E18).keep K20).ext E39).wr W40).keep K42)
  have fz70 := (((((((((((F_staff_u4.other W6 (Or.inl (Ne.symm ne_a1_u4))).ext E7).ext E9).other W10 (Or.inl (Ne.symm ne_a1_u4))).keep K14 (fun q => ne_u4_c9_0 (List.mem_singleton.mp q))).keep K16 (fun q => ne_u4_c9_1 (List.mem_singleton.mp q))).ext E18).keep K20 List.not_mem_nil).ext E39).other W40 (Or.inl (Ne.symm ne_a1_u4))).keep K42 List.not_mem_nil)
  have fz71 := (((((((((((F_day_u4.other W6 (Or.inl (Ne.symm ne_a1_u4))).ext E7).ext E9).other W10 (Or.inl (Ne.symm ne_a1_u4))).keep K14 (fun q => ne_u4_c9_0 (List.mem_singleton.mp q))).keep K16 (fun q => ne_u4_c9_1 (List.mem_singleton.mp q))).ext E18).keep K20 List.not_mem_nil).ext E39).other W40 (Or.inl (Ne.symm ne_a1_u4))).keep K42 List.not_mem_nil)
  have fz72 := (((((((((((F_shift_u4.other W6 (Or.inl (Ne.symm ne_a1_u4))).ext E7).ext E9).other W10 (Or.inl (Ne.symm ne_a1_u4))).keep K14 (fun q => ne_u4_c9_0 (List.mem_singleton.mp q))).keep K16 (fun q => ne_u4_c9_1 (List.mem_singleton.mp q))).ext E18).keep K20 List.not_mem_nil).ext E39).other W40 (Or.inl (Ne.symm ne_a1_u4))).keep K42 List.not_mem_nil)
  have fz73 := (((((((((((F_weight_u4.other W6 (Or.inl (Ne.symm ne_a1_u4))).ext E7).ext E9).other W10 (Or.inl (Ne.symm ne_a1_u4))).keep K14 (fun q => ne_u4_c9_0 (List.mem_singleton.mp q))).keep K16 (fun q => ne_u4_c9_1 (List.mem_singleton.mp q))).ext E18).keep K20 List.not_mem_nil).ext E39).other W40 (Or.inl (Ne.symm ne_a1_u4))).keep K42 List.not_mem_nil)
  have fz74 := (((((((((((F_staff_u5.other W6 (Or.inl (Ne.symm ne_a1_u5))).ext E7).ext E9).other W10 (Or.inl (Ne.symm ne_a1_u5))).keep K14 (fun q => ne_u5_c9_0 (List.mem_singleton.mp q))).keep K16 (fun q => ne_u5_c9_1 (List.mem_singleton.mp q))).ext E18).keep K20 List.not_mem_nil).ext E39).other W40 (Or.inl (Ne.symm ne_a1_u5))).keep K42 List.not_mem_nil)
  have fz75 := (((((((((((F_day_u5.other W6 (Or.inl (Ne.symm ne_a1_u5))).ext E7).ext E9).other W10 (Or.inl (Ne.symm ne_a1_u5))).keep K14 (fun q => ne_u5_c9_0 (List.mem_singleton.mp q))).keep K16 (fun q => ne_u5_c9_1 (List.mem_singleton.mp q))).ext E18).keep K20 List.not_mem_nil).ext E39).other W40 (Or.inl (Ne.symm ne_a1_u5))).keep K42 List.not_mem_nil)
  have fz76 := (((((((((((F_shift_u5.other W6 (Or.inl (Ne.symm ne_a1_u5))).ext E7).ext E9).other W10 (Or.inl (Ne.symm ne_a1_u5))).keep K14 (fun q => ne_u5_c9_0 (List.mem_singleton.mp q))).keep K16 (fun q => ne_u5_c9_1 (List.mem_singleton.mp q))).ext E18).keep K20 List.not_mem_nil).ext E39).other W40 (Or.inl (Ne.symm ne_a1_u5))).keep K42 List.not_mem_nil)
  have fz77 := (((((((((((F_weight_u5.other W6 (Or.inl (Ne.symm ne_a1_u5))).ext E7).ext E9).other W10 (Or.inl (Ne.symm ne_a1_u5))).keep K14 (fun q => ne_u5_c9_0 (List.mem_singleton.mp q))).keep K16 (fun q => ne_u5_c9_1 (List.mem_singleton.mp q))).ext E18).keep K20 List.not_mem_nil).ext E39).other W40 (Or.inl (Ne.symm ne_a1_u5))).keep K42 List.not_mem_nil)
  have fz78 := (((((((((V7.ext E9).other W10 (Ne.symm ne_a1_b7)).keep K14 (fun q => ne_b7_c9_0 (List.mem_singleton.mp q))).keep K16 (fun q => ne_b7_c9_1 (List.mem_singleton.mp q))).ext E18).keep K20 List.not_mem_nil).ext E39).other W40 (Ne.symm ne_a1_b7)).keep K42 List.not_mem_nil)
  have fz79 := (((((((((Ex7.ext E9).wr W10).keep K14).keep K16).ext E18).keep K20).ext E39).wr W40).keep K42)
  have fz80 := ((((((((Vg9.other W10 (Ne.symm ne_a1_b9)).keep K14 (fun q => ne_b9_c9_0 (List.mem_singleton.mp q))).keep K16 (fun q => ne_b9_c9_1 (List.mem_singleton.mp q))).ext E18).keep K20 List.not_mem_nil).ext E39).other W40 (Ne.symm ne_a1_b9)).keep K42 List.not_mem_nil)
  have fz81 := ((((((((Ex9.wr W10).keep K14).keep K16).ext E18).keep K20).ext E39).wr W40).keep K42)
  have fz82 := ((((((((Exc9_0.wr W10).keep K14).keep K16).ext E18).keep K20).ext E39).wr W40).keep K42)
  have fz83 := ((((((((Exc9_1.wr W10).keep K14).keep K16).ext E18).keep K20).ext E39).wr W40).keep K42)
  have fz84 := ((((((P14_0.keep K16 (fun q => ne_c9_0_c9_1 (List.mem_singleton.mp q))).ext E18).keep K20 List.not_mem_nil).ext E39).other W40 (Ne.symm ne_a1_c9_0)).keep K42 List.not_mem_nil)
  have fz85 := (((((P16_0.ext E18).keep K20 List.not_mem_nil).ext E39).other W40 (Ne.symm ne_a1_c9_1)).keep K42 List.not_mem_nil)
  have fz86 := ((((Vg18.keep K20 List.not_mem_nil).ext E39).other W40 (Ne.symm ne_a1_b18)).keep K42 List.not_mem_nil)
  have fz87 := ((((Ex18.keep K20).ext E39).wr W40).keep K42)
  have fz88 := ((((Vc18_0.keep K20 List.not_mem_nil).ext E39).other W40 (Ne.symm ne_a1_c18_0)).keep K42 List.not_mem_nil)
  have fz89 := ((((Exc18_0.keep K20).ext E39).wr W40).keep K42)
  have fz90 := ((((Vc18_1.keep K20 List.not_mem_nil).ext E39).other W40 (Ne.symm ne_a1_c18_1)).keep K42 List.not_mem_nil)
  have fz91 := ((((Exc18_1.keep K20).ext E39).wr W40).keep K42)
  have fz92 := (((P20_0.ext E39).wr W40).keep K42)
  have fz93 := (((P20_1.ext E39).other W40 (Or.inl (Ne.symm ne_a1_r20))).keep K42 List.not_mem_nil)
  have fz94 := (((P20_2.ext E39).other W40 (Or.inl (Ne.symm ne_a1_r20))).keep K42 List.not_mem_nil)
  have fz95 := (((P20_3.ext E39).other W40 (Or.inl (Ne.symm ne_a1_r20))).keep K42 List.not_mem_nil)
  have fz96 := ((Vg39.other W40 (Ne.symm ne_a1_b39)).keep K42 List.not_mem_nil)
  have fz97 := ((Ex39.wr W40).keep K42)
  have fz98 := ((Vc39_0.other W40 (Ne.symm ne_a1_c39_0)).keep K42 List.not_mem_nil)
  have fz99 := ((Exc39_0.wr W40).keep K42)
  have fz100 := ((Vc39_1.other W40 (Ne.symm ne_a1_c39_1)).keep K42 List.not_mem_nil)
  have fz101 := ((Exc39_1.wr W40).keep K42)
  have Af102 : own_Arf Z T42.heap c39_0 kr39 (6 : Int32) (fun _ => (0 : Int64)) := own_Arf.of fz98 (own_rep (.long 0))
  have Af103 : own_Arf Z T42.heap c39_1 kr39 (6 : Int32) (own_hi (fun _ => (0 : Int64))) := own_Arf.of fz100 (own_rep (.long 0))
  refine oS (fun t k => XS.aload X42.here hx rfl (hb hby d28_407) rfl rfl k) ?_
  obtain ⟨cq104, kq104, q104a, q104b, q104c⟩ := isOf hZ rfl P42_0
  obtain ⟨_, _, ⟨T104, L104, k104, n104⟩, -, X104, ⟨Lc104, hQ104, l104, y104, z104⟩, st104⟩ := X42.interfaceBack hx (xi := mY51) (y := mY44) hown (oM hZ hw 281 rfl) (oM hZ hw 282 rfl) (oM hZ hw 283 rfl) (oM hZ hw 284 rfl) (oM hZ hw 285 rfl) (oM hZ hw 286 rfl) (oM hZ hw 287 rfl) (oM hZ hw 288 rfl) (by decide) (backOf (W := 0) (rm_hn01 l Z a0 hw [] r42  T42.heap n0 O42  P42_2 P42_3) hZ (oW hw 289 rfl) (oW hw 258 rfl) (by decide) (by decide)) q104a q104b q104c (g := (mkF m 409 #[.val (.ref a1), .val (.ref a2), .val (.int 2), .val (.int 2), .val (.ref b7), .val (.ref b18), .val (.long x34_r), .second, .val (.ref r42), .val (.int 2), .val (.int 2), .val (.ref c18_1), .val (.ref c18_1), .val (.int 2), .val (.int 2), .val (.long 0), .second, .unset, .unset] [(.ref r42)])) rfl (by rw [hml]; rfl) (Steps.refl _) (argsL := []) (rest := []) (lenOf pd_9 rfl) rfl (by show 2 * 0 + _ ≤ _; exact Nat.le_of_eq rfl) (hb hby d28_409) (fun _ _ => ⟨rfl, rfl, (by decide : 12 + 0 ≤ _), (by decide : 37 + 0 ≤ _)⟩)
  dsimp only [Pt.U, Pt.locs, Pt.cells, Pt.slots] at X104 l104 y104 z104 st104 hQ104
  rw [l104, y104, z104] at X104
  clear l104 y104 z104
  obtain ⟨rfl, Nq104, e104⟩ := hQ104
  have N104 := Fr.app N42 Nq104
  refine oS (fun t k => st104.trans k) ?_
  show oG _ _ _ _ _ _ _ (T104.setTop (mkF m 414 #[.val (.ref a1), .val (.ref a2), .val (.int 2), .val (.int 2), .val (.ref b7), .val (.ref b18), .val (.long x34_r), .second, .val (.ref r42), .val (.int 2), .val (.int 2), .val (.ref c18_1), .val (.ref c18_1), .val (.int 2), .val (.int 2), .val (.long 0), .second, .unset, .unset] [(.int 1)]))
  try clear st104 X42 e42
  refine oS (fun t k => XS.ifNo X104.here hx rfl (hb hby d28_414) rfl ((if0 _ _).trans (feq (by decide)).1) k) ?_
  refine oS (fun t k => XS.aload X104.here hx rfl (hb hby d28_417) rfl rfl k) ?_
  obtain ⟨cq105, kq105, q105a, q105b, q105c⟩ := isOf hZ e104 P42_0
  obtain ⟨_, _, ⟨T105, L105, k105, n105⟩, -, X105, ⟨Lc105, hQ105, l105, y105, z105⟩, st105⟩ := X104.interfaceBack hx (xi := mY52) (y := mY46) hown (oM hZ hw 303 rfl) (oM hZ hw 304 rfl) (oM hZ hw 305 rfl) (oM hZ hw 306 rfl) (oM hZ hw 307 rfl) (oM hZ hw 308 rfl) (oM hZ hw 309 rfl) (oM hZ hw 288 rfl) (by decide) (backOfWith (W := 0) (rm_next l Z a0 hw [] r42 z4 u4 w T42.heap n0 O42 W P42_0 gr42 P42_1 P42_2 P42_3 fz62 fz63) hZ (oW hw 310 rfl) (oW hw 258 rfl) (by decide) (by decide)) q105a q105b q105c (g := (mkF m 419 #[.val (.ref a1), .val (.ref a2), .val (.int 2), .val (.int 2), .val (.ref b7), .val (.ref b18), .val (.long x34_r), .second, .val (.ref r42), .val (.int 2), .val (.int 2), .val (.ref c18_1), .val (.ref c18_1), .val (.int 2), .val (.int 2), .val (.long 0), .second, .unset, .unset] [(.ref r42)])) rfl (by rw [hml]; rfl) (Steps.refl _) (argsL := []) (rest := []) (lenOf pd_20 rfl) rfl (by show 2 * 0 + _ ≤ _; exact Nat.le_of_eq rfl) (hb hby d28_419) (fun _ _ => ⟨rfl, e104, (by decide : 12 + 0 ≤ _), (by decide : 37 + 0 ≤ _)⟩)
  dsimp only [Pt.U, Pt.locs, Pt.cells, Pt.slots] at X105 l105 y105 z105 st105 hQ105
  rw [l105, y105, z105] at X105
  clear l105 y105 z105
  obtain ⟨rfl, Nq105, K105, P105_0, P105_1, P105_2⟩ := hQ105
  have N105 := Fr.app N104 Nq105
  have O105 := O42.keep K105 (allS gr42 all0)
  have Kp105 : Keep h0 T105.heap [a1] := Kp42.trans K105 (allS (Or.inr szrr42) all0)
  refine oS (fun t k => st105.trans k) ?_
  show oG _ _ _ _ _ _ _ (T105.setTop (mkF m 424 #[.val (.ref a1), .val (.ref a2), .val (.int 2), .val (.int 2), .val (.ref b7), .val (.ref b18), .val (.long x34_r), .second, .val (.ref r42), .val (.int 2), .val (.int 2), .val (.ref c18_1), .val (.ref c18_1), .val (.int 2), .val (.int 2), .val (.long 0), .second, .unset, .unset] [(.ref u4)]))
  try clear st105 X104 e104
  obtain ⟨T106, X106, e106, st106⟩ := castY X105 hx hZ hown (oW hw 319 rfl) rfl (Ins.self (fz68.keep K105)) (g := (mkF m 424 #[.val (.ref a1), .val (.ref a2), .val (.int 2), .val (.int 2), .val (.ref b7), .val (.ref b18), .val (.long x34_r), .second, .val (.ref r42), .val (.int 2), .val (.int 2), .val (.ref c18_1), .val (.ref c18_1), .val (.int 2), .val (.int 2), .val (.long 0), .second, .unset, .unset] [(.ref u4)])) rfl rfl (hb hby d28_424)
  refine oS (fun t k => st106 t k) ?_
  try clear st106 X105 e105
  refine oS (fun t k => XS.astore X106.here hx rfl (hb hby d28_427) rfl rfl (l' := #[.val (.ref a1), .val (.ref a2), .val (.int 2), .val (.int 2), .val (.ref b7), .val (.ref b18), .val (.long x34_r), .second, .val (.ref r42), .val (.ref u4), .val (.int 2), .val (.ref c18_1), .val (.ref c18_1), .val (.int 2), .val (.int 2), .val (.long 0), .second, .unset, .unset]) rfl k) ?_
  refine oS (fun t k => oIc li_0 X106.here hx rfl (hb hby d28_429) k) ?_
  refine oS (fun t k => XS.istore X106.here hx rfl (hb hby d28_430) rfl (l' := #[.val (.ref a1), .val (.ref a2), .val (.int 2), .val (.int 2), .val (.ref b7), .val (.ref b18), .val (.long x34_r), .second, .val (.ref r42), .val (.ref u4), .val (.int 0), .val (.ref c18_1), .val (.ref c18_1), .val (.int 2), .val (.int 2), .val (.long 0), .second, .unset, .unset]) rfl k) ?_
  show oG _ _ _ _ _ _ _ (T106.setTop (mkF m 432 #[.val (.ref a1), .val (.ref a2), .val (.int 2), .val (.int 2), .val (.ref b7), .val (.ref b18), .val (.long x34_r), .second, .val (.ref r42), .val (.ref u4), .val (.int 0), .val (.ref c18_1), .val (.ref c18_1), .val (.int 2), .val (.int 2), .val (.long 0), .second, .unset, .unset] []))
  refine pc_on l Z a0 hw w W hx hby hml hZ hown _ _ T105.heap n0 a1 u4 b39 c39_0 c39_1 k39 kr39 (fun _ => (0 : Int64)) i1 i2 i3 i4 (0 : Int32) (1 : Int32) _ _ _ _ _ _ _ _ _ _ _ _ _ _ _ _ X106 e106 N105 O105 (fz44.keep K105 (fun q => ne_a1_r42 (List.mem_singleton.mp q))) (fz46.keep K105 (fun q => ne_a1_r42 (List.mem_singleton.mp q))) (fz96.keep K105 (fun q => ne_b39_r42 (List.mem_singleton.mp q))) (Af102.keep K105 (fun q => ne_c39_0_r42 (List.mem_singleton.mp q))) (Af103.keep K105 (fun q => ne_c39_1_r42 (List.mem_singleton.mp q))) (fz68.keep K105) (fz70.keep K105 (fun q => ne_u4_r42 (List.mem_singleton.mp q))) (fz71.keep K105 (fun q => ne_u4_r42 (List.mem_singleton.mp q))) (fz72.keep K105 (fun q => ne_u4_r42 (List.mem_singleton.mp q))) (fz73.keep K105 (fun q => ne_u4_r42 (List.mem_singleton.mp q))) gxc39_0 gxc39_1 ne_c39_0_c39_1 hi1 hi2 (by decide) (by decide) (by decide) ?_
  intro T107 L107 h107 G107 X107 e107 N107 K107 Pj107_0 Pj107_1 Pj107_2
  have O107 := O105.keep K107 (allS gxc39_0 (allS gxc39_1 all0))
  have Kp107 : Keep h0 h107 [a1] := Kp105.trans K107 (allS (Or.inr szc39_0) (allS (Or.inr szc39_1) all0))
  show oG _ _ _ _ _ _ _ (T107.setTop (mkF m 432 #[.val (.ref a1), .val (.ref a2), .val (.int 2), .val (.int 2), .val (.ref b7), .val (.ref b18), .val (.long x34_r), .second, .val (.ref r42), .val (.ref u4), .val (.int 1), .val (.ref c18_1), .val (.ref c18_1), .val (.int 2), .val (.int 2), .val (.long 0), .second, .unset, .unset] []))
  try clear X106 e106
  show oG _ _ _ _ _ _ _ (T107.setTop (mkF m 432 #[.val (.ref a1), .val (.ref a2), .val (.int 2), .val (.int 2), .val (.ref b7), .val (.ref b18), .val (.long x34_r), .second, .val (.ref r42), .val (.ref u4), .val (.int 1), .val (.ref c18_1), .val (.ref c18_1), .val (.int 2), .val (.int 2), .val (.long 0), .second, .unset, .unset] []))
  refine pc_on l Z a0 hw w W hx hby hml hZ hown _ _ h107 n0 a1 u4 b39 c39_0 c39_1 k39 kr39 G107 i1 i2 i3 i4 (1 : Int32) (2 : Int32) _ _ _ _ _ _ _ _ _ _ _ _ _ _ _ _ X107 e107 N107 O107 ((fz44.keep K105 (fun q => ne_a1_r42 (List.mem_singleton.mp q))).keep K107 (fun q0 => (List.mem_cons.mp q0).elim ne_a1_c39_0 (fun q2 => ne_a1_c39_1 (List.mem_singleton.mp q2)))) ((fz46.keep K105 (fun q => ne_a1_r42 (List.mem_singleton.mp q))).keep K107 (fun q0 => (List.mem_cons.mp q0).elim ne_a1_c39_0 (fun q2 => ne_a1_c39_1 (List.mem_singleton.mp q2)))) ((fz96.keep K105 (fun q => ne_b39_r42 (List.mem_singleton.mp q))).keep K107 (fun q0 => (List.mem_cons.mp q0).elim ne_b39_c39_0 (fun q2 => ne_b39_c39_1 (List.mem_singleton.mp q2)))) Pj107_1 Pj107_2 ((fz68.keep K105).keep K107) ((fz70.keep K105 (fun q => ne_u4_r42 (List.mem_singleton.mp q))).keep K107 (fun q0 => (List.mem_cons.mp q0).elim ne_u4_c39_0 (fun q2 => ne_u4_c39_1 (List.mem_singleton.mp q2)))) ((fz71.keep K105 (fun q => ne_u4_r42 (List.mem_singleton.mp q))).keep K107 (fun q0 => (List.mem_cons.mp q0).elim ne_u4_c39_0 (fun q2 => ne_u4_c39_1 (List.mem_singleton.mp q2)))) ((fz72.keep K105 (fun q => ne_u4_r42 (List.mem_singleton.mp q))).keep K107 (fun q0 => (List.mem_cons.mp q0).elim ne_u4_c39_0 (fun q2 => ne_u4_c39_1 (List.mem_singleton.mp q2)))) ((fz73.keep K105 (fun q => ne_u4_r42 (List.mem_singleton.mp q))).keep K107 (fun q0 => (List.mem_cons.mp q0).elim ne_u4_c39_0 (fun q2 => ne_u4_c39_1 (List.mem_singleton.mp q2)))) gxc39_0 gxc39_1 ne_c39_0_c39_1 hi1 hi2 (by decide) (by decide) (by decide) ?_
  intro T108 L108 h108 G108 X108 e108 N108 K108 Pj108_0 Pj108_1 Pj108_2
  have O108 := O107.keep K108 (allS gxc39_0 (allS gxc39_1 all0))
  have Kp108 : Keep h0 h108 [a1] := Kp107.trans K108 (allS (Or.inr szc39_0) (allS (Or.inr szc39_1) all0))
  show oG _ _ _ _ _ _ _ (T108.setTop (mkF m 432 #[.val (.ref a1), .val (.ref a2), .val (.int 2), .val (.int 2), .val (.ref b7), .val (.ref b18), .val (.long x34_r), .second, .val (.ref r42), .val (.ref u4), .val (.int 2), .val (.ref c18_1), .val (.ref c18_1), .val (.int 2), .val (.int 2), .val (.long 0), .second, .unset, .unset] []))
  try clear X107 e107
  show oG _ _ _ _ _ _ _ (T108.setTop (mkF m 432 #[.val (.ref a1), .val (.ref a2), .val (.int 2), .val (.int 2), .val (.ref b7), .val (.ref b18), .val (.long x34_r), .second, .val (.ref r42), .val (.ref u4), .val (.int 2), .val (.ref c18_1), .val (.ref c18_1), .val (.int 2), .val (.int 2), .val (.long 0), .second, .unset, .unset] []))
  refine pc_on l Z a0 hw w W hx hby hml hZ hown _ _ h108 n0 a1 u4 b39 c39_0 c39_1 k39 kr39 G108 i1 i2 i3 i4 (2 : Int32) (3 : Int32) _ _ _ _ _ _ _ _ _ _ _ _ _ _ _ _ X108 e108 N108 O108 (((fz44.keep K105 (fun q => ne_a1_r42 (List.mem_singleton.mp q))).keep K107 (fun q0 => (List.mem_cons.mp q0).elim ne_a1_c39_0 (fun q2 => ne_a1_c39_1 (List.mem_singleton.mp q2)))).keep K108 (fun q0 => (List.mem_cons.mp q0).elim ne_a1_c39_0 (fun q2 => ne_a1_c39_1 (List.mem_singleton.mp q2)))) (((fz46.keep K105 (fun q => ne_a1_r42 (List.mem_singleton.mp q))).keep K107 (fun q0 => (List.mem_cons.mp q0).elim ne_a1_c39_0 (fun q2 => ne_a1_c39_1 (List.mem_singleton.mp q2)))).keep K108 (fun q0 => (List.mem_cons.mp q0).elim ne_a1_c39_0 (fun q2 => ne_a1_c39_1 (List.mem_singleton.mp q2)))) (((fz96.keep K105 (fun q => ne_b39_r42 (List.mem_singleton.mp q))).keep K107 (fun q0 => (List.mem_cons.mp q0).elim ne_b39_c39_0 (fun q2 => ne_b39_c39_1 (List.mem_singleton.mp q2)))).keep K108 (fun q0 => (List.mem_cons.mp q0).elim ne_b39_c39_0 (fun q2 => ne_b39_c39_1 (List.mem_singleton.mp q2)))) Pj108_1 Pj108_2 (((fz68.keep K105).keep K107).keep K108) (((fz70.keep K105 (fun q => ne_u4_r42 (List.mem_singleton.mp q))).keep K107 (fun q0 => (List.mem_cons.mp q0).elim ne_u4_c39_0 (fun q2 => ne_u4_c39_1 (List.mem_singleton.mp q2)))).keep K108 (fun q0 => (List.mem_cons.mp q0).elim ne_u4_c39_0 (fun q2 => ne_u4_c39_1 (List.mem_singleton.mp q2)))) (((fz71.keep K105 (fun q => ne_u4_r42 (List.mem_singleton.mp q))).keep K107 (fun q0 => (List.mem_cons.mp q0).elim ne_u4_c39_0 (fun q2 => ne_u4_c39_1 (List.mem_singleton.mp q2)))).keep K108 (fun q0 => (List.mem_cons.mp q0).elim ne_u4_c39_0 (fun q2 => ne_u4_c39_1 (List.mem_singleton.mp q2)))) (((fz72.keep K105 (fun q => ne_u4_r42 (List.mem_singleton.mp q))).keep K107 (fun q0 => (List.mem_cons.mp q0).elim ne_u4_c39_0 (fun q2 => ne_u4_c39_1 (List.mem_singleton.mp q2)))).keep K108 (fun q0 => (List.mem_cons.mp q0).elim ne_u4_c39_0 (fun q2 => ne_u4_c39_1 (List.mem_singleton.mp q2)))) (((fz73.keep K105 (fun q => ne_u4_r42 (List.mem_singleton.mp q))).keep K107 (fun q0 => (List.mem_cons.mp q0).elim ne_u4_c39_0 (fun q2 => ne_u4_c39_1 (List.mem_singleton.mp q2)))).keep K108 (fun q0 => (List.mem_cons.mp q0).elim ne_u4_c39_0 (fun q2 => ne_u4_c39_1 (List.mem_singleton.mp q2)))) gxc39_0 gxc39_1 ne_c39_0_c39_1 hi1 hi2 (by decide) (by decide) (by decide) ?_
  intro T109 L109 h109 G109 X109 e109 N109 K109 Pj109_0 Pj109_1 Pj109_2
  have O109 := O108.keep K109 (allS gxc39_0 (allS gxc39_1 all0))
  have Kp109 : Keep h0 h109 [a1] := Kp108.trans K109 (allS (Or.inr szc39_0) (allS (Or.inr szc39_1) all0))
  show oG _ _ _ _ _ _ _ (T109.setTop (mkF m 432 #[.val (.ref a1), .val (.ref a2), .val (.int 2), .val (.int 2), .val (.ref b7), .val (.ref b18), .val (.long x34_r), .second, .val (.ref r42), .val (.ref u4), .val (.int 3), .val (.ref c18_1), .val (.ref c18_1), .val (.int 2), .val (.int 2), .val (.long 0), .second, .unset, .unset] []))
  try clear X108 e108
  refine oS (fun t k => XS.iload X109.here hx rfl (hb hby d28_432) rfl k) ?_
  refine oS (fun t k => XS.aloadN X109.here hx rfl (hb hby d28_434) rfl rfl k) ?_
  obtain ⟨T110, X110, e110, st110⟩ := getF X109 hx hZ hown (host := "") (Or.inl (oW hw 224 rfl)) Via.refl e109 ((((fz44.keep K105 (fun q => ne_a1_r42 (List.mem_singleton.mp q))).keep K107 (fun q0 => (List.mem_cons.mp q0).elim ne_a1_c39_0 (fun q2 => ne_a1_c39_1 (List.mem_singleton.mp q2)))).keep K108 (fun q0 => (List.mem_cons.mp q0).elim ne_a1_c39_0 (fun q2 => ne_a1_c39_1 (List.mem_singleton.mp q2)))).keep K109 (fun q0 => (List.mem_cons.mp q0).elim ne_a1_c39_0 (fun q2 => ne_a1_c39_1 (List.mem_singleton.mp q2)))) (g := (mkF m 435 #[.val (.ref a1), .val (.ref a2), .val (.int 2), .val (.int 2), .val (.ref b7), .val (.ref b18), .val (.long x34_r), .second, .val (.ref r42), .val (.ref u4), .val (.int 3), .val (.ref c18_1), .val (.ref c18_1), .val (.int 2), .val (.int 2), .val (.long 0), .second, .unset, .unset] [(.ref a1), (.int 3)])) rfl rfl (hb hby d28_435)
  refine oS (fun t k => st110 t k) ?_
  show oG _ _ _ _ _ _ _ (T110.setTop (mkF m 438 #[.val (.ref a1), .val (.ref a2), .val (.int 2), .val (.int 2), .val (.ref b7), .val (.ref b18), .val (.long x34_r), .second, .val (.ref r42), .val (.ref u4), .val (.int 3), .val (.ref c18_1), .val (.ref c18_1), .val (.int 2), .val (.int 2), .val (.long 0), .second, .unset, .unset] [(.int 3), (.int 3)]))
  try clear st110 X109 e109
  try clear T109
  refine oS (fun t k => XS.icmpYes X110.here hx rfl (pc0 := 438) (pc' := 492) rfl (hb hby d28_438) rfl (flt (by decide)).2.1 (by decide) (by decide) k) ?_
  refine oS (fun t k => XS.goto X110.here hx rfl (pc0 := 492) (pc' := 407) rfl (hb hby d28_492) (by decide) (by decide) k) ?_
  refine oS (fun t k => XS.aload X110.here hx rfl (hb hby d28_407) rfl rfl k) ?_
  obtain ⟨cq111, kq111, q111a, q111b, q111c⟩ := isOf hZ e110 ((((P42_0.keep K105).keep K107).keep K108).keep K109)
  obtain ⟨_, _, ⟨T111, L111, k111, n111⟩, -, X111, ⟨Lc111, hQ111, l111, y111, z111⟩, st111⟩ := X110.interfaceBack hx (xi := mY51) (y := mY44) hown (oM hZ hw 281 rfl) (oM hZ hw 282 rfl) (oM hZ hw 283 rfl) (oM hZ hw 284 rfl) (oM hZ hw 285 rfl) (oM hZ hw 286 rfl) (oM hZ hw 287 rfl) (oM hZ hw 288 rfl) (by decide) (backOf (W := 0) (rm_hn11 l Z a0 hw [] r42  h109 n0 O109  (((P105_1.keep K107 (fun q0 => (List.mem_cons.mp q0).elim (Ne.symm ne_c39_0_r42) (fun q2 => (Ne.symm ne_c39_1_r42) (List.mem_singleton.mp q2)))).keep K108 (fun q0 => (List.mem_cons.mp q0).elim (Ne.symm ne_c39_0_r42) (fun q2 => (Ne.symm ne_c39_1_r42) (List.mem_singleton.mp q2)))).keep K109 (fun q0 => (List.mem_cons.mp q0).elim (Ne.symm ne_c39_0_r42) (fun q2 => (Ne.symm ne_c39_1_r42) (List.mem_singleton.mp q2)))) (((P105_2.keep K107 (fun q0 => (List.mem_cons.mp q0).elim (Ne.symm ne_c39_0_r42) (fun q2 => (Ne.symm ne_c39_1_r42) (List.mem_singleton.mp q2)))).keep K108 (fun q0 => (List.mem_cons.mp q0).elim (Ne.symm ne_c39_0_r42) (fun q2 => (Ne.symm ne_c39_1_r42) (List.mem_singleton.mp q2)))).keep K109 (fun q0 => (List.mem_cons.mp q0).elim (Ne.symm ne_c39_0_r42) (fun q2 => (Ne.symm ne_c39_1_r42) (List.mem_singleton.mp q2))))) hZ (oW hw 289 rfl) (oW hw 258 rfl) (by decide) (by decide)) q111a q111b q111c (g := (mkF m 409 #[.val (.ref a1), .val (.ref a2), .val (.int 2), .val (.int 2), .val (.ref b7), .val (.ref b18), .val (.long x34_r), .second, .val (.ref r42), .val (.ref u4), .val (.int 3), .val (.ref c18_1), .val (.ref c18_1), .val (.int 2), .val (.int 2), .val (.long 0), .second, .unset, .unset] [(.ref r42)])) rfl (by rw [hml]; rfl) (Steps.refl _) (argsL := []) (rest := []) (lenOf pd_9 rfl) rfl (by show 2 * 0 + _ ≤ _; exact Nat.le_of_eq rfl) (hb hby d28_409) (fun _ _ => ⟨rfl, e110, (by decide : 12 + 0 ≤ _), (by decide : 37 + 0 ≤ _)⟩)
  dsimp only [Pt.U, Pt.locs, Pt.cells, Pt.slots] at X111 l111 y111 z111 st111 hQ111
  rw [l111, y111, z111] at X111
  clear l111 y111 z111
  obtain ⟨rfl, Nq111, e111⟩ := hQ111
  have N111 := Fr.app N109 Nq111
  refine oS (fun t k => st111.trans k) ?_
  show oG _ _ _ _ _ _ _ (T111.setTop (mkF m 414 #[.val (.ref a1), .val (.ref a2), .val (.int 2), .val (.int 2), .val (.ref b7), .val (.ref b18), .val (.long x34_r), .second, .val (.ref r42), .val (.ref u4), .val (.int 3), .val (.ref c18_1), .val (.ref c18_1), .val (.int 2), .val (.int 2), .val (.long 0), .second, .unset, .unset] [(.int 0)]))
  try clear st111 X110 e110
  try clear T110
  refine oS (fun t k => XS.ifYes X111.here hx rfl (pc0 := 414) (pc' := 495) rfl (hb hby d28_414) rfl ((if0 _ _).trans (teq (by decide)).1) (by decide) (by decide) k) ?_
  refine oS (fun t k => XS.aloadN X111.here hx rfl (hb hby d28_495) rfl rfl k) ?_
  obtain ⟨cq112, kq112, q112a, q112b, q112c⟩ := isOf hZ e111 ((((fz49.keep K105).keep K107).keep K108).keep K109)
  obtain ⟨_, _, ⟨T112, L112, k112, n112⟩, -, X112, ⟨Lc112, hQ112, l112, y112, z112⟩, st112⟩ := X111.virtualBack hx (y := mY31) (z := mY31) hown (oM hZ hw 341 rfl) (oM hZ hw 342 rfl) (notFace_of_selects (args := #[]) (oM hZ hw 344 rfl)) (oM hZ hw 344 rfl) (oM hZ hw 343 rfl) (by decide) (backOf (W := 0) (rm_w_offRequests l Z a0 hw [] a2 z5  h109 n0 O109  ((((fz54.keep K105 (fun q => ne_a2_r42 (List.mem_singleton.mp q))).keep K107 (fun q0 => (List.mem_cons.mp q0).elim ne_a2_c39_0 (fun q2 => ne_a2_c39_1 (List.mem_singleton.mp q2)))).keep K108 (fun q0 => (List.mem_cons.mp q0).elim ne_a2_c39_0 (fun q2 => ne_a2_c39_1 (List.mem_singleton.mp q2)))).keep K109 (fun q0 => (List.mem_cons.mp q0).elim ne_a2_c39_0 (fun q2 => ne_a2_c39_1 (List.mem_singleton.mp q2))))) hZ (oW hw 345 rfl) (oW hw 88 rfl) (by decide) (by decide)) q112a q112c (g := (mkF m 496 #[.val (.ref a1), .val (.ref a2), .val (.int 2), .val (.int 2), .val (.ref b7), .val (.ref b18), .val (.long x34_r), .second, .val (.ref r42), .val (.ref u4), .val (.int 3), .val (.ref c18_1), .val (.ref c18_1), .val (.int 2), .val (.int 2), .val (.long 0), .second, .unset, .unset] [(.ref a2)])) rfl (by rw [hml]; rfl) (Steps.refl _) (argsL := []) (rest := []) (lenOf pd_13 rfl) rfl (by show 2 * 0 + _ ≤ _; exact Nat.le_of_eq rfl) (hb hby d28_496) (fun _ _ => ⟨rfl, e111, (by decide : 12 + 0 ≤ _), (by decide : 37 + 0 ≤ _)⟩)
  dsimp only [Pt.U, Pt.locs, Pt.cells, Pt.slots] at X112 l112 y112 z112 st112 hQ112
  rw [l112, y112, z112] at X112
  clear l112 y112 z112
  obtain ⟨rfl, Nq112, e112⟩ := hQ112
  have N112 := Fr.app N111 Nq112
  refine oS (fun t k => st112.trans k) ?_
  show oG _ _ _ _ _ _ _ (T112.setTop (mkF m 499 #[.val (.ref a1), .val (.ref a2), .val (.int 2), .val (.int 2), .val (.ref b7), .val (.ref b18), .val (.long x34_r), .second, .val (.ref r42), .val (.ref u4), .val (.int 3), .val (.ref c18_1), .val (.ref c18_1), .val (.int 2), .val (.int 2), .val (.long 0), .second, .unset, .unset] [(.ref z5)]))
  try clear st112 X111 e111
  obtain ⟨cq113, kq113, q113a, q113b, q113c⟩ := isOf hZ e112 ((((fz65.keep K105).keep K107).keep K108).keep K109)
  obtain ⟨_, _, ⟨T113, L113, k113, n113⟩, -, X113, ⟨Lc113, hQ113, l113, y113, z113⟩, st113⟩ := X112.interfaceBack hx (xi := mY50) (y := mY43) hown (oM hZ hw 247 rfl) (oM hZ hw 248 rfl) (oM hZ hw 249 rfl) (oM hZ hw 300 rfl) (oM hZ hw 251 rfl) (oM hZ hw 252 rfl) (oM hZ hw 301 rfl) (oM hZ hw 217 rfl) (by decide) (backOf (W := 0) (rm_it1 l Z a0 hw [] z5 w h109 n0 O109 W ((((fz65.keep K105).keep K107).keep K108).keep K109) ((((fz67.keep K105 (fun q => ne_z5_r42 (List.mem_singleton.mp q))).keep K107 (fun q0 => (List.mem_cons.mp q0).elim ne_z5_c39_0 (fun q2 => ne_z5_c39_1 (List.mem_singleton.mp q2)))).keep K108 (fun q0 => (List.mem_cons.mp q0).elim ne_z5_c39_0 (fun q2 => ne_z5_c39_1 (List.mem_singleton.mp q2)))).keep K109 (fun q0 => (List.mem_cons.mp q0).elim ne_z5_c39_0 (fun q2 => ne_z5_c39_1 (List.mem_singleton.mp q2))))) hZ (oW hw 255 rfl) (oW hw 160 rfl) (by decide) (by decide)) q113a q113b q113c (g := (mkF m 499 #[.val (.ref a1), .val (.ref a2), .val (.int 2), .val (.int 2), .val (.ref b7), .val (.ref b18), .val (.long x34_r), .second, .val (.ref r42), .val (.ref u4), .val (.int 3), .val (.ref c18_1), .val (.ref c18_1), .val (.int 2), .val (.int 2), .val (.long 0), .second, .unset, .unset] [(.ref z5)])) rfl (by rw [hml]; rfl) (Steps.refl _) (argsL := []) (rest := []) (lenOf pd_18 rfl) rfl (by show 2 * 0 + _ ≤ _; exact Nat.le_of_eq rfl) (hb hby d28_499) (fun _ _ => ⟨rfl, e112, (by decide : 12 + 1 ≤ _), (by decide : 37 + 4 ≤ _)⟩)
  dsimp only [Pt.U, Pt.locs, Pt.cells, Pt.slots] at X113 l113 y113 z113 st113 hQ113
  rw [l113, y113, z113] at X113
  clear l113 y113 z113
  obtain ⟨r113, rfl, Nq113, K113, sr113, P113_0, P113_1, P113_2, P113_3⟩ := hQ113
  have N113 := Fr.app N112 Nq113
  have O113 := O109.keep K113 all0
  have Kp113 : Keep h0 T113.heap [a1] := Kp109.trans K113 all0
  have gr113 : n0 ≤ r113 := Nat.le_trans (O109.1 ▸ O109.2.1) sr113
  have ne_a1_r113 : a1 ≠ r113 := Nat.ne_of_lt (Nat.lt_of_lt_of_le ((((fz43.keep K105).keep K107).keep K108).keep K109).lt sr113)
  have ne_a2_r113 : a2 ≠ r113 := Nat.ne_of_lt (Nat.lt_of_lt_of_le ((((fz49.keep K105).keep K107).keep K108).keep K109).lt sr113)
  have ne_z2_r113 : z2 ≠ r113 := Nat.ne_of_lt (Nat.lt_of_lt_of_le ((((fz56.keep K105).keep K107).keep K108).keep K109).lt sr113)
  have ne_z3_r113 : z3 ≠ r113 := Nat.ne_of_lt (Nat.lt_of_lt_of_le ((((fz59.keep K105).keep K107).keep K108).keep K109).lt sr113)
  have ne_z4_r113 : z4 ≠ r113 := Nat.ne_of_lt (Nat.lt_of_lt_of_le ((((fz62.keep K105).keep K107).keep K108).keep K109).lt sr113)
  have ne_z5_r113 : z5 ≠ r113 := Nat.ne_of_lt (Nat.lt_of_lt_of_le ((((fz65.keep K105).keep K107).keep K108).keep K109).lt sr113)
  have ne_u4_r113 : u4 ≠ r113 := Nat.ne_of_lt (Nat.lt_of_lt_of_le ((((fz68.keep K105).keep K107).keep K108).keep K109).lt sr113)
  have ne_u5_r113 : u5 ≠ r113 := Nat.ne_of_lt (Nat.lt_of_lt_of_le ((((fz69.keep K105).keep K107).keep K108).keep K109).lt sr113)
  have ne_b7_r113 : b7 ≠ r113 := Nat.ne_of_lt (Nat.lt_of_lt_of_le ((((fz78.keep K105 (fun q => ne_b7_r42 (List.mem_singleton.mp q))).keep K107 (fun q0 => (List.mem_cons.mp q0).elim ne_b7_c39_0 (fun q2 => ne_b7_c39_1 (List.mem_singleton.mp q2)))).keep K108 (fun q0 => (List.mem_cons.mp q0).elim ne_b7_c39_0 (fun q2 => ne_b7_c39_1 (List.mem_singleton.mp q2)))).keep K109 (fun q0 => (List.mem_cons.mp q0).elim ne_b7_c39_0 (fun q2 => ne_b7_c39_1 (List.mem_singleton.mp q2)))).lt sr113)
  have ne_b9_r113 : b9 ≠ r113 := Nat.ne_of_lt (Nat.lt_of_lt_of_le ((((fz80.keep K105 (fun q => ne_b9_r42 (List.mem_singleton.mp q))).keep K107 (fun q0 => (List.mem_cons.mp q0).elim ne_b9_c39_0 (fun q2 => ne_b9_c39_1 (List.mem_singleton.mp q2)))).keep K108 (fun q0 => (List.mem_cons.mp q0).elim ne_b9_c39_0 (fun q2 => ne_b9_c39_1 (List.mem_singleton.mp q2)))).keep K109 (fun q0 => (List.mem_cons.mp q0).elim ne_b9_c39_0 (fun q2 => ne_b9_c39_1 (List.mem_singleton.mp q2)))).lt sr113)
  have ne_c9_0_r113 : c9_0 ≠ r113 := Nat.ne_of_lt (Nat.lt_of_lt_of_le ((((fz82.keep K105).keep K107).keep K108).keep K109).lt sr113)
  have ne_c9_1_r113 : c9_1 ≠ r113 := Nat.ne_of_lt (Nat.lt_of_lt_of_le ((((fz83.keep K105).keep K107).keep K108).keep K109).lt sr113)
  have ne_b18_r113 : b18 ≠ r113 := Nat.ne_of_lt (Nat.lt_of_lt_of_le ((((fz86.keep K105 (fun q => ne_b18_r42 (List.mem_singleton.mp q))).keep K107 (fun q0 => (List.mem_cons.mp q0).elim ne_b18_c39_0 (fun q2 => ne_b18_c39_1 (List.mem_singleton.mp q2)))).keep K108 (fun q0 => (List.mem_cons.mp q0).elim ne_b18_c39_0 (fun q2 => ne_b18_c39_1 (List.mem_singleton.mp q2)))).keep K109 (fun q0 => (List.mem_cons.mp q0).elim ne_b18_c39_0 (fun q2 => ne_b18_c39_1 (List.mem_singleton.mp q2)))).lt sr113)
  have ne_c18_0_r113 : c18_0 ≠ r113 := Nat.ne_of_lt (Nat.lt_of_lt_of_le ((((fz88.keep K105 (fun q => ne_c18_0_r42 (List.mem_singleton.mp q))).keep K107 (fun q0 => (List.mem_cons.mp q0).elim ne_c18_0_c39_0 (fun q2 => ne_c18_0_c39_1 (List.mem_singleton.mp q2)))).keep K108 (fun q0 => (List.mem_cons.mp q0).elim ne_c18_0_c39_0 (fun q2 => ne_c18_0_c39_1 (List.mem_singleton.mp q2)))).keep K109 (fun q0 => (List.mem_cons.mp q0).elim ne_c18_0_c39_0 (fun q2 => ne_c18_0_c39_1 (List.mem_singleton.mp q2)))).lt sr113)
  have ne_c18_1_r113 : c18_1 ≠ r113 := Nat.ne_of_lt (Nat.lt_of_lt_of_le ((((fz90.keep K105 (fun q => ne_c18_1_r42 (List.mem_singleton.mp q))).keep K107 (fun q0 => (List.mem_cons.mp q0).elim ne_c18_1_c39_0 (fun q2 => ne_c18_1_c39_1 (List.mem_singleton.mp q2)))).keep K108 (fun q0 => (List.mem_cons.mp q0).elim ne_c18_1_c39_0 (fun q2 => ne_c18_1_c39_1 (List.mem_singleton.mp q2)))).keep K109 (fun q0 => (List.mem_cons.mp q0).elim ne_c18_1_c39_0 (fun q2 => ne_c18_1_c39_1 (List.mem_singleton.mp q2)))).lt sr113)
  have ne_r20_r113 : r20 ≠ r113 := Nat.ne_of_lt (Nat.lt_of_lt_of_le ((((fz92.keep K105).keep K107).keep K108).keep K109).lt sr113)
  have ne_b39_r113 : b39 ≠ r113 := Nat.ne_of_lt (Nat.lt_of_lt_of_le ((((fz96.keep K105 (fun q => ne_b39_r42 (List.mem_singleton.mp q))).keep K107 (fun q0 => (List.mem_cons.mp q0).elim ne_b39_c39_0 (fun q2 => ne_b39_c39_1 (List.mem_singleton.mp q2)))).keep K108 (fun q0 => (List.mem_cons.mp q0).elim ne_b39_c39_0 (fun q2 => ne_b39_c39_1 (List.mem_singleton.mp q2)))).keep K109 (fun q0 => (List.mem_cons.mp q0).elim ne_b39_c39_0 (fun q2 => ne_b39_c39_1 (List.mem_singleton.mp q2)))).lt sr113)
  have ne_c39_0_r113 : c39_0 ≠ r113 := Nat.ne_of_lt (Nat.lt_of_lt_of_le ((((fz99.keep K105).keep K107).keep K108).keep K109).lt sr113)
  have ne_c39_1_r113 : c39_1 ≠ r113 := Nat.ne_of_lt (Nat.lt_of_lt_of_le ((((fz101.keep K105).keep K107).keep K108).keep K109).lt sr113)
  have ne_r42_r113 : r42 ≠ r113 := Nat.ne_of_lt (Nat.lt_of_lt_of_le ((((P42_0.keep K105).keep K107).keep K108).keep K109).lt sr113)
  have szrr113 : h0.size ≤ r113 := Nat.le_trans Kp109.1 sr113
  refine oS (fun t k => st113.trans k) ?_
  show oG _ _ _ _ _ _ _ (T113.setTop (mkF m 504 #[.val (.ref a1), .val (.ref a2), .val (.int 2), .val (.int 2), .val (.ref b7), .val (.ref b18), .val (.long x34_r), .second, .val (.ref r42), .val (.ref u4), .val (.int 3), .val (.ref c18_1), .val (.ref c18_1), .val (.int 2), .val (.int 2), .val (.long 0), .second, .unset, .unset] [(.ref r113)]))
  try clear st113 X112 e112
  refine oS (fun t k => XS.astore X113.here hx rfl (hb hby d28_504) rfl rfl (l' := #[.val (.ref a1), .val (.ref a2), .val (.int 2), .val (.int 2), .val (.ref b7), .val (.ref b18), .val (.long x34_r), .second, .val (.ref r113), .val (.ref u4), .val (.int 3), .val (.ref c18_1), .val (.ref c18_1), .val (.int 2), .val (.int 2), .val (.long 0), .second, .unset, .unset]) rfl k) ?_
  refine oS (fun t k => XS.aload X113.here hx rfl (hb hby d28_506) rfl rfl k) ?_
  obtain ⟨cq114, kq114, q114a, q114b, q114c⟩ := isOf hZ rfl P113_0
  obtain ⟨_, _, ⟨T114, L114, k114, n114⟩, -, X114, ⟨Lc114, hQ114, l114, y114, z114⟩, st114⟩ := X113.interfaceBack hx (xi := mY51) (y := mY44) hown (oM hZ hw 281 rfl) (oM hZ hw 282 rfl) (oM hZ hw 283 rfl) (oM hZ hw 284 rfl) (oM hZ hw 285 rfl) (oM hZ hw 286 rfl) (oM hZ hw 287 rfl) (oM hZ hw 288 rfl) (by decide) (backOf (W := 0) (rm_hn01 l Z a0 hw [] r113  T113.heap n0 O113  P113_2 P113_3) hZ (oW hw 289 rfl) (oW hw 258 rfl) (by decide) (by decide)) q114a q114b q114c (g := (mkF m 508 #[.val (.ref a1), .val (.ref a2), .val (.int 2), .val (.int 2), .val (.ref b7), .val (.ref b18), .val (.long x34_r), .second, .val (.ref r113), .val (.ref u4), .val (.int 3), .val (.ref c18_1), .val (.ref c18_1), .val (.int 2), .val (.int 2), .val (.long 0), .second, .unset, .unset] [(.ref r113)])) rfl (by rw [hml]; rfl) (Steps.refl _) (argsL := []) (rest := []) (lenOf pd_9 rfl) rfl (by show 2 * 0 + _ ≤ _; exact Nat.le_of_eq rfl) (hb hby d28_508) (fun _ _ => ⟨rfl, rfl, (by decide : 13 + 0 ≤ _), (by decide : 41 + 0 ≤ _)⟩)
  dsimp only [Pt.U, Pt.locs, Pt.cells, Pt.slots] at X114 l114 y114 z114 st114 hQ114
  rw [l114, y114, z114] at X114
  clear l114 y114 z114
  obtain ⟨rfl, Nq114, e114⟩ := hQ114
  have N114 := Fr.app N113 Nq114
  refine oS (fun t k => st114.trans k) ?_
  show oG _ _ _ _ _ _ _ (T114.setTop (mkF m 513 #[.val (.ref a1), .val (.ref a2), .val (.int 2), .val (.int 2), .val (.ref b7), .val (.ref b18), .val (.long x34_r), .second, .val (.ref r113), .val (.ref u4), .val (.int 3), .val (.ref c18_1), .val (.ref c18_1), .val (.int 2), .val (.int 2), .val (.long 0), .second, .unset, .unset] [(.int 1)]))
  try clear st114 X113 e113
  refine oS (fun t k => XS.ifNo X114.here hx rfl (hb hby d28_513) rfl ((if0 _ _).trans (feq (by decide)).1) k) ?_
  refine oS (fun t k => XS.aload X114.here hx rfl (hb hby d28_516) rfl rfl k) ?_
  obtain ⟨cq115, kq115, q115a, q115b, q115c⟩ := isOf hZ e114 P113_0
  obtain ⟨_, _, ⟨T115, L115, k115, n115⟩, -, X115, ⟨Lc115, hQ115, l115, y115, z115⟩, st115⟩ := X114.interfaceBack hx (xi := mY52) (y := mY46) hown (oM hZ hw 303 rfl) (oM hZ hw 304 rfl) (oM hZ hw 305 rfl) (oM hZ hw 306 rfl) (oM hZ hw 307 rfl) (oM hZ hw 308 rfl) (oM hZ hw 309 rfl) (oM hZ hw 288 rfl) (by decide) (backOfWith (W := 0) (rm_next l Z a0 hw [] r113 z5 u5 w T113.heap n0 O113 W P113_0 gr113 P113_1 P113_2 P113_3 (((((fz65.keep K105).keep K107).keep K108).keep K109).keep K113) (((((fz66.keep K105 (fun q => ne_z5_r42 (List.mem_singleton.mp q))).keep K107 (fun q0 => (List.mem_cons.mp q0).elim ne_z5_c39_0 (fun q2 => ne_z5_c39_1 (List.mem_singleton.mp q2)))).keep K108 (fun q0 => (List.mem_cons.mp q0).elim ne_z5_c39_0 (fun q2 => ne_z5_c39_1 (List.mem_singleton.mp q2)))).keep K109 (fun q0 => (List.mem_cons.mp q0).elim ne_z5_c39_0 (fun q2 => ne_z5_c39_1 (List.mem_singleton.mp q2)))).keep K113 List.not_mem_nil)) hZ (oW hw 310 rfl) (oW hw 258 rfl) (by decide) (by decide)) q115a q115b q115c (g := (mkF m 518 #[.val (.ref a1), .val (.ref a2), .val (.int 2), .val (.int 2), .val (.ref b7), .val (.ref b18), .val (.long x34_r), .second, .val (.ref r113), .val (.ref u4), .val (.int 3), .val (.ref c18_1), .val (.ref c18_1), .val (.int 2), .val (.int 2), .val (.long 0), .second, .unset, .unset] [(.ref r113)])) rfl (by rw [hml]; rfl) (Steps.refl _) (argsL := []) (rest := []) (lenOf pd_20 rfl) rfl (by show 2 * 0 + _ ≤ _; exact Nat.le_of_eq rfl) (hb hby d28_518) (fun _ _ => ⟨rfl, e114, (by decide : 13 + 0 ≤ _), (by decide : 41 + 0 ≤ _)⟩)
  dsimp only [Pt.U, Pt.locs, Pt.cells, Pt.slots] at X115 l115 y115 z115 st115 hQ115
  rw [l115, y115, z115] at X115
  clear l115 y115 z115
  obtain ⟨rfl, Nq115, K115, P115_0, P115_1, P115_2⟩ := hQ115
  have N115 := Fr.app N114 Nq115
  have O115 := O113.keep K115 (allS gr113 all0)
  have Kp115 : Keep h0 T115.heap [a1] := Kp113.trans K115 (allS (Or.inr szrr113) all0)
  refine oS (fun t k => st115.trans k) ?_
  show oG _ _ _ _ _ _ _ (T115.setTop (mkF m 523 #[.val (.ref a1), .val (.ref a2), .val (.int 2), .val (.int 2), .val (.ref b7), .val (.ref b18), .val (.long x34_r), .second, .val (.ref r113), .val (.ref u4), .val (.int 3), .val (.ref c18_1), .val (.ref c18_1), .val (.int 2), .val (.int 2), .val (.long 0), .second, .unset, .unset] [(.ref u5)]))
  try clear st115 X114 e114
  obtain ⟨T116, X116, e116, st116⟩ := castY X115 hx hZ hown (oW hw 319 rfl) rfl (Ins.self ((((((fz69.keep K105).keep K107).keep K108).keep K109).keep K113).keep K115)) (g := (mkF m 523 #[.val (.ref a1), .val (.ref a2), .val (.int 2), .val (.int 2), .val (.ref b7), .val (.ref b18), .val (.long x34_r), .second, .val (.ref r113), .val (.ref u4), .val (.int 3), .val (.ref c18_1), .val (.ref c18_1), .val (.int 2), .val (.int 2), .val (.long 0), .second, .unset, .unset] [(.ref u5)])) rfl rfl (hb hby d28_523)
  refine oS (fun t k => st116 t k) ?_
  try clear st116 X115 e115
  refine oS (fun t k => XS.astore X116.here hx rfl (hb hby d28_526) rfl rfl (l' := #[.val (.ref a1), .val (.ref a2), .val (.int 2), .val (.int 2), .val (.ref b7), .val (.ref b18), .val (.long x34_r), .second, .val (.ref r113), .val (.ref u5), .val (.int 3), .val (.ref c18_1), .val (.ref c18_1), .val (.int 2), .val (.int 2), .val (.long 0), .second, .unset, .unset]) rfl k) ?_
  show oG _ _ _ _ _ _ _ (T116.setTop (mkF m 528 #[.val (.ref a1), .val (.ref a2), .val (.int 2), .val (.int 2), .val (.ref b7), .val (.ref b18), .val (.long x34_r), .second, .val (.ref r113), .val (.ref u5), .val (.int 3), .val (.ref c18_1), .val (.ref c18_1), .val (.int 2), .val (.int 2), .val (.long 0), .second, .unset, .unset] []))
  refine pc_off l Z a0 hw w W hx hby hml hZ hown _ _ T115.heap n0 a1 u5 b39 c39_0 c39_1 k39 kr39 G109 j1 j2 j3 j4 _ _ _ _ _ _ _ _ _ _ _ _ _ _ _ _ _ X116 e116 N115 O115 ((((((fz44.keep K105 (fun q => ne_a1_r42 (List.mem_singleton.mp q))).keep K107 (fun q0 => (List.mem_cons.mp q0).elim ne_a1_c39_0 (fun q2 => ne_a1_c39_1 (List.mem_singleton.mp q2)))).keep K108 (fun q0 => (List.mem_cons.mp q0).elim ne_a1_c39_0 (fun q2 => ne_a1_c39_1 (List.mem_singleton.mp q2)))).keep K109 (fun q0 => (List.mem_cons.mp q0).elim ne_a1_c39_0 (fun q2 => ne_a1_c39_1 (List.mem_singleton.mp q2)))).keep K113 List.not_mem_nil).keep K115 (fun q => ne_a1_r113 (List.mem_singleton.mp q))) ((((((fz46.keep K105 (fun q => ne_a1_r42 (List.mem_singleton.mp q))).keep K107 (fun q0 => (List.mem_cons.mp q0).elim ne_a1_c39_0 (fun q2 => ne_a1_c39_1 (List.mem_singleton.mp q2)))).keep K108 (fun q0 => (List.mem_cons.mp q0).elim ne_a1_c39_0 (fun q2 => ne_a1_c39_1 (List.mem_singleton.mp q2)))).keep K109 (fun q0 => (List.mem_cons.mp q0).elim ne_a1_c39_0 (fun q2 => ne_a1_c39_1 (List.mem_singleton.mp q2)))).keep K113 List.not_mem_nil).keep K115 (fun q => ne_a1_r113 (List.mem_singleton.mp q))) ((((((fz96.keep K105 (fun q => ne_b39_r42 (List.mem_singleton.mp q))).keep K107 (fun q0 => (List.mem_cons.mp q0).elim ne_b39_c39_0 (fun q2 => ne_b39_c39_1 (List.mem_singleton.mp q2)))).keep K108 (fun q0 => (List.mem_cons.mp q0).elim ne_b39_c39_0 (fun q2 => ne_b39_c39_1 (List.mem_singleton.mp q2)))).keep K109 (fun q0 => (List.mem_cons.mp q0).elim ne_b39_c39_0 (fun q2 => ne_b39_c39_1 (List.mem_singleton.mp q2)))).keep K113 List.not_mem_nil).keep K115 (fun q => ne_b39_r113 (List.mem_singleton.mp q))) ((Pj109_1.keep K113 List.not_mem_nil).keep K115 (fun q => ne_c39_0_r113 (List.mem_singleton.mp q))) ((Pj109_2.keep K113 List.not_mem_nil).keep K115 (fun q => ne_c39_1_r113 (List.mem_singleton.mp q))) ((((((fz69.keep K105).keep K107).keep K108).keep K109).keep K113).keep K115) ((((((fz74.keep K105 (fun q => ne_u5_r42 (List.mem_singleton.mp q))).keep K107 (fun q0 => (List.mem_cons.mp q0).elim ne_u5_c39_0 (fun q2 => ne_u5_c39_1 (List.mem_singleton.mp q2)))).keep K108 (fun q0 => (List.mem_cons.mp q0).elim ne_u5_c39_0 (fun q2 => ne_u5_c39_1 (List.mem_singleton.mp q2)))).keep K109 (fun q0 => (List.mem_cons.mp q0).elim ne_u5_c39_0 (fun q2 => ne_u5_c39_1 (List.mem_singleton.mp q2)))).keep K113 List.not_mem_nil).keep K115 (fun q => ne_u5_r113 (List.mem_singleton.mp q))) ((((((fz75.keep K105 (fun q => ne_u5_r42 (List.mem_singleton.mp q))).keep K107 (fun q0 => (List.mem_cons.mp q0).elim ne_u5_c39_0 (fun q2 => ne_u5_c39_1 (List.mem_singleton.mp q2)))).keep K108 (fun q0 => (List.mem_cons.mp q0).elim ne_u5_c39_0 (fun q2 => ne_u5_c39_1 (List.mem_singleton.mp q2)))).keep K109 (fun q0 => (List.mem_cons.mp q0).elim ne_u5_c39_0 (fun q2 => ne_u5_c39_1 (List.mem_singleton.mp q2)))).keep K113 List.not_mem_nil).keep K115 (fun q => ne_u5_r113 (List.mem_singleton.mp q))) ((((((fz76.keep K105 (fun q => ne_u5_r42 (List.mem_singleton.mp q))).keep K107 (fun q0 => (List.mem_cons.mp q0).elim ne_u5_c39_0 (fun q2 => ne_u5_c39_1 (List.mem_singleton.mp q2)))).keep K108 (fun q0 => (List.mem_cons.mp q0).elim ne_u5_c39_0 (fun q2 => ne_u5_c39_1 (List.mem_singleton.mp q2)))).keep K109 (fun q0 => (List.mem_cons.mp q0).elim ne_u5_c39_0 (fun q2 => ne_u5_c39_1 (List.mem_singleton.mp q2)))).keep K113 List.not_mem_nil).keep K115 (fun q => ne_u5_r113 (List.mem_singleton.mp q))) ((((((fz77.keep K105 (fun q => ne_u5_r42 (List.mem_singleton.mp q))).keep K107 (fun q0 => (List.mem_cons.mp q0).elim ne_u5_c39_0 (fun q2 => ne_u5_c39_1 (List.mem_singleton.mp q2)))).keep K108 (fun q0 => (List.mem_cons.mp q0).elim ne_u5_c39_0 (fun q2 => ne_u5_c39_1 (List.mem_singleton.mp q2)))).keep K109 (fun q0 => (List.mem_cons.mp q0).elim ne_u5_c39_0 (fun q2 => ne_u5_c39_1 (List.mem_singleton.mp q2)))).keep K113 List.not_mem_nil).keep K115 (fun q => ne_u5_r113 (List.mem_singleton.mp q))) gxc39_0 gxc39_1 ne_c39_0_c39_1 hj1 hj2 hj3 ?_
  intro T117 L117 h117 G117 X117 e117 N117 K117 Pj117_0 Pj117_1 Pj117_2
  have O117 := O115.keep K117 (allS gxc39_0 (allS gxc39_1 all0))
  have Kp117 : Keep h0 h117 [a1] := Kp115.trans K117 (allS (Or.inr szc39_0) (allS (Or.inr szc39_1) all0))
  show oG _ _ _ _ _ _ _ (T117.setTop (mkF m 506 #[.val (.ref a1), .val (.ref a2), .val (.int 2), .val (.int 2), .val (.ref b7), .val (.ref b18), .val (.long x34_r), .second, .val (.ref r113), .val (.ref u5), .val (.int 3), .val (.ref c18_1), .val (.ref c18_1), .val (.int 2), .val (.int 2), .val (.long 0), .second, .unset, .unset] []))
  try clear X116 e116
  have fz118 := (((((((fz43.keep K105).keep K107).keep K108).keep K109).keep K113).keep K115).keep K117)
  have fz119 := (((((((fz44.keep K105 (fun q => ne_a1_r42 (List.mem_singleton.mp q))).keep K107 (fun q0 => (List.mem_cons.mp q0).elim ne_a1_c39_0 (fun q2 => ne_a1_c39_1 (List.mem_singleton.mp q2)))).keep K108 (fun q0 => (List.mem_cons.mp q0).elim ne_a1_c39_0 (fun q2 => ne_a1_c39_1 (List.mem_singleton.mp q2)))).keep K109 (fun q0 => (List.mem_cons.mp q0).elim ne_a1_c39_0 (fun q2 => ne_a1_c39_1 (List.mem_singleton.mp q2)))).keep K113 List.not_mem_nil).keep K115 (fun q => ne_a1_r113 (List.mem_singleton.mp q))).keep K117 (fun q0 => (List.mem_cons.mp q0).elim ne_a1_c39_0 (fun q2 => ne_a1_c39_1 (List.mem_singleton.mp q2))))
  have fz120 := (((((((fz45.keep K105 (fun q => ne_a1_r42 (List.mem_singleton.mp q))).keep K107 (fun q0 => (List.mem_cons.mp q0).elim ne_a1_c39_0 (fun q2 => ne_a1_c39_1 (List.mem_singleton.mp q2)))).keep K108 (fun q0 => (List.mem_cons.mp q0).elim ne_a1_c39_0 (fun q2 => ne_a1_c39_1 (List.mem_singleton.mp q2)))).keep K109 (fun q0 => (List.mem_cons.mp q0).elim ne_a1_c39_0 (fun q2 => ne_a1_c39_1 (List.mem_singleton.mp q2)))).keep K113 List.not_mem_nil).keep K115 (fun q => ne_a1_r113 (List.mem_singleton.mp q))).keep K117 (fun q0 => (List.mem_cons.mp q0).elim ne_a1_c39_0 (fun q2 => ne_a1_c39_1 (List.mem_singleton.mp q2))))
  have fz121 := (((((((fz46.keep K105 (fun q => ne_a1_r42 (List.mem_singleton.mp q))).keep K107 (fun q0 => (List.mem_cons.mp q0).elim ne_a1_c39_0 (fun q2 => ne_a1_c39_1 (List.mem_singleton.mp q2)))).keep K108 (fun q0 => (List.mem_cons.mp q0).elim ne_a1_c39_0 (fun q2 => ne_a1_c39_1 (List.mem_singleton.mp q2)))).keep K109 (fun q0 => (List.mem_cons.mp q0).elim ne_a1_c39_0 (fun q2 => ne_a1_c39_1 (List.mem_singleton.mp q2)))).keep K113 List.not_mem_nil).keep K115 (fun q => ne_a1_r113 (List.mem_singleton.mp q))).keep K117 (fun q0 => (List.mem_cons.mp q0).elim ne_a1_c39_0 (fun q2 => ne_a1_c39_1 (List.mem_singleton.mp q2))))
  have fz122 := (((((((fz47.keep K105 (fun q => ne_a1_r42 (List.mem_singleton.mp q))).keep K107 (fun q0 => (List.mem_cons.mp q0).elim ne_a1_c39_0 (fun q2 => ne_a1_c39_1 (List.mem_singleton.mp q2)))).keep K108 (fun q0 => (List.mem_cons.mp q0).elim ne_a1_c39_0 (fun q2 => ne_a1_c39_1 (List.mem_singleton.mp q2)))).keep K109 (fun q0 => (List.mem_cons.mp q0).elim ne_a1_c39_0 (fun q2 => ne_a1_c39_1 (List.mem_singleton.mp q2)))).keep K113 List.not_mem_nil).keep K115 (fun q => ne_a1_r113 (List.mem_singleton.mp q))).keep K117 (fun q0 => (List.mem_cons.mp q0).elim ne_a1_c39_0 (fun q2 => ne_a1_c39_1 (List.mem_singleton.mp q2))))
  have fz123 := (((((((fz48.keep K105 (fun q => ne_a1_r42 (List.mem_singleton.mp q))).keep K107 (fun q0 => (List.mem_cons.mp q0).elim ne_a1_c39_0 (fun q2 => ne_a1_c39_1 (List.mem_singleton.mp q2)))).keep K108 (fun q0 => (List.mem_cons.mp q0).elim ne_a1_c39_0 (fun q2 => ne_a1_c39_1 (List.mem_singleton.mp q2)))).keep K109 (fun q0 => (List.mem_cons.mp q0).elim ne_a1_c39_0 (fun q2 => ne_a1_c39_1 (List.mem_singleton.mp q2)))).keep K113 List.not_mem_nil).keep K115 (fun q => ne_a1_r113 (List.mem_singleton.mp q))).keep K117 (fun q0 => (List.mem_cons.mp q0).elim ne_a1_c39_0 (fun q2 => ne_a1_c39_1 (List.mem_singleton.mp q2))))
  have fz124 := (((((((fz49.keep K105).keep K107).keep K108).keep K109).keep K113).keep K115).keep K117)
  have fz125 := (((((((fz50.keep K105 (fun q => ne_a2_r42 (List.mem_singleton.mp q))).keep K107 (fun q0 => (List.mem_cons.mp q0).elim ne_a2_c39_0 (fun q2 => ne_a2_c39_1 (List.mem_singleton.mp q2)))).keep K108 (fun q0 => (List.mem_cons.mp q0).elim ne_a2_c39_0 (fun q2 => ne_a2_c39_1 (List.mem_singleton.mp q2)))).keep K109 (fun q0 => (List.mem_cons.mp q0).elim ne_a2_c39_0 (fun q2 => ne_a2_c39_1 (List.mem_singleton.mp q2)))).keep K113 List.not_mem_nil).keep K115 (fun q => ne_a2_r113 (List.mem_singleton.mp q))).keep K117 (fun q0 => (List.mem_cons.mp q0).elim ne_a2_c39_0 (fun q2 => ne_a2_c39_1 (List.mem_singleton.mp q2))))
  have fz126 := (((((((fz51.keep K105 (fun q => ne_a2_r42 (List.mem_singleton.mp q))).keep K107 (fun q0 => (List.mem_cons.mp q0).elim ne_a2_c39_0 (fun q2 => ne_a2_c39_1 (List.mem_singleton.mp q2)))).keep K108 (fun q0 => (List.mem_cons.mp q0).elim ne_a2_c39_0 (fun q2 => ne_a2_c39_1 (List.mem_singleton.mp q2)))).keep K109 (fun q0 => (List.mem_cons.mp q0).elim ne_a2_c39_0 (fun q2 => ne_a2_c39_1 (List.mem_singleton.mp q2)))).keep K113 List.not_mem_nil).keep K115 (fun q => ne_a2_r113 (List.mem_singleton.mp q))).keep K117 (fun q0 => (List.mem_cons.mp q0).elim ne_a2_c39_0 (fun q2 => ne_a2_c39_1 (List.mem_singleton.mp q2))))
  have fz127 := (((((((fz52.keep K105 (fun q => ne_a2_r42 (List.mem_singleton.mp q))).keep K107 (fun q0 => (List.mem_cons.mp q0).elim ne_a2_c39_0 (fun q2 => ne_a2_c39_1 (List.mem_singleton.mp q2)))).keep K108 (fun q0 => (List.mem_cons.mp q0).elim ne_a2_c39_0 (fun q2 => ne_a2_c39_1 (List.mem_singleton.mp q2)))).keep K109 (fun q0 => (List.mem_cons.mp q0).elim ne_a2_c39_0 (fun q2 => ne_a2_c39_1 (List.mem_singleton.mp q2)))).keep K113 List.not_mem_nil).keep K115 (fun q => ne_a2_r113 (List.mem_singleton.mp q))).keep K117 (fun q0 => (List.mem_cons.mp q0).elim ne_a2_c39_0 (fun q2 => ne_a2_c39_1 (List.mem_singleton.mp q2))))
  have fz128 := (((((((fz53.keep K105 (fun q => ne_a2_r42 (List.mem_singleton.mp q))).keep K107 (fun q0 => (List.mem_cons.mp q0).elim ne_a2_c39_0 (fun q2 => ne_a2_c39_1 (List.mem_singleton.mp q2)))).keep K108 (fun q0 => (List.mem_cons.mp q0).elim ne_a2_c39_0 (fun q2 => ne_a2_c39_1 (List.mem_singleton.mp q2)))).keep K109 (fun q0 => (List.mem_cons.mp q0).elim ne_a2_c39_0 (fun q2 => ne_a2_c39_1 (List.mem_singleton.mp q2)))).keep K113 List.not_mem_nil).keep K115 (fun q => ne_a2_r113 (List.mem_singleton.mp q))).keep K117 (fun q0 => (List.mem_cons.mp q0).elim ne_a2_c39_0 (fun q2 => ne_a2_c39_1 (List.mem_singleton.mp q2))))
  have fz129 := (((((((fz54.keep K105 (fun q => ne_a2_r42 (List.mem_singleton.mp q))).keep K107 (fun q0 => (List.mem_cons.mp q0).elim ne_a2_c39_0 (fun q2 => ne_a2_c39_1 (List.mem_singleton.mp q2)))).keep K108 (fun q0 => (List.mem_cons.mp q0).elim ne_a2_c39_0 (fun q2 => ne_a2_c39_1 (List.mem_singleton.mp q2)))).keep K109 (fun q0 => (List.mem_cons.mp q0).elim ne_a2_c39_0 (fun q2 => ne_a2_c39_1 (List.mem_singleton.mp q2)))).keep K113 List.not_mem_nil).keep K115 (fun q => ne_a2_r113 (List.mem_singleton.mp q))).keep K117 (fun q0 => (List.mem_cons.mp q0).elim ne_a2_c39_0 (fun q2 => ne_a2_c39_1 (List.mem_singleton.mp q2))))
  have fz130 := (((((((fz55.keep K105 (fun q => ne_a2_r42 (List.mem_singleton.mp q))).keep K107 (fun q0 => (List.mem_cons.mp q0).elim ne_a2_c39_0 (fun q2 => ne_a2_c39_1 (List.mem_singleton.mp q2)))).keep K108 (fun q0 => (List.mem_cons.mp q0).elim ne_a2_c39_0 (fun q2 => ne_a2_c39_1 (List.mem_singleton.mp q2)))).keep K109 (fun q0 => (List.mem_cons.mp q0).elim ne_a2_c39_0 (fun q2 => ne_a2_c39_1 (List.mem_singleton.mp q2)))).keep K113 List.not_mem_nil).keep K115 (fun q => ne_a2_r113 (List.mem_singleton.mp q))).keep K117 (fun q0 => (List.mem_cons.mp q0).elim ne_a2_c39_0 (fun q2 => ne_a2_c39_1 (List.mem_singleton.mp q2))))
  have fz131 := (((((((fz56.keep K105).keep K107).keep K108).keep K109).keep K113).keep K115).keep K117)
  have fz132 := (((((((fz57.keep K105 (fun q => ne_z2_r42 (List.mem_singleton.mp q))).keep K107 (fun q0 => (List.mem_cons.mp q0).elim ne_z2_c39_0 (fun q2 => ne_z2_c39_1 (List.mem_singleton.mp q2)))).keep K108 (fun q0 => (List.mem_cons.mp q0).elim ne_z2_c39_0 (fun q2 => ne_z2_c39_1 (List.mem_singleton.mp q2)))).keep K109 (fun q0 => (List.mem_cons.mp q0).elim ne_z2_c39_0 (fun q2 => ne_z2_c39_1 (List.mem_singleton.mp q2)))).keep K113 List.not_mem_nil).keep K115 (fun q => ne_z2_r113 (List.mem_singleton.mp q))).keep K117 (fun q0 => (List.mem_cons.mp q0).elim ne_z2_c39_0 (fun q2 => ne_z2_c39_1 (List.mem_singleton.mp q2))))
  have fz133 := (((((((fz58.keep K105).keep K107).keep K108).keep K109).keep K113).keep K115).keep K117)
  have fz134 := (((((((fz59.keep K105).keep K107).keep K108).keep K109).keep K113).keep K115).keep K117)
  have fz135 := (((((((fz60.keep K105 (fun q => ne_z3_r42 (List.mem_singleton.mp q))).keep K107 (fun q0 => (List.mem_cons.mp q0).elim ne_z3_c39_0 (fun q2 => ne_z3_c39_1 (List.mem_singleton.mp q2)))).keep K108 (fun q0 => (List.mem_cons.mp q0).elim ne_z3_c39_0 (fun q2 => ne_z3_c39_1 (List.mem_singleton.mp q2)))).keep K109 (fun q0 => (List.mem_cons.mp q0).elim ne_z3_c39_0 (fun q2 => ne_z3_c39_1 (List.mem_singleton.mp q2)))).keep K113 List.not_mem_nil).keep K115 (fun q => ne_z3_r113 (List.mem_singleton.mp q))).keep K117 (fun q0 => (List.mem_cons.mp q0).elim ne_z3_c39_0 (fun q2 => ne_z3_c39_1 (List.mem_singleton.mp q2))))
  have fz136 := (((((((fz61.keep K105).keep K107).keep K108).keep K109).keep K113).keep K115).keep K117)
  have fz137 := (((((((fz62.keep K105).keep K107).keep K108).keep K109).keep K113).keep K115).keep K117)
  have fz138 := (((((((fz63.keep K105 (fun q => ne_z4_r42 (List.mem_singleton.mp q))).keep K107 (fun q0 => (List.mem_cons.mp q0).elim ne_z4_c39_0 (fun q2 => ne_z4_c39_1 (List.mem_singleton.mp q2)))).keep K108 (fun q0 => (List.mem_cons.mp q0).elim ne_z4_c39_0 (fun q2 => ne_z4_c39_1 (List.mem_singleton.mp q2)))).keep K109 (fun q0 => (List.mem_cons.mp q0).elim ne_z4_c39_0 (fun q2 => ne_z4_c39_1 (List.mem_singleton.mp q2)))).keep K113 List.not_mem_nil).keep K115 (fun q => ne_z4_r113 (List.mem_singleton.mp q))).keep K117 (fun q0 => (List.mem_cons.mp q0).elim ne_z4_c39_0 (fun q2 => ne_z4_c39_1 (List.mem_singleton.mp q2))))
  have fz139 := (((((((fz64.keep K105 (fun q => ne_z4_r42 (List.mem_singleton.mp q))).keep K107 (fun q0 => (List.mem_cons.mp q0).elim ne_z4_c39_0 (fun q2 => ne_z4_c39_1 (List.mem_singleton.mp q2)))).keep K108 (fun q0 => (List.mem_cons.mp q0).elim ne_z4_c39_0 (fun q2 => ne_z4_c39_1 (List.mem_singleton.mp q2)))).keep K109 (fun q0 => (List.mem_cons.mp q0).elim ne_z4_c39_0 (fun q2 => ne_z4_c39_1 (List.mem_singleton.mp q2)))).keep K113 List.not_mem_nil).keep K115 (fun q => ne_z4_r113 (List.mem_singleton.mp q))).keep K117 (fun q0 => (List.mem_cons.mp q0).elim ne_z4_c39_0 (fun q2 => ne_z4_c39_1 (List.mem_singleton.mp q2))))
  have fz140 := (((((((fz65.keep K105).keep K107).keep K108).keep K109).keep K113).keep K115).keep K117)
  have fz141 := (((((((fz66.keep K105 (fun q => ne_z5_r42 (List.mem_singleton.mp q))).keep K107 (fun q0 => (List.mem_cons.mp q0).elim ne_z5_c39_0 (fun q2 => ne_z5_c39_1 (List.mem_singleton.mp q2)))).keep K108 (fun q0 => (List.mem_cons.mp q0).elim ne_z5_c39_0 (fun q2 => ne_z5_c39_1 (List.mem_singleton.mp q2)))).keep K109 (fun q0 => (List.mem_cons.mp q0).elim ne_z5_c39_0 (fun q2 => ne_z5_c39_1 (List.mem_singleton.mp q2)))).keep K113 List.not_mem_nil).keep K115 (fun q => ne_z5_r113 (List.mem_singleton.mp q))).keep K117 (fun q0 => (List.mem_cons.mp q0).elim ne_z5_c39_0 (fun q2 => ne_z5_c39_1 (List.mem_singleton.mp q2))))
  have fz142 := (((((((fz67.keep K105 (fun q => ne_z5_r42 (List.mem_singleton.mp q))).keep K107 (fun q0 => (List.mem_cons.mp q0).elim ne_z5_c39_0 (fun q2 => ne_z5_c39_1 (List.mem_singleton.mp q2)))).keep K108 (fun q0 => (List.mem_cons.mp q0).elim ne_z5_c39_0 (fun q2 => ne_z5_c39_1 (List.mem_singleton.mp q2)))).keep K109 (fun q0 => (List.mem_cons.mp q0).elim ne_z5_c39_0 (fun q2 => ne_z5_c39_1 (List.mem_singleton.mp q2)))).keep K113 List.not_mem_nil).keep K115 (fun q => ne_z5_r113 (List.mem_singleton.mp q))).keep K117 (fun q0 => (List.mem_cons.mp q0).elim ne_z5_c39_0 (fun q2 => ne_z5_c39_1 (List.mem_singleton.mp q2))))
  have fz143 := (((((((fz68.keep K105).keep K107).keep K108).keep K109).keep K113).keep K115).keep K117)
  have fz144 := (((((((fz69.keep K105).keep K107).keep K108).keep K109).keep K113).keep K115).keep K117)
  have fz145 := (((((((fz70.keep K105 (fun q => ne_u4_r42 (List.mem_singleton.mp q))).keep K107 (fun q0 => (List.mem_cons.mp q0).elim ne_u4_c39_0 (fun q2 => ne_u4_c39_1 (List.mem_singleton.mp q2)))).keep K108 (fun q0 => (List.mem_cons.mp q0).elim ne_u4_c39_0 (fun q2 => ne_u4_c39_1 (List.mem_singleton.mp q2)))).keep K109 (fun q0 => (List.mem_cons.mp q0).elim ne_u4_c39_0 (fun q2 => ne_u4_c39_1 (List.mem_singleton.mp q2)))).keep K113 List.not_mem_nil).keep K115 (fun q => ne_u4_r113 (List.mem_singleton.mp q))).keep K117 (fun q0 => (List.mem_cons.mp q0).elim ne_u4_c39_0 (fun q2 => ne_u4_c39_1 (List.mem_singleton.mp q2))))
  have fz146 := (((((((fz71.keep K105 (fun q => ne_u4_r42 (List.mem_singleton.mp q))).keep K107 (fun q0 => (List.mem_cons.mp q0).elim ne_u4_c39_0 (fun q2 => ne_u4_c39_1 (List.mem_singleton.mp q2)))).keep K108 (fun q0 => (List.mem_cons.mp q0).elim ne_u4_c39_0 (fun q2 => ne_u4_c39_1 (List.mem_singleton.mp q2)))).keep K109 (fun q0 => (List.mem_cons.mp q0).elim ne_u4_c39_0 (fun q2 => ne_u4_c39_1 (List.mem_singleton.mp q2)))).keep K113 List.not_mem_nil).keep K115 (fun q => ne_u4_r113 (List.mem_singleton.mp q))).keep K117 (fun q0 => (List.mem_cons.mp q0).elim ne_u4_c39_0 (fun q2 => ne_u4_c39_1 (List.mem_singleton.mp q2))))
  have fz147 := (((((((fz72.keep K105 (fun q => ne_u4_r42 (List.mem_singleton.mp q))).keep K107 (fun q0 => (List.mem_cons.mp q0).elim ne_u4_c39_0 (fun q2 => ne_u4_c39_1 (List.mem_singleton.mp q2)))).keep K108 (fun q0 => (List.mem_cons.mp q0).elim ne_u4_c39_0 (fun q2 => ne_u4_c39_1 (List.mem_singleton.mp q2)))).keep K109 (fun q0 => (List.mem_cons.mp q0).elim ne_u4_c39_0 (fun q2 => ne_u4_c39_1 (List.mem_singleton.mp q2)))).keep K113 List.not_mem_nil).keep K115 (fun q => ne_u4_r113 (List.mem_singleton.mp q))).keep K117 (fun q0 => (List.mem_cons.mp q0).elim ne_u4_c39_0 (fun q2 => ne_u4_c39_1 (List.mem_singleton.mp q2))))
  have fz148 := (((((((fz73.keep K105 (fun q => ne_u4_r42 (List.mem_singleton.mp q))).keep K107 (fun q0 => (List.mem_cons.mp q0).elim ne_u4_c39_0 (fun q2 => ne_u4_c39_1 (List.mem_singleton.mp q2)))).keep K108 (fun q0 => (List.mem_cons.mp q0).elim ne_u4_c39_0 (fun q2 => ne_u4_c39_1 (List.mem_singleton.mp q2)))).keep K109 (fun q0 => (List.mem_cons.mp q0).elim ne_u4_c39_0 (fun q2 => ne_u4_c39_1 (List.mem_singleton.mp q2)))).keep K113 List.not_mem_nil).keep K115 (fun q => ne_u4_r113 (List.mem_singleton.mp q))).keep K117 (fun q0 => (List.mem_cons.mp q0).elim ne_u4_c39_0 (fun q2 => ne_u4_c39_1 (List.mem_singleton.mp q2))))
  have fz149 := (((((((fz74.keep K105 (fun q => ne_u5_r42 (List.mem_singleton.mp q))).keep K107 (fun q0 => (List.mem_cons.mp q0).elim ne_u5_c39_0 (fun q2 => ne_u5_c39_1 (List.mem_singleton.mp q2)))).keep K108 (fun q0 => (List.mem_cons.mp q0).elim ne_u5_c39_0 (fun q2 => ne_u5_c39_1 (List.mem_singleton.mp q2)))).keep K109 (fun q0 => (List.mem_cons.mp q0).elim ne_u5_c39_0 (fun q2 => ne_u5_c39_1 (List.mem_singleton.mp q2)))).keep K113 List.not_mem_nil).keep K115 (fun q => ne_u5_r113 (List.mem_singleton.mp q))).keep K117 (fun q0 => (List.mem_cons.mp q0).elim ne_u5_c39_0 (fun q2 => ne_u5_c39_1 (List.mem_singleton.mp q2))))
  have fz150 := (((((((fz75.keep K105 (fun q => ne_u5_r42 (List.mem_singleton.mp q))).keep K107 (fun q0 => (List.mem_cons.mp q0).elim ne_u5_c39_0 (fun q2 => ne_u5_c39_1 (List.mem_singleton.mp q2)))).keep K108 (fun q0 => (List.mem_cons.mp q0).elim ne_u5_c39_0 (fun q2 => ne_u5_c39_1 (List.mem_singleton.mp q2)))).keep K109 (fun q0 => (List.mem_cons.mp q0).elim ne_u5_c39_0 (fun q2 => ne_u5_c39_1 (List.mem_singleton.mp q2)))).keep K113 List.not_mem_nil).keep K115 (fun q => ne_u5_r113 (List.mem_singleton.mp q))).keep K117 (fun q0 => (List.mem_cons.mp q0).elim ne_u5_c39_0 (fun q2 => ne_u5_c39_1 (List.mem_singleton.mp q2))))
  have fz151 := (((((((fz76.keep K105 (fun q => ne_u5_r42 (List.mem_singleton.mp q))).keep K107 (fun q0 => (List.mem_cons.mp q0).elim ne_u5_c39_0 (fun q2 => ne_u5_c39_1 (List.mem_singleton.mp q2)))).keep K108 (fun q0 => (List.mem_cons.mp q0).elim ne_u5_c39_0 (fun q2 => ne_u5_c39_1 (List.mem_singleton.mp q2)))).keep K109 (fun q0 => (List.mem_cons.mp q0).elim ne_u5_c39_0 (fun q2 => ne_u5_c39_1 (List.mem_singleton.mp q2)))).keep K113 List.not_mem_nil).keep K115 (fun q => ne_u5_r113 (List.mem_singleton.mp q))).keep K117 (fun q0 => (List.mem_cons.mp q0).elim ne_u5_c39_0 (fun q2 => ne_u5_c39_1 (List.mem_singleton.mp q2))))
  have fz152 := (((((((fz77.keep K105 (fun q => ne_u5_r42 (List.mem_singleton.mp q))).keep K107 (fun q0 => (List.mem_cons.mp q0).elim ne_u5_c39_0 (fun q2 => ne_u5_c39_1 (List.mem_singleton.mp q2)))).keep K108 (fun q0 => (List.mem_cons.mp q0).elim ne_u5_c39_0 (fun q2 => ne_u5_c39_1 (List.mem_singleton.mp q2)))).keep K109 (fun q0 => (List.mem_cons.mp q0).elim ne_u5_c39_0 (fun q2 => ne_u5_c39_1 (List.mem_singleton.mp q2)))).keep K113 List.not_mem_nil).keep K115 (fun q => ne_u5_r113 (List.mem_singleton.mp q))).keep K117 (fun q0 => (List.mem_cons.mp q0).elim ne_u5_c39_0 (fun q2 => ne_u5_c39_1 (List.mem_singleton.mp q2))))
  have fz153 := (((((((fz78.keep K105 (fun q => ne_b7_r42 (List.mem_singleton.mp q))).keep K107 (fun q0 => (List.mem_cons.mp q0).elim ne_b7_c39_0 (fun q2 => ne_b7_c39_1 (List.mem_singleton.mp q2)))).keep K108 (fun q0 => (List.mem_cons.mp q0).elim ne_b7_c39_0 (fun q2 => ne_b7_c39_1 (List.mem_singleton.mp q2)))).keep K109 (fun q0 => (List.mem_cons.mp q0).elim ne_b7_c39_0 (fun q2 => ne_b7_c39_1 (List.mem_singleton.mp q2)))).keep K113 List.not_mem_nil).keep K115 (fun q => ne_b7_r113 (List.mem_singleton.mp q))).keep K117 (fun q0 => (List.mem_cons.mp q0).elim ne_b7_c39_0 (fun q2 => ne_b7_c39_1 (List.mem_singleton.mp q2))))
  have fz154 := (((((((fz79.keep K105).keep K107).keep K108).keep K109).keep K113).keep K115).keep K117)
  have fz155 := (((((((fz80.keep K105 (fun q => ne_b9_r42 (List.mem_singleton.mp q))).keep K107 (fun q0 => (List.mem_cons.mp q0).elim ne_b9_c39_0 (fun q2 => ne_b9_c39_1 (List.mem_singleton.mp q2)))).keep K108 (fun q0 => (List.mem_cons.mp q0).elim ne_b9_c39_0 (fun q2 => ne_b9_c39_1 (List.mem_singleton.mp q2)))).keep K109 (fun q0 => (List.mem_cons.mp q0).elim ne_b9_c39_0 (fun q2 => ne_b9_c39_1 (List.mem_singleton.mp q2)))).keep K113 List.not_mem_nil).keep K115 (fun q => ne_b9_r113 (List.mem_singleton.mp q))).keep K117 (fun q0 => (List.mem_cons.mp q0).elim ne_b9_c39_0 (fun q2 => ne_b9_c39_1 (List.mem_singleton.mp q2))))
  have fz156 := (((((((fz81.keep K105).keep K107).keep K108).keep K109).keep K113).keep K115).keep K117)
  have fz157 := (((((((fz82.keep K105).keep K107).keep K108).keep K109).keep K113).keep K115).keep K117)
  have fz158 := (((((((fz83.keep K105).keep K107).keep K108).keep K109).keep K113).keep K115).keep K117)
  have fz159 := (((((((fz84.keep K105 (fun q => ne_c9_0_r42 (List.mem_singleton.mp q))).keep K107 (fun q0 => (List.mem_cons.mp q0).elim ne_c9_0_c39_0 (fun q2 => ne_c9_0_c39_1 (List.mem_singleton.mp q2)))).keep K108 (fun q0 => (List.mem_cons.mp q0).elim ne_c9_0_c39_0 (fun q2 => ne_c9_0_c39_1 (List.mem_singleton.mp q2)))).keep K109 (fun q0 => (List.mem_cons.mp q0).elim ne_c9_0_c39_0 (fun q2 => ne_c9_0_c39_1 (List.mem_singleton.mp q2)))).keep K113 List.not_mem_nil).keep K115 (fun q => ne_c9_0_r113 (List.mem_singleton.mp q))).keep K117 (fun q0 => (List.mem_cons.mp q0).elim ne_c9_0_c39_0 (fun q2 => ne_c9_0_c39_1 (List.mem_singleton.mp q2))))
  have fz160 := (((((((fz85.keep K105 (fun q => ne_c9_1_r42 (List.mem_singleton.mp q))).keep K107 (fun q0 => (List.mem_cons.mp q0).elim ne_c9_1_c39_0 (fun q2 => ne_c9_1_c39_1 (List.mem_singleton.mp q2)))).keep K108 (fun q0 => (List.mem_cons.mp q0).elim ne_c9_1_c39_0 (fun q2 => ne_c9_1_c39_1 (List.mem_singleton.mp q2)))).keep K109 (fun q0 => (List.mem_cons.mp q0).elim ne_c9_1_c39_0 (fun q2 => ne_c9_1_c39_1 (List.mem_singleton.mp q2)))).keep K113 List.not_mem_nil).keep K115 (fun q => ne_c9_1_r113 (List.mem_singleton.mp q))).keep K117 (fun q0 => (List.mem_cons.mp q0).elim ne_c9_1_c39_0 (fun q2 => ne_c9_1_c39_1 (List.mem_singleton.mp q2))))
  have fz161 := (((((((fz86.keep K105 (fun q => ne_b18_r42 (List.mem_singleton.mp q))).keep K107 (fun q0 => (List.mem_cons.mp q0).elim ne_b18_c39_0 (fun q2 => ne_b18_c39_1 (List.mem_singleton.mp q2)))).keep K108 (fun q0 => (List.mem_cons.mp q0).elim ne_b18_c39_0 (fun q2 => ne_b18_c39_1 (List.mem_singleton.mp q2)))).keep K109 (fun q0 => (List.mem_cons.mp q0).elim ne_b18_c39_0 (fun q2 => ne_b18_c39_1 (List.mem_singleton.mp q2)))).keep K113 List.not_mem_nil).keep K115 (fun q => ne_b18_r113 (List.mem_singleton.mp q))).keep K117 (fun q0 => (List.mem_cons.mp q0).elim ne_b18_c39_0 (fun q2 => ne_b18_c39_1 (List.mem_singleton.mp q2))))
  have fz162 := (((((((fz87.keep K105).keep K107).keep K108).keep K109).keep K113).keep K115).keep K117)
  have fz163 := (((((((fz88.keep K105 (fun q => ne_c18_0_r42 (List.mem_singleton.mp q))).keep K107 (fun q0 => (List.mem_cons.mp q0).elim ne_c18_0_c39_0 (fun q2 => ne_c18_0_c39_1 (List.mem_singleton.mp q2)))).keep K108 (fun q0 => (List.mem_cons.mp q0).elim ne_c18_0_c39_0 (fun q2 => ne_c18_0_c39_1 (List.mem_singleton.mp q2)))).keep K109 (fun q0 => (List.mem_cons.mp q0).elim ne_c18_0_c39_0 (fun q2 => ne_c18_0_c39_1 (List.mem_singleton.mp q2)))).keep K113 List.not_mem_nil).keep K115 (fun q => ne_c18_0_r113 (List.mem_singleton.mp q))).keep K117 (fun q0 => (List.mem_cons.mp q0).elim ne_c18_0_c39_0 (fun q2 => ne_c18_0_c39_1 (List.mem_singleton.mp q2))))
  have fz164 := (((((((fz89.keep K105).keep K107).keep K108).keep K109).keep K113).keep K115).keep K117)
  have fz165 := (((((((fz90.keep K105 (fun q => ne_c18_1_r42 (List.mem_singleton.mp q))).keep K107 (fun q0 => (List.mem_cons.mp q0).elim ne_c18_1_c39_0 (fun q2 => ne_c18_1_c39_1 (List.mem_singleton.mp q2)))).keep K108 (fun q0 => (List.mem_cons.mp q0).elim ne_c18_1_c39_0 (fun q2 => ne_c18_1_c39_1 (List.mem_singleton.mp q2)))).keep K109 (fun q0 => (List.mem_cons.mp q0).elim ne_c18_1_c39_0 (fun q2 => ne_c18_1_c39_1 (List.mem_singleton.mp q2)))).keep K113 List.not_mem_nil).keep K115 (fun q => ne_c18_1_r113 (List.mem_singleton.mp q))).keep K117 (fun q0 => (List.mem_cons.mp q0).elim ne_c18_1_c39_0 (fun q2 => ne_c18_1_c39_1 (List.mem_singleton.mp q2))))
  have fz166 := (((((((fz91.keep K105).keep K107).keep K108).keep K109).keep K113).keep K115).keep K117)
  have fz167 := (((((((fz92.keep K105).keep K107).keep K108).keep K109).keep K113).keep K115).keep K117)
  have fz168 := (((((((fz93.keep K105 (fun q => ne_r20_r42 (List.mem_singleton.mp q))).keep K107 (fun q0 => (List.mem_cons.mp q0).elim ne_r20_c39_0 (fun q2 => ne_r20_c39_1 (List.mem_singleton.mp q2)))).keep K108 (fun q0 => (List.mem_cons.mp q0).elim ne_r20_c39_0 (fun q2 => ne_r20_c39_1 (List.mem_singleton.mp q2)))).keep K109 (fun q0 => (List.mem_cons.mp q0).elim ne_r20_c39_0 (fun q2 => ne_r20_c39_1 (List.mem_singleton.mp q2)))).keep K113 List.not_mem_nil).keep K115 (fun q => ne_r20_r113 (List.mem_singleton.mp q))).keep K117 (fun q0 => (List.mem_cons.mp q0).elim ne_r20_c39_0 (fun q2 => ne_r20_c39_1 (List.mem_singleton.mp q2))))
  have fz169 := (((((((fz94.keep K105 (fun q => ne_r20_r42 (List.mem_singleton.mp q))).keep K107 (fun q0 => (List.mem_cons.mp q0).elim ne_r20_c39_0 (fun q2 => ne_r20_c39_1 (List.mem_singleton.mp q2)))).keep K108 (fun q0 => (List.mem_cons.mp q0).elim ne_r20_c39_0 (fun q2 => ne_r20_c39_1 (List.mem_singleton.mp q2)))).keep K109 (fun q0 => (List.mem_cons.mp q0).elim ne_r20_c39_0 (fun q2 => ne_r20_c39_1 (List.mem_singleton.mp q2)))).keep K113 List.not_mem_nil).keep K115 (fun q => ne_r20_r113 (List.mem_singleton.mp q))).keep K117 (fun q0 => (List.mem_cons.mp q0).elim ne_r20_c39_0 (fun q2 => ne_r20_c39_1 (List.mem_singleton.mp q2))))
  have fz170 := (((((((fz95.keep K105 (fun q => ne_r20_r42 (List.mem_singleton.mp q))).keep K107 (fun q0 => (List.mem_cons.mp q0).elim ne_r20_c39_0 (fun q2 => ne_r20_c39_1 (List.mem_singleton.mp q2)))).keep K108 (fun q0 => (List.mem_cons.mp q0).elim ne_r20_c39_0 (fun q2 => ne_r20_c39_1 (List.mem_singleton.mp q2)))).keep K109 (fun q0 => (List.mem_cons.mp q0).elim ne_r20_c39_0 (fun q2 => ne_r20_c39_1 (List.mem_singleton.mp q2)))).keep K113 List.not_mem_nil).keep K115 (fun q => ne_r20_r113 (List.mem_singleton.mp q))).keep K117 (fun q0 => (List.mem_cons.mp q0).elim ne_r20_c39_0 (fun q2 => ne_r20_c39_1 (List.mem_singleton.mp q2))))
  have fz171 := (((((((fz96.keep K105 (fun q => ne_b39_r42 (List.mem_singleton.mp q))).keep K107 (fun q0 => (List.mem_cons.mp q0).elim ne_b39_c39_0 (fun q2 => ne_b39_c39_1 (List.mem_singleton.mp q2)))).keep K108 (fun q0 => (List.mem_cons.mp q0).elim ne_b39_c39_0 (fun q2 => ne_b39_c39_1 (List.mem_singleton.mp q2)))).keep K109 (fun q0 => (List.mem_cons.mp q0).elim ne_b39_c39_0 (fun q2 => ne_b39_c39_1 (List.mem_singleton.mp q2)))).keep K113 List.not_mem_nil).keep K115 (fun q => ne_b39_r113 (List.mem_singleton.mp q))).keep K117 (fun q0 => (List.mem_cons.mp q0).elim ne_b39_c39_0 (fun q2 => ne_b39_c39_1 (List.mem_singleton.mp q2))))
  have fz172 := (((((((fz97.keep K105).keep K107).keep K108).keep K109).keep K113).keep K115).keep K117)
  have fz173 := (((((((fz99.keep K105).keep K107).keep K108).keep K109).keep K113).keep K115).keep K117)
  have fz174 := (((((((fz101.keep K105).keep K107).keep K108).keep K109).keep K113).keep K115).keep K117)
  have fz175 := (((((((P42_0.keep K105).keep K107).keep K108).keep K109).keep K113).keep K115).keep K117)
  have fz176 := ((((((P105_0.keep K107 (fun q0 => (List.mem_cons.mp q0).elim (Ne.symm ne_c39_0_r42) (fun q2 => (Ne.symm ne_c39_1_r42) (List.mem_singleton.mp q2)))).keep K108 (fun q0 => (List.mem_cons.mp q0).elim (Ne.symm ne_c39_0_r42) (fun q2 => (Ne.symm ne_c39_1_r42) (List.mem_singleton.mp q2)))).keep K109 (fun q0 => (List.mem_cons.mp q0).elim (Ne.symm ne_c39_0_r42) (fun q2 => (Ne.symm ne_c39_1_r42) (List.mem_singleton.mp q2)))).keep K113 List.not_mem_nil).keep K115 (fun q => ne_r42_r113 (List.mem_singleton.mp q))).keep K117 (fun q0 => (List.mem_cons.mp q0).elim (Ne.symm ne_c39_0_r42) (fun q2 => (Ne.symm ne_c39_1_r42) (List.mem_singleton.mp q2))))
  have fz177 := ((((((P105_1.keep K107 (fun q0 => (List.mem_cons.mp q0).elim (Ne.symm ne_c39_0_r42) (fun q2 => (Ne.symm ne_c39_1_r42) (List.mem_singleton.mp q2)))).keep K108 (fun q0 => (List.mem_cons.mp q0).elim (Ne.symm ne_c39_0_r42) (fun q2 => (Ne.symm ne_c39_1_r42) (List.mem_singleton.mp q2)))).keep K109 (fun q0 => (List.mem_cons.mp q0).elim (Ne.symm ne_c39_0_r42) (fun q2 => (Ne.symm ne_c39_1_r42) (List.mem_singleton.mp q2)))).keep K113 List.not_mem_nil).keep K115 (fun q => ne_r42_r113 (List.mem_singleton.mp q))).keep K117 (fun q0 => (List.mem_cons.mp q0).elim (Ne.symm ne_c39_0_r42) (fun q2 => (Ne.symm ne_c39_1_r42) (List.mem_singleton.mp q2))))
  have fz178 := ((((((P105_2.keep K107 (fun q0 => (List.mem_cons.mp q0).elim (Ne.symm ne_c39_0_r42) (fun q2 => (Ne.symm ne_c39_1_r42) (List.mem_singleton.mp q2)))).keep K108 (fun q0 => (List.mem_cons.mp q0).elim (Ne.symm ne_c39_0_r42) (fun q2 => (Ne.symm ne_c39_1_r42) (List.mem_singleton.mp q2)))).keep K109 (fun q0 => (List.mem_cons.mp q0).elim (Ne.symm ne_c39_0_r42) (fun q2 => (Ne.symm ne_c39_1_r42) (List.mem_singleton.mp q2)))).keep K113 List.not_mem_nil).keep K115 (fun q => ne_r42_r113 (List.mem_singleton.mp q))).keep K117 (fun q0 => (List.mem_cons.mp q0).elim (Ne.symm ne_c39_0_r42) (fun q2 => (Ne.symm ne_c39_1_r42) (List.mem_singleton.mp q2))))
  have fz179 := ((P113_0.keep K115).keep K117)
  have fz180 := (P115_0.keep K117 (fun q0 => (List.mem_cons.mp q0).elim (Ne.symm ne_c39_0_r113) (fun q2 => (Ne.symm ne_c39_1_r113) (List.mem_singleton.mp q2))))
  have fz181 := (P115_1.keep K117 (fun q0 => (List.mem_cons.mp q0).elim (Ne.symm ne_c39_0_r113) (fun q2 => (Ne.symm ne_c39_1_r113) (List.mem_singleton.mp q2))))
  have fz182 := (P115_2.keep K117 (fun q0 => (List.mem_cons.mp q0).elim (Ne.symm ne_c39_0_r113) (fun q2 => (Ne.symm ne_c39_1_r113) (List.mem_singleton.mp q2))))
  refine oS (fun t k => XS.aload X117.here hx rfl (hb hby d28_506) rfl rfl k) ?_
  obtain ⟨cq183, kq183, q183a, q183b, q183c⟩ := isOf hZ e117 fz179
  obtain ⟨_, _, ⟨T183, L183, k183, n183⟩, -, X183, ⟨Lc183, hQ183, l183, y183, z183⟩, st183⟩ := X117.interfaceBack hx (xi := mY51) (y := mY44) hown (oM hZ hw 281 rfl) (oM hZ hw 282 rfl) (oM hZ hw 283 rfl) (oM hZ hw 284 rfl) (oM hZ hw 285 rfl) (oM hZ hw 286 rfl) (oM hZ hw 287 rfl) (oM hZ hw 288 rfl) (by decide) (backOf (W := 0) (rm_hn11 l Z a0 hw [] r113  h117 n0 O117  fz181 fz182) hZ (oW hw 289 rfl) (oW hw 258 rfl) (by decide) (by decide)) q183a q183b q183c (g := (mkF m 508 #[.val (.ref a1), .val (.ref a2), .val (.int 2), .val (.int 2), .val (.ref b7), .val (.ref b18), .val (.long x34_r), .second, .val (.ref r113), .val (.ref u5), .val (.int 3), .val (.ref c18_1), .val (.ref c18_1), .val (.int 2), .val (.int 2), .val (.long 0), .second, .unset, .unset] [(.ref r113)])) rfl (by rw [hml]; rfl) (Steps.refl _) (argsL := []) (rest := []) (lenOf pd_9 rfl) rfl (by show 2 * 0 + _ ≤ _; exact Nat.le_of_eq rfl) (hb hby d28_508) (fun _ _ => ⟨rfl, e117, (by decide : 13 + 0 ≤ _), (by decide : 41 + 0 ≤ _)⟩)
  dsimp only [Pt.U, Pt.locs, Pt.cells, Pt.slots] at X183 l183 y183 z183 st183 hQ183
  rw [l183, y183, z183] at X183
  clear l183 y183 z183
  obtain ⟨rfl, Nq183, e183⟩ := hQ183
  have N183 := Fr.app N117 Nq183
  refine oS (fun t k => st183.trans k) ?_
  show oG _ _ _ _ _ _ _ (T183.setTop (mkF m 513 #[.val (.ref a1), .val (.ref a2), .val (.int 2), .val (.int 2), .val (.ref b7), .val (.ref b18), .val (.long x34_r), .second, .val (.ref r113), .val (.ref u5), .val (.int 3), .val (.ref c18_1), .val (.ref c18_1), .val (.int 2), .val (.int 2), .val (.long 0), .second, .unset, .unset] [(.int 0)]))
  try clear st183 X117 e117
  try clear T117
  refine oS (fun t k => XS.ifYes X183.here hx rfl (pc0 := 513) (pc' := 569) rfl (hb hby d28_513) rfl ((if0 _ _).trans (teq (by decide)).1) (by decide) (by decide) k) ?_
  refine oS (fun t k => oLc ll_0 X183.here hx rfl (hb hby d28_569) k) ?_
  refine oS (fun t k => XS.lstore X183.here hx rfl (hb hby d28_570) rfl (l' := #[.val (.ref a1), .val (.ref a2), .val (.int 2), .val (.int 2), .val (.ref b7), .val (.ref b18), .val (.long x34_r), .second, .val (.long 0), .second, .val (.int 3), .val (.ref c18_1), .val (.ref c18_1), .val (.int 2), .val (.int 2), .val (.long 0), .second, .unset, .unset]) rfl k) ?_
  refine oS (fun t k => XS.aloadN X183.here hx rfl (hb hby d28_572) rfl rfl k) ?_
  obtain ⟨T184, X184, e184, st184⟩ := getF X183 hx hZ hown (host := "") (Or.inl (oW hw 293 rfl)) Via.refl e183 fz121 (g := (mkF m 573 #[.val (.ref a1), .val (.ref a2), .val (.int 2), .val (.int 2), .val (.ref b7), .val (.ref b18), .val (.long x34_r), .second, .val (.long 0), .second, .val (.int 3), .val (.ref c18_1), .val (.ref c18_1), .val (.int 2), .val (.int 2), .val (.long 0), .second, .unset, .unset] [(.ref a1)])) rfl rfl (hb hby d28_573)
  refine oS (fun t k => st184 t k) ?_
  try clear st184 X183 e183
  refine oS (fun t k => XS.astore X184.here hx rfl (hb hby d28_576) rfl rfl (l' := #[.val (.ref a1), .val (.ref a2), .val (.int 2), .val (.int 2), .val (.ref b7), .val (.ref b18), .val (.long x34_r), .second, .val (.long 0), .second, .val (.ref b39), .val (.ref c18_1), .val (.ref c18_1), .val (.int 2), .val (.int 2), .val (.long 0), .second, .unset, .unset]) rfl k) ?_
  refine oS (fun t k => XS.aload X184.here hx rfl (hb hby d28_578) rfl rfl k) ?_
  show oG _ _ _ _ _ _ _ (T184.setTop (mkF m 580 #[.val (.ref a1), .val (.ref a2), .val (.int 2), .val (.int 2), .val (.ref b7), .val (.ref b18), .val (.long x34_r), .second, .val (.long 0), .second, .val (.ref b39), .val (.ref c18_1), .val (.ref c18_1), .val (.int 2), .val (.int 2), .val (.long 0), .second, .unset, .unset] [(.ref b39)]))
  obtain ⟨cl185, Ar185, -, Sz185, Ng185, -, -⟩ := id fz171
  refine oS (S' := (T184.setTop (mkF m 581 #[.val (.ref a1), .val (.ref a2), .val (.int 2), .val (.int 2), .val (.ref b7), .val (.ref b18), .val (.long x34_r), .second, .val (.long 0), .second, .val (.ref b39), .val (.ref c18_1), .val (.ref c18_1), .val (.int 2), .val (.int 2), .val (.long 0), .second, .unset, .unset] [(.int 2)]))) (fun t k => X184.arraylength hx (by rw [e184]; exact Ar185.1) (State.isArrayOf_alike hZ.alike Ar185.2.1) (g := (mkF m 580 #[.val (.ref a1), .val (.ref a2), .val (.int 2), .val (.int 2), .val (.ref b7), .val (.ref b18), .val (.long x34_r), .second, .val (.long 0), .second, .val (.ref b39), .val (.ref c18_1), .val (.ref c18_1), .val (.int 2), .val (.int 2), .val (.long 0), .second, .unset, .unset] [(.ref b39)])) rfl rfl (hb hby d28_580) t (by rw [len_of Sz185 Ng185]; exact k)) ?_
  refine oS (fun t k => XS.istore X184.here hx rfl (hb hby d28_581) rfl (l' := #[.val (.ref a1), .val (.ref a2), .val (.int 2), .val (.int 2), .val (.ref b7), .val (.ref b18), .val (.long x34_r), .second, .val (.long 0), .second, .val (.ref b39), .val (.int 2), .val (.ref c18_1), .val (.int 2), .val (.int 2), .val (.long 0), .second, .unset, .unset]) rfl k) ?_
  refine oS (fun t k => oIc li_0 X184.here hx rfl (hb hby d28_583) k) ?_
  refine oS (fun t k => XS.istore X184.here hx rfl (hb hby d28_584) rfl (l' := #[.val (.ref a1), .val (.ref a2), .val (.int 2), .val (.int 2), .val (.ref b7), .val (.ref b18), .val (.long x34_r), .second, .val (.long 0), .second, .val (.ref b39), .val (.int 2), .val (.int 0), .val (.int 2), .val (.int 2), .val (.long 0), .second, .unset, .unset]) rfl k) ?_
  refine oS (fun t k => XS.iload X184.here hx rfl (hb hby d28_586) rfl k) ?_
  refine oS (fun t k => XS.iload X184.here hx rfl (hb hby d28_588) rfl k) ?_
  refine oS (fun t k => XS.icmpNo X184.here hx rfl (hb hby d28_590) rfl (tlt (by decide)).2.1 k) ?_
  show oG _ _ _ _ _ _ _ (T184.setTop (mkF m 593 #[.val (.ref a1), .val (.ref a2), .val (.int 2), .val (.int 2), .val (.ref b7), .val (.ref b18), .val (.long x34_r), .second, .val (.long 0), .second, .val (.ref b39), .val (.int 2), .val (.int 0), .val (.int 2), .val (.int 2), .val (.long 0), .second, .unset, .unset] []))
  refine oS (fun t k => XS.aload X184.here hx rfl (hb hby d28_593) rfl rfl k) ?_
  refine oS (fun t k => XS.iload X184.here hx rfl (hb hby d28_595) rfl k) ?_
  obtain ⟨cl186, Ar186, qk186, Sz186, Ng186, Ha186, Gf186⟩ := id fz171
  have hin186 : ¬ ((0 : Int32) < 0 ∨ cl186.slots.size ≤ ((0 : Int32)).toNatClampNeg) := (inb_of Sz186 ⟨by decide, by decide⟩)
  have hat186 : cl186.slots[((0 : Int32)).toNatClampNeg]? = some (.ref c39_0) := Ha186.at hin186 rfl
  refine oS (fun t k => X184.aaload hx (j := (0 : Int32)) (v := (.ref c39_0)) (by rw [e184]; exact Ar186.1) (State.isArrayOf_alike hZ.alike Ar186.2.1) rfl Ar186.2.2 hin186 hat186 (g := (mkF m 597 #[.val (.ref a1), .val (.ref a2), .val (.int 2), .val (.int 2), .val (.ref b7), .val (.ref b18), .val (.long x34_r), .second, .val (.long 0), .second, .val (.ref b39), .val (.int 2), .val (.int 0), .val (.int 2), .val (.int 2), .val (.long 0), .second, .unset, .unset] [(.int 0), (.ref b39)])) rfl rfl (hb hby d28_597) t k) ?_
  refine oS (fun t k => XS.astore X184.here hx rfl (hb hby d28_598) rfl rfl (l' := #[.val (.ref a1), .val (.ref a2), .val (.int 2), .val (.int 2), .val (.ref b7), .val (.ref b18), .val (.long x34_r), .second, .val (.long 0), .second, .val (.ref b39), .val (.int 2), .val (.int 0), .val (.ref c39_0), .val (.int 2), .val (.long 0), .second, .unset, .unset]) rfl k) ?_
  refine oS (fun t k => XS.aload X184.here hx rfl (hb hby d28_600) rfl rfl k) ?_
  refine oS (fun t k => XS.astore X184.here hx rfl (hb hby d28_602) rfl rfl (l' := #[.val (.ref a1), .val (.ref a2), .val (.int 2), .val (.int 2), .val (.ref b7), .val (.ref b18), .val (.long x34_r), .second, .val (.long 0), .second, .val (.ref b39), .val (.int 2), .val (.int 0), .val (.ref c39_0), .val (.ref c39_0), .val (.long 0), .second, .unset, .unset]) rfl k) ?_
  refine oS (fun t k => XS.aload X184.here hx rfl (hb hby d28_604) rfl rfl k) ?_
  show oG _ _ _ _ _ _ _ (T184.setTop (mkF m 606 #[.val (.ref a1), .val (.ref a2), .val (.int 2), .val (.int 2), .val (.ref b7), .val (.ref b18), .val (.long x34_r), .second, .val (.long 0), .second, .val (.ref b39), .val (.int 2), .val (.int 0), .val (.ref c39_0), .val (.ref c39_0), .val (.long 0), .second, .unset, .unset] [(.ref c39_0)]))
  obtain ⟨cl187, Ar187, -, Sz187, Ng187, -⟩ := id Pj117_1
  refine oS (S' := (T184.setTop (mkF m 607 #[.val (.ref a1), .val (.ref a2), .val (.int 2), .val (.int 2), .val (.ref b7), .val (.ref b18), .val (.long x34_r), .second, .val (.long 0), .second, .val (.ref b39), .val (.int 2), .val (.int 0), .val (.ref c39_0), .val (.ref c39_0), .val (.long 0), .second, .unset, .unset] [(.int 6)]))) (fun t k => X184.arraylength hx (by rw [e184]; exact Ar187.1) (State.isArrayOf_alike hZ.alike Ar187.2.1) (g := (mkF m 606 #[.val (.ref a1), .val (.ref a2), .val (.int 2), .val (.int 2), .val (.ref b7), .val (.ref b18), .val (.long x34_r), .second, .val (.long 0), .second, .val (.ref b39), .val (.int 2), .val (.int 0), .val (.ref c39_0), .val (.ref c39_0), .val (.long 0), .second, .unset, .unset] [(.ref c39_0)])) rfl rfl (hb hby d28_606) t (by rw [len_of Sz187 Ng187]; exact k)) ?_
  refine oS (fun t k => XS.istore X184.here hx rfl (hb hby d28_607) rfl (l' := #[.val (.ref a1), .val (.ref a2), .val (.int 2), .val (.int 2), .val (.ref b7), .val (.ref b18), .val (.long x34_r), .second, .val (.long 0), .second, .val (.ref b39), .val (.int 2), .val (.int 0), .val (.ref c39_0), .val (.ref c39_0), .val (.int 6), .unset, .unset, .unset]) rfl k) ?_
  refine oS (fun t k => oIc li_0 X184.here hx rfl (hb hby d28_609) k) ?_
  refine oS (fun t k => XS.istore X184.here hx rfl (hb hby d28_610) rfl (l' := #[.val (.ref a1), .val (.ref a2), .val (.int 2), .val (.int 2), .val (.ref b7), .val (.ref b18), .val (.long x34_r), .second, .val (.long 0), .second, .val (.ref b39), .val (.int 2), .val (.int 0), .val (.ref c39_0), .val (.ref c39_0), .val (.int 6), .val (.int 0), .unset, .unset]) rfl k) ?_
  refine oS (fun t k => XS.iload X184.here hx rfl (hb hby d28_612) rfl k) ?_
  refine oS (fun t k => XS.iload X184.here hx rfl (hb hby d28_614) rfl k) ?_
  refine oS (fun t k => XS.icmpNo X184.here hx rfl (hb hby d28_616) rfl (tlt (by decide)).2.1 k) ?_
  show oG _ _ _ _ _ _ _ (T184.setTop (mkF m 619 #[.val (.ref a1), .val (.ref a2), .val (.int 2), .val (.int 2), .val (.ref b7), .val (.ref b18), .val (.long x34_r), .second, .val (.long 0), .second, .val (.ref b39), .val (.int 2), .val (.int 0), .val (.ref c39_0), .val (.ref c39_0), .val (.int 6), .val (.int 0), .unset, .unset] []))
  refine oS (fun t k => XS.aload X184.here hx rfl (hb hby d28_619) rfl rfl k) ?_
  refine oS (fun t k => XS.iload X184.here hx rfl (hb hby d28_621) rfl k) ?_
  obtain ⟨cl188, Ar188, qk188, Sz188, Ng188, Ha188⟩ := id Pj117_1
  have hin188 : ¬ ((0 : Int32) < 0 ∨ cl188.slots.size ≤ ((0 : Int32)).toNatClampNeg) := inb_of Sz188 ⟨by decide, by decide⟩
  have hat188 := Ha188 _ (Nat.lt_of_not_le fun y => hin188 (Or.inr y))
  refine oS (fun t k => X184.laload hx (j := (0 : Int32)) (v := (.long (G117 ((0 : Int32)).toNatClampNeg))) (by rw [e184]; exact Ar188.1) (State.isArrayOf_alike hZ.alike Ar188.2.1) Ar188.2.2 hin188 hat188 (g := (mkF m 623 #[.val (.ref a1), .val (.ref a2), .val (.int 2), .val (.int 2), .val (.ref b7), .val (.ref b18), .val (.long x34_r), .second, .val (.long 0), .second, .val (.ref b39), .val (.int 2), .val (.int 0), .val (.ref c39_0), .val (.ref c39_0), .val (.int 6), .val (.int 0), .unset, .unset] [(.int 0), (.ref c39_0)])) rfl rfl (hb hby d28_623) t k) ?_
  refine oS (fun t k => XS.lstore X184.here hx rfl (hb hby d28_624) rfl (l' := #[.val (.ref a1), .val (.ref a2), .val (.int 2), .val (.int 2), .val (.ref b7), .val (.ref b18), .val (.long x34_r), .second, .val (.long 0), .second, .val (.ref b39), .val (.int 2), .val (.int 0), .val (.ref c39_0), .val (.ref c39_0), .val (.int 6), .val (.int 0), .val (.long (G117 ((0 : Int32)).toNatClampNeg)), .second]) rfl k) ?_
  refine oS (fun t k => XS.lload X184.here hx rfl (hb hby d28_626) rfl k) ?_
  refine oS (fun t k => XS.lload X184.here hx rfl (hb hby d28_628) rfl k) ?_
  obtain ⟨_, _, ⟨T189, L189, k189, n189⟩, -, X189, ⟨Lc189, hQ189, l189, y189, z189⟩, st189⟩ := Jvm.LawKit.callS X184 hx (y := mY47) hown (oM hZ hw 290 rfl) (oM hZ hw 291 rfl) (oM hZ hw 60 rfl) (oM hZ hw 292 rfl) (by decide) (backOf (W := 0) (rm_maxJ l Z a0 hw [] (0 : Int64) (G117 ((0 : Int32)).toNatClampNeg)  h117 n0 O117  ) hZ (oW hw 292 rfl) (oW hw 60 rfl) (by decide) (by decide)) (g := (mkF m 630 #[.val (.ref a1), .val (.ref a2), .val (.int 2), .val (.int 2), .val (.ref b7), .val (.ref b18), .val (.long x34_r), .second, .val (.long 0), .second, .val (.ref b39), .val (.int 2), .val (.int 0), .val (.ref c39_0), .val (.ref c39_0), .val (.int 6), .val (.int 0), .val (.long (G117 ((0 : Int32)).toNatClampNeg)), .second] [(.long (G117 ((0 : Int32)).toNatClampNeg)), (.long 0)])) rfl (by rw [hml]; rfl) (argsL := [(.long 0), (.long (G117 ((0 : Int32)).toNatClampNeg))]) (rest := []) (lenOf pd_19 rfl) rfl (by show 2 * 0 + _ ≤ _; exact Nat.le_of_eq rfl) (hb hby d28_630) (fun _ _ => ⟨rfl, e184, (by decide : 13 + 0 ≤ _), (by decide : 41 + 0 ≤ _)⟩)
  dsimp only [Pt.U, Pt.locs, Pt.cells, Pt.slots] at X189 l189 y189 z189 st189 hQ189
  rw [l189, y189, z189] at X189
  clear l189 y189 z189
  obtain ⟨x189_r, rfl, Nq189, e189⟩ := hQ189
  have N189 := Fr.app N183 Nq189
  refine oS (fun t k => st189 t k) ?_
  show oG _ _ _ _ _ _ _ (T189.setTop (mkF m 633 #[.val (.ref a1), .val (.ref a2), .val (.int 2), .val (.int 2), .val (.ref b7), .val (.ref b18), .val (.long x34_r), .second, .val (.long 0), .second, .val (.ref b39), .val (.int 2), .val (.int 0), .val (.ref c39_0), .val (.ref c39_0), .val (.int 6), .val (.int 0), .val (.long (G117 ((0 : Int32)).toNatClampNeg)), .second] [(.long x189_r)]))
  try clear st189 X184 e184
  try clear T184
  refine oS (fun t k => XS.lstore X189.here hx rfl (hb hby d28_633) rfl (l' := #[.val (.ref a1), .val (.ref a2), .val (.int 2), .val (.int 2), .val (.ref b7), .val (.ref b18), .val (.long x34_r), .second, .val (.long x189_r), .second, .val (.ref b39), .val (.int 2), .val (.int 0), .val (.ref c39_0), .val (.ref c39_0), .val (.int 6), .val (.int 0), .val (.long (G117 ((0 : Int32)).toNatClampNeg)), .second]) rfl k) ?_
  refine oS (fun t k => XS.iinc X189.here hx rfl (hb hby d28_635) rfl (l' := #[.val (.ref a1), .val (.ref a2), .val (.int 2), .val (.int 2), .val (.ref b7), .val (.ref b18), .val (.long x34_r), .second, .val (.long x189_r), .second, .val (.ref b39), .val (.int 2), .val (.int 0), .val (.ref c39_0), .val (.ref c39_0), .val (.int 6), .val (.int 1), .val (.long (G117 ((0 : Int32)).toNatClampNeg)), .second]) rfl k) ?_
  show oG _ _ _ _ _ _ _ (T189.setTop (mkF m 638 #[.val (.ref a1), .val (.ref a2), .val (.int 2), .val (.int 2), .val (.ref b7), .val (.ref b18), .val (.long x34_r), .second, .val (.long x189_r), .second, .val (.ref b39), .val (.int 2), .val (.int 0), .val (.ref c39_0), .val (.ref c39_0), .val (.int 6), .val (.int 1), .val (.long (G117 ((0 : Int32)).toNatClampNeg)), .second] []))
  refine oS (fun t k => XS.goto X189.here hx rfl (pc0 := 638) (pc' := 612) rfl (hb hby d28_638) (by decide) (by decide) k) ?_
  show oG _ _ _ _ _ _ _ (T189.setTop (mkF m 612 #[.val (.ref a1), .val (.ref a2), .val (.int 2), .val (.int 2), .val (.ref b7), .val (.ref b18), .val (.long x34_r), .second, .val (.long x189_r), .second, .val (.ref b39), .val (.int 2), .val (.int 0), .val (.ref c39_0), .val (.ref c39_0), .val (.int 6), .val (.int 1), .val (.long (G117 ((0 : Int32)).toNatClampNeg)), .second] []))
  refine pc_mx l Z a0 hw w W hx hby hml hZ hown _ _ h117 n0 c39_0 kr39 G117 x189_r (G117 ((0 : Int32)).toNatClampNeg) (1 : Int32) (2 : Int32) _ _ _ _ _ _ _ _ _ _ _ _ X189 e189 N189 O117 Pj117_1 (by decide) (by decide) (by decide) ?_
  intro T190 L190 qn190 qv190 X190 e190 N190 
  show oG _ _ _ _ _ _ _ (T190.setTop (mkF m 612 #[.val (.ref a1), .val (.ref a2), .val (.int 2), .val (.int 2), .val (.ref b7), .val (.ref b18), .val (.long x34_r), .second, .val (.long qn190), .second, .val (.ref b39), .val (.int 2), .val (.int 0), .val (.ref c39_0), .val (.ref c39_0), .val (.int 6), .val (.int 2), .val (.long qv190), .second] []))
  try clear X189 e189
  show oG _ _ _ _ _ _ _ (T190.setTop (mkF m 612 #[.val (.ref a1), .val (.ref a2), .val (.int 2), .val (.int 2), .val (.ref b7), .val (.ref b18), .val (.long x34_r), .second, .val (.long qn190), .second, .val (.ref b39), .val (.int 2), .val (.int 0), .val (.ref c39_0), .val (.ref c39_0), .val (.int 6), .val (.int 2), .val (.long qv190), .second] []))
  refine pc_mx l Z a0 hw w W hx hby hml hZ hown _ _ h117 n0 c39_0 kr39 G117 qn190 qv190 (2 : Int32) (3 : Int32) _ _ _ _ _ _ _ _ _ _ _ _ X190 e190 N190 O117 Pj117_1 (by decide) (by decide) (by decide) ?_
  intro T191 L191 qn191 qv191 X191 e191 N191 
  show oG _ _ _ _ _ _ _ (T191.setTop (mkF m 612 #[.val (.ref a1), .val (.ref a2), .val (.int 2), .val (.int 2), .val (.ref b7), .val (.ref b18), .val (.long x34_r), .second, .val (.long qn191), .second, .val (.ref b39), .val (.int 2), .val (.int 0), .val (.ref c39_0), .val (.ref c39_0), .val (.int 6), .val (.int 3), .val (.long qv191), .second] []))
  try clear X190 e190
  show oG _ _ _ _ _ _ _ (T191.setTop (mkF m 612 #[.val (.ref a1), .val (.ref a2), .val (.int 2), .val (.int 2), .val (.ref b7), .val (.ref b18), .val (.long x34_r), .second, .val (.long qn191), .second, .val (.ref b39), .val (.int 2), .val (.int 0), .val (.ref c39_0), .val (.ref c39_0), .val (.int 6), .val (.int 3), .val (.long qv191), .second] []))
  refine pc_mx l Z a0 hw w W hx hby hml hZ hown _ _ h117 n0 c39_0 kr39 G117 qn191 qv191 (3 : Int32) (4 : Int32) _ _ _ _ _ _ _ _ _ _ _ _ X191 e191 N191 O117 Pj117_1 (by decide) (by decide) (by decide) ?_
  intro T192 L192 qn192 qv192 X192 e192 N192 
  show oG _ _ _ _ _ _ _ (T192.setTop (mkF m 612 #[.val (.ref a1), .val (.ref a2), .val (.int 2), .val (.int 2), .val (.ref b7), .val (.ref b18), .val (.long x34_r), .second, .val (.long qn192), .second, .val (.ref b39), .val (.int 2), .val (.int 0), .val (.ref c39_0), .val (.ref c39_0), .val (.int 6), .val (.int 4), .val (.long qv192), .second] []))
  try clear X191 e191
  show oG _ _ _ _ _ _ _ (T192.setTop (mkF m 612 #[.val (.ref a1), .val (.ref a2), .val (.int 2), .val (.int 2), .val (.ref b7), .val (.ref b18), .val (.long x34_r), .second, .val (.long qn192), .second, .val (.ref b39), .val (.int 2), .val (.int 0), .val (.ref c39_0), .val (.ref c39_0), .val (.int 6), .val (.int 4), .val (.long qv192), .second] []))
  refine pc_mx l Z a0 hw w W hx hby hml hZ hown _ _ h117 n0 c39_0 kr39 G117 qn192 qv192 (4 : Int32) (5 : Int32) _ _ _ _ _ _ _ _ _ _ _ _ X192 e192 N192 O117 Pj117_1 (by decide) (by decide) (by decide) ?_
  intro T193 L193 qn193 qv193 X193 e193 N193 
  show oG _ _ _ _ _ _ _ (T193.setTop (mkF m 612 #[.val (.ref a1), .val (.ref a2), .val (.int 2), .val (.int 2), .val (.ref b7), .val (.ref b18), .val (.long x34_r), .second, .val (.long qn193), .second, .val (.ref b39), .val (.int 2), .val (.int 0), .val (.ref c39_0), .val (.ref c39_0), .val (.int 6), .val (.int 5), .val (.long qv193), .second] []))
  try clear X192 e192
  show oG _ _ _ _ _ _ _ (T193.setTop (mkF m 612 #[.val (.ref a1), .val (.ref a2), .val (.int 2), .val (.int 2), .val (.ref b7), .val (.ref b18), .val (.long x34_r), .second, .val (.long qn193), .second, .val (.ref b39), .val (.int 2), .val (.int 0), .val (.ref c39_0), .val (.ref c39_0), .val (.int 6), .val (.int 5), .val (.long qv193), .second] []))
  refine pc_mx l Z a0 hw w W hx hby hml hZ hown _ _ h117 n0 c39_0 kr39 G117 qn193 qv193 (5 : Int32) (6 : Int32) _ _ _ _ _ _ _ _ _ _ _ _ X193 e193 N193 O117 Pj117_1 (by decide) (by decide) (by decide) ?_
  intro T194 L194 qn194 qv194 X194 e194 N194 
  show oG _ _ _ _ _ _ _ (T194.setTop (mkF m 612 #[.val (.ref a1), .val (.ref a2), .val (.int 2), .val (.int 2), .val (.ref b7), .val (.ref b18), .val (.long x34_r), .second, .val (.long qn194), .second, .val (.ref b39), .val (.int 2), .val (.int 0), .val (.ref c39_0), .val (.ref c39_0), .val (.int 6), .val (.int 6), .val (.long qv194), .second] []))
  try clear X193 e193
  refine oS (fun t k => XS.iload X194.here hx rfl (hb hby d28_612) rfl k) ?_
  refine oS (fun t k => XS.iload X194.here hx rfl (hb hby d28_614) rfl k) ?_
  refine oS (fun t k => XS.icmpYes X194.here hx rfl (pc0 := 616) (pc' := 641) rfl (hb hby d28_616) rfl (flt (by decide)).2.1 (by decide) (by decide) k) ?_
  refine oS (fun t k => XS.iinc X194.here hx rfl (hb hby d28_641) rfl (l' := #[.val (.ref a1), .val (.ref a2), .val (.int 2), .val (.int 2), .val (.ref b7), .val (.ref b18), .val (.long x34_r), .second, .val (.long qn194), .second, .val (.ref b39), .val (.int 2), .val (.int 1), .val (.ref c39_0), .val (.ref c39_0), .val (.int 6), .val (.int 6), .val (.long qv194), .second]) rfl k) ?_
  show oG _ _ _ _ _ _ _ (T194.setTop (mkF m 644 #[.val (.ref a1), .val (.ref a2), .val (.int 2), .val (.int 2), .val (.ref b7), .val (.ref b18), .val (.long x34_r), .second, .val (.long qn194), .second, .val (.ref b39), .val (.int 2), .val (.int 1), .val (.ref c39_0), .val (.ref c39_0), .val (.int 6), .val (.int 6), .val (.long qv194), .second] []))
  refine oS (fun t k => XS.goto X194.here hx rfl (pc0 := 644) (pc' := 586) rfl (hb hby d28_644) (by decide) (by decide) k) ?_
  refine oS (fun t k => XS.iload X194.here hx rfl (hb hby d28_586) rfl k) ?_
  refine oS (fun t k => XS.iload X194.here hx rfl (hb hby d28_588) rfl k) ?_
  refine oS (fun t k => XS.icmpNo X194.here hx rfl (hb hby d28_590) rfl (tlt (by decide)).2.1 k) ?_
  refine oS (fun t k => XS.aload X194.here hx rfl (hb hby d28_593) rfl rfl k) ?_
  refine oS (fun t k => XS.iload X194.here hx rfl (hb hby d28_595) rfl k) ?_
  obtain ⟨cl195, Ar195, qk195, Sz195, Ng195, Ha195, Gf195⟩ := id fz171
  have hin195 : ¬ ((1 : Int32) < 0 ∨ cl195.slots.size ≤ ((1 : Int32)).toNatClampNeg) := (inb_of Sz195 ⟨by decide, by decide⟩)
  have hat195 : cl195.slots[((1 : Int32)).toNatClampNeg]? = some (.ref c39_1) := Ha195.at hin195 rfl
  refine oS (fun t k => X194.aaload hx (j := (1 : Int32)) (v := (.ref c39_1)) (by rw [e194]; exact Ar195.1) (State.isArrayOf_alike hZ.alike Ar195.2.1) rfl Ar195.2.2 hin195 hat195 (g := (mkF m 597 #[.val (.ref a1), .val (.ref a2), .val (.int 2), .val (.int 2), .val (.ref b7), .val (.ref b18), .val (.long x34_r), .second, .val (.long qn194), .second, .val (.ref b39), .val (.int 2), .val (.int 1), .val (.ref c39_0), .val (.ref c39_0), .val (.int 6), .val (.int 6), .val (.long qv194), .second] [(.int 1), (.ref b39)])) rfl rfl (hb hby d28_597) t k) ?_
  show oG _ _ _ _ _ _ _ (T194.setTop (mkF m 598 #[.val (.ref a1), .val (.ref a2), .val (.int 2), .val (.int 2), .val (.ref b7), .val (.ref b18), .val (.long x34_r), .second, .val (.long qn194), .second, .val (.ref b39), .val (.int 2), .val (.int 1), .val (.ref c39_0), .val (.ref c39_0), .val (.int 6), .val (.int 6), .val (.long qv194), .second] [(.ref c39_1)]))
  refine oS (fun t k => XS.astore X194.here hx rfl (hb hby d28_598) rfl rfl (l' := #[.val (.ref a1), .val (.ref a2), .val (.int 2), .val (.int 2), .val (.ref b7), .val (.ref b18), .val (.long x34_r), .second, .val (.long qn194), .second, .val (.ref b39), .val (.int 2), .val (.int 1), .val (.ref c39_1), .val (.ref c39_0), .val (.int 6), .val (.int 6), .val (.long qv194), .second]) rfl k) ?_
  refine oS (fun t k => XS.aload X194.here hx rfl (hb hby d28_600) rfl rfl k) ?_
  refine oS (fun t k => XS.astore X194.here hx rfl (hb hby d28_602) rfl rfl (l' := #[.val (.ref a1), .val (.ref a2), .val (.int 2), .val (.int 2), .val (.ref b7), .val (.ref b18), .val (.long x34_r), .second, .val (.long qn194), .second, .val (.ref b39), .val (.int 2), .val (.int 1), .val (.ref c39_1), .val (.ref c39_1), .val (.int 6), .val (.int 6), .val (.long qv194), .second]) rfl k) ?_
  refine oS (fun t k => XS.aload X194.here hx rfl (hb hby d28_604) rfl rfl k) ?_
  obtain ⟨cl196, Ar196, -, Sz196, Ng196, -⟩ := id Pj117_2
  refine oS (S' := (T194.setTop (mkF m 607 #[.val (.ref a1), .val (.ref a2), .val (.int 2), .val (.int 2), .val (.ref b7), .val (.ref b18), .val (.long x34_r), .second, .val (.long qn194), .second, .val (.ref b39), .val (.int 2), .val (.int 1), .val (.ref c39_1), .val (.ref c39_1), .val (.int 6), .val (.int 6), .val (.long qv194), .second] [(.int 6)]))) (fun t k => X194.arraylength hx (by rw [e194]; exact Ar196.1) (State.isArrayOf_alike hZ.alike Ar196.2.1) (g := (mkF m 606 #[.val (.ref a1), .val (.ref a2), .val (.int 2), .val (.int 2), .val (.ref b7), .val (.ref b18), .val (.long x34_r), .second, .val (.long qn194), .second, .val (.ref b39), .val (.int 2), .val (.int 1), .val (.ref c39_1), .val (.ref c39_1), .val (.int 6), .val (.int 6), .val (.long qv194), .second] [(.ref c39_1)])) rfl rfl (hb hby d28_606) t (by rw [len_of Sz196 Ng196]; exact k)) ?_
  refine oS (fun t k => XS.istore X194.here hx rfl (hb hby d28_607) rfl (l' := #[.val (.ref a1), .val (.ref a2), .val (.int 2), .val (.int 2), .val (.ref b7), .val (.ref b18), .val (.long x34_r), .second, .val (.long qn194), .second, .val (.ref b39), .val (.int 2), .val (.int 1), .val (.ref c39_1), .val (.ref c39_1), .val (.int 6), .val (.int 6), .val (.long qv194), .second]) rfl k) ?_
  refine oS (fun t k => oIc li_0 X194.here hx rfl (hb hby d28_609) k) ?_
  show oG _ _ _ _ _ _ _ (T194.setTop (mkF m 610 #[.val (.ref a1), .val (.ref a2), .val (.int 2), .val (.int 2), .val (.ref b7), .val (.ref b18), .val (.long x34_r), .second, .val (.long qn194), .second, .val (.ref b39), .val (.int 2), .val (.int 1), .val (.ref c39_1), .val (.ref c39_1), .val (.int 6), .val (.int 6), .val (.long qv194), .second] [(.int 0)]))
  refine oS (fun t k => XS.istore X194.here hx rfl (hb hby d28_610) rfl (l' := #[.val (.ref a1), .val (.ref a2), .val (.int 2), .val (.int 2), .val (.ref b7), .val (.ref b18), .val (.long x34_r), .second, .val (.long qn194), .second, .val (.ref b39), .val (.int 2), .val (.int 1), .val (.ref c39_1), .val (.ref c39_1), .val (.int 6), .val (.int 0), .val (.long qv194), .second]) rfl k) ?_
  show oG _ _ _ _ _ _ _ (T194.setTop (mkF m 612 #[.val (.ref a1), .val (.ref a2), .val (.int 2), .val (.int 2), .val (.ref b7), .val (.ref b18), .val (.long x34_r), .second, .val (.long qn194), .second, .val (.ref b39), .val (.int 2), .val (.int 1), .val (.ref c39_1), .val (.ref c39_1), .val (.int 6), .val (.int 0), .val (.long qv194), .second] []))
  refine pc_mx l Z a0 hw w W hx hby hml hZ hown _ _ h117 n0 c39_1 kr39 (own_hi G117) qn194 qv194 (0 : Int32) (1 : Int32) _ _ _ _ _ _ _ _ _ _ _ _ X194 e194 N194 O117 Pj117_2 (by decide) (by decide) (by decide) ?_
  intro T197 L197 qn197 qv197 X197 e197 N197 
  show oG _ _ _ _ _ _ _ (T197.setTop (mkF m 612 #[.val (.ref a1), .val (.ref a2), .val (.int 2), .val (.int 2), .val (.ref b7), .val (.ref b18), .val (.long x34_r), .second, .val (.long qn197), .second, .val (.ref b39), .val (.int 2), .val (.int 1), .val (.ref c39_1), .val (.ref c39_1), .val (.int 6), .val (.int 1), .val (.long qv197), .second] []))
  try clear X194 e194
  show oG _ _ _ _ _ _ _ (T197.setTop (mkF m 612 #[.val (.ref a1), .val (.ref a2), .val (.int 2), .val (.int 2), .val (.ref b7), .val (.ref b18), .val (.long x34_r), .second, .val (.long qn197), .second, .val (.ref b39), .val (.int 2), .val (.int 1), .val (.ref c39_1), .val (.ref c39_1), .val (.int 6), .val (.int 1), .val (.long qv197), .second] []))
  refine pc_mx l Z a0 hw w W hx hby hml hZ hown _ _ h117 n0 c39_1 kr39 (own_hi G117) qn197 qv197 (1 : Int32) (2 : Int32) _ _ _ _ _ _ _ _ _ _ _ _ X197 e197 N197 O117 Pj117_2 (by decide) (by decide) (by decide) ?_
  intro T198 L198 qn198 qv198 X198 e198 N198 
  show oG _ _ _ _ _ _ _ (T198.setTop (mkF m 612 #[.val (.ref a1), .val (.ref a2), .val (.int 2), .val (.int 2), .val (.ref b7), .val (.ref b18), .val (.long x34_r), .second, .val (.long qn198), .second, .val (.ref b39), .val (.int 2), .val (.int 1), .val (.ref c39_1), .val (.ref c39_1), .val (.int 6), .val (.int 2), .val (.long qv198), .second] []))
  try clear X197 e197
  show oG _ _ _ _ _ _ _ (T198.setTop (mkF m 612 #[.val (.ref a1), .val (.ref a2), .val (.int 2), .val (.int 2), .val (.ref b7), .val (.ref b18), .val (.long x34_r), .second, .val (.long qn198), .second, .val (.ref b39), .val (.int 2), .val (.int 1), .val (.ref c39_1), .val (.ref c39_1), .val (.int 6), .val (.int 2), .val (.long qv198), .second] []))
  refine pc_mx l Z a0 hw w W hx hby hml hZ hown _ _ h117 n0 c39_1 kr39 (own_hi G117) qn198 qv198 (2 : Int32) (3 : Int32) _ _ _ _ _ _ _ _ _ _ _ _ X198 e198 N198 O117 Pj117_2 (by decide) (by decide) (by decide) ?_
  intro T199 L199 qn199 qv199 X199 e199 N199 
  show oG _ _ _ _ _ _ _ (T199.setTop (mkF m 612 #[.val (.ref a1), .val (.ref a2), .val (.int 2), .val (.int 2), .val (.ref b7), .val (.ref b18), .val (.long x34_r), .second, .val (.long qn199), .second, .val (.ref b39), .val (.int 2), .val (.int 1), .val (.ref c39_1), .val (.ref c39_1), .val (.int 6), .val (.int 3), .val (.long qv199), .second] []))
  try clear X198 e198
  show oG _ _ _ _ _ _ _ (T199.setTop (mkF m 612 #[.val (.ref a1), .val (.ref a2), .val (.int 2), .val (.int 2), .val (.ref b7), .val (.ref b18), .val (.long x34_r), .second, .val (.long qn199), .second, .val (.ref b39), .val (.int 2), .val (.int 1), .val (.ref c39_1), .val (.ref c39_1), .val (.int 6), .val (.int 3), .val (.long qv199), .second] []))
  refine pc_mx l Z a0 hw w W hx hby hml hZ hown _ _ h117 n0 c39_1 kr39 (own_hi G117) qn199 qv199 (3 : Int32) (4 : Int32) _ _ _ _ _ _ _ _ _ _ _ _ X199 e199 N199 O117 Pj117_2 (by decide) (by decide) (by decide) ?_
  intro T200 L200 qn200 qv200 X200 e200 N200 
  show oG _ _ _ _ _ _ _ (T200.setTop (mkF m 612 #[.val (.ref a1), .val (.ref a2), .val (.int 2), .val (.int 2), .val (.ref b7), .val (.ref b18), .val (.long x34_r), .second, .val (.long qn200), .second, .val (.ref b39), .val (.int 2), .val (.int 1), .val (.ref c39_1), .val (.ref c39_1), .val (.int 6), .val (.int 4), .val (.long qv200), .second] []))
  try clear X199 e199
  show oG _ _ _ _ _ _ _ (T200.setTop (mkF m 612 #[.val (.ref a1), .val (.ref a2), .val (.int 2), .val (.int 2), .val (.ref b7), .val (.ref b18), .val (.long x34_r), .second, .val (.long qn200), .second, .val (.ref b39), .val (.int 2), .val (.int 1), .val (.ref c39_1), .val (.ref c39_1), .val (.int 6), .val (.int 4), .val (.long qv200), .second] []))
  refine pc_mx l Z a0 hw w W hx hby hml hZ hown _ _ h117 n0 c39_1 kr39 (own_hi G117) qn200 qv200 (4 : Int32) (5 : Int32) _ _ _ _ _ _ _ _ _ _ _ _ X200 e200 N200 O117 Pj117_2 (by decide) (by decide) (by decide) ?_
  intro T201 L201 qn201 qv201 X201 e201 N201 
  show oG _ _ _ _ _ _ _ (T201.setTop (mkF m 612 #[.val (.ref a1), .val (.ref a2), .val (.int 2), .val (.int 2), .val (.ref b7), .val (.ref b18), .val (.long x34_r), .second, .val (.long qn201), .second, .val (.ref b39), .val (.int 2), .val (.int 1), .val (.ref c39_1), .val (.ref c39_1), .val (.int 6), .val (.int 5), .val (.long qv201), .second] []))
  try clear X200 e200
  show oG _ _ _ _ _ _ _ (T201.setTop (mkF m 612 #[.val (.ref a1), .val (.ref a2), .val (.int 2), .val (.int 2), .val (.ref b7), .val (.ref b18), .val (.long x34_r), .second, .val (.long qn201), .second, .val (.ref b39), .val (.int 2), .val (.int 1), .val (.ref c39_1), .val (.ref c39_1), .val (.int 6), .val (.int 5), .val (.long qv201), .second] []))
  refine pc_mx l Z a0 hw w W hx hby hml hZ hown _ _ h117 n0 c39_1 kr39 (own_hi G117) qn201 qv201 (5 : Int32) (6 : Int32) _ _ _ _ _ _ _ _ _ _ _ _ X201 e201 N201 O117 Pj117_2 (by decide) (by decide) (by decide) ?_
  intro T202 L202 qn202 qv202 X202 e202 N202 
  show oG _ _ _ _ _ _ _ (T202.setTop (mkF m 612 #[.val (.ref a1), .val (.ref a2), .val (.int 2), .val (.int 2), .val (.ref b7), .val (.ref b18), .val (.long x34_r), .second, .val (.long qn202), .second, .val (.ref b39), .val (.int 2), .val (.int 1), .val (.ref c39_1), .val (.ref c39_1), .val (.int 6), .val (.int 6), .val (.long qv202), .second] []))
  try clear X201 e201
  refine oS (fun t k => XS.iload X202.here hx rfl (hb hby d28_612) rfl k) ?_
  refine oS (fun t k => XS.iload X202.here hx rfl (hb hby d28_614) rfl k) ?_
  refine oS (fun t k => XS.icmpYes X202.here hx rfl (pc0 := 616) (pc' := 641) rfl (hb hby d28_616) rfl (flt (by decide)).2.1 (by decide) (by decide) k) ?_
  refine oS (fun t k => XS.iinc X202.here hx rfl (hb hby d28_641) rfl (l' := #[.val (.ref a1), .val (.ref a2), .val (.int 2), .val (.int 2), .val (.ref b7), .val (.ref b18), .val (.long x34_r), .second, .val (.long qn202), .second, .val (.ref b39), .val (.int 2), .val (.int 2), .val (.ref c39_1), .val (.ref c39_1), .val (.int 6), .val (.int 6), .val (.long qv202), .second]) rfl k) ?_
  show oG _ _ _ _ _ _ _ (T202.setTop (mkF m 644 #[.val (.ref a1), .val (.ref a2), .val (.int 2), .val (.int 2), .val (.ref b7), .val (.ref b18), .val (.long x34_r), .second, .val (.long qn202), .second, .val (.ref b39), .val (.int 2), .val (.int 2), .val (.ref c39_1), .val (.ref c39_1), .val (.int 6), .val (.int 6), .val (.long qv202), .second] []))
  refine oS (fun t k => XS.goto X202.here hx rfl (pc0 := 644) (pc' := 586) rfl (hb hby d28_644) (by decide) (by decide) k) ?_
  refine oS (fun t k => XS.iload X202.here hx rfl (hb hby d28_586) rfl k) ?_
  refine oS (fun t k => XS.iload X202.here hx rfl (hb hby d28_588) rfl k) ?_
  refine oS (fun t k => XS.icmpYes X202.here hx rfl (pc0 := 590) (pc' := 647) rfl (hb hby d28_590) rfl (flt (by decide)).2.1 (by decide) (by decide) k) ?_
  refine oS (fun t k => XS.aloadN X202.here hx rfl (hb hby d28_647) rfl rfl k) ?_
  refine oS (fun t k => X202.ldc2Long hx hown (oM hZ hw 346 rfl) (g := (mkF m 648 #[.val (.ref a1), .val (.ref a2), .val (.int 2), .val (.int 2), .val (.ref b7), .val (.ref b18), .val (.long x34_r), .second, .val (.long qn202), .second, .val (.ref b39), .val (.int 2), .val (.int 2), .val (.ref c39_1), .val (.ref c39_1), .val (.int 6), .val (.int 6), .val (.long qv202), .second] [(.ref a1)])) rfl (hb hby d28_648) t k) ?_
  refine oS (fun t k => XS.lload X202.here hx rfl (hb hby d28_651) rfl k) ?_
  show oG _ _ _ _ _ _ _ (T202.setTop (mkF m 653 #[.val (.ref a1), .val (.ref a2), .val (.int 2), .val (.int 2), .val (.ref b7), .val (.ref b18), .val (.long x34_r), .second, .val (.long qn202), .second, .val (.ref b39), .val (.int 2), .val (.int 2), .val (.ref c39_1), .val (.ref c39_1), .val (.int 6), .val (.int 6), .val (.long qv202), .second] [(.long x34_r), (.long 2), (.ref a1)]))
  refine oS (fun t k => XS.lmul X202.here hx rfl (hb hby d28_653) rfl k) ?_
  obtain ⟨T203, h203, X203, e203, W203, st203⟩ := putF X202 hx hZ hown (host := "") (Or.inl (oW hw 347 rfl)) Via.refl e202 fz122 fz118 (Or.inr ⟨(oW hw 348 rfl), rfl, hnm⟩) (oW hw 199 rfl) (ty := .long) (by decide) rfl rfl (g := (mkF m 654 #[.val (.ref a1), .val (.ref a2), .val (.int 2), .val (.int 2), .val (.ref b7), .val (.ref b18), .val (.long x34_r), .second, .val (.long qn202), .second, .val (.ref b39), .val (.int 2), .val (.int 2), .val (.ref c39_1), .val (.ref c39_1), .val (.int 6), .val (.int 6), .val (.long qv202), .second] [(.long ((2 : Int64) * x34_r)), (.ref a1)])) rfl rfl (hb hby d28_654)
  have O203 := O117.wr W203 g_a1
  have N203 := Fr.snoc X203 N202 g_a1
  have Kp203 : Keep h0 h203 [a1] := Kp117.wr W203 (Or.inl (List.mem_of_getElem? (i := 0) rfl))
  have Fw203 := fz122.same W203
  refine oS (fun t k => st203 t k) ?_
  try clear st203 X202 e202
  try clear T202
  refine oS (fun t k => XS.aloadN X203.here hx rfl (hb hby d28_657) rfl rfl k) ?_
  refine oS (fun t k => XS.lload X203.here hx rfl (hb hby d28_658) rfl k) ?_
  obtain ⟨T204, h204, X204, e204, W204, st204⟩ := putF X203 hx hZ hown (host := "") (Or.inl (oW hw 349 rfl)) Via.refl e203 (fz123.other W203 (Or.inr (slot_ne (Or.inr (oW hw 350 rfl)) (Or.inr (oW hw 348 rfl)) (by decide) (t := .long) (t' := .long) (by decide) (by decide)))) (fz118.wr W203) (Or.inr ⟨(oW hw 350 rfl), rfl, hnm⟩) (oW hw 199 rfl) (ty := .long) (by decide) rfl rfl (g := (mkF m 660 #[.val (.ref a1), .val (.ref a2), .val (.int 2), .val (.int 2), .val (.ref b7), .val (.ref b18), .val (.long x34_r), .second, .val (.long qn202), .second, .val (.ref b39), .val (.int 2), .val (.int 2), .val (.ref c39_1), .val (.ref c39_1), .val (.int 6), .val (.int 6), .val (.long qv202), .second] [(.long qn202), (.ref a1)])) rfl rfl (hb hby d28_660)
  have O204 := O203.wr W204 g_a1
  have N204 := Fr.snoc X204 N203 g_a1
  have Kp204 : Keep h0 h204 [a1] := Kp203.wr W204 (Or.inl (List.mem_of_getElem? (i := 0) rfl))
  have Fw204 := (fz123.other W203 (Or.inr (slot_ne (Or.inr (oW hw 350 rfl)) (Or.inr (oW hw 348 rfl)) (by decide) (t := .long) (t' := .long) (by decide) (by decide)))).same W204
  refine oS (fun t k => st204 t k) ?_
  try clear st204 X203 e203
  try clear T203
  exact own_ret (v := none) X204 (fun _ => rfl) Bd.notSynchronized (fun fs hr => X204.returnOut hx Bd.returns (hb hby d28_663) hr) (by rw [e204]; exact ⟨b39, c39_0, c39_1, k39, kr39, G117, rfl, N204, Kp204, ((fz119.other W203 (Or.inr (slot_ne (Or.inr (oW hw 225 rfl)) (Or.inr (oW hw 348 rfl)) (by decide) (t := .int) (t' := .long) (by decide) (by decide)))).other W204 (Or.inr (slot_ne (Or.inr (oW hw 225 rfl)) (Or.inr (oW hw 350 rfl)) (by decide) (t := .int) (t' := .long) (by decide) (by decide)))), ((fz121.other W203 (Or.inr (slot_ne (Or.inr (oW hw 294 rfl)) (Or.inr (oW hw 348 rfl)) (by decide) (t := (.array (.array .long))) (t' := .long) (by decide) (by decide)))).other W204 (Or.inr (slot_ne (Or.inr (oW hw 294 rfl)) (Or.inr (oW hw 350 rfl)) (by decide) (t := (.array (.array .long))) (t' := .long) (by decide) (by decide)))), ((fz171.other W203 (Ne.symm ne_a1_b39)).other W204 (Ne.symm ne_a1_b39)), ((Pj117_1.other W203 (Ne.symm ne_a1_c39_0)).other W204 (Ne.symm ne_a1_c39_0)), ((Pj117_2.other W203 (Ne.symm ne_a1_c39_1)).other W204 (Ne.symm ne_a1_c39_1)), (by rw [Pj117_0, Pj109_0, Pj108_0, Pj107_0]; rfl)⟩) (by decide) (by decide)
theorem d48_0 : decode prog_56_method_3_code 0 = .ok (.aload_n 0, 1) := by decide +kernel
theorem d48_1 : decode prog_56_method_3_code 1 = .ok (.getfield 86, 3) := by decide +kernel
theorem d48_4 : decode prog_56_method_3_code 4 = .ok (.iload_n 1, 1) := by decide +kernel
theorem d48_5 : decode prog_56_method_3_code 5 = .ok (.aaload, 1) := by decide +kernel
theorem d48_6 : decode prog_56_method_3_code 6 = .ok (.iload_n 2, 1) := by decide +kernel
theorem d48_7 : decode prog_56_method_3_code 7 = .ok (.aload_n 0, 1) := by decide +kernel
theorem d48_8 : decode prog_56_method_3_code 8 = .ok (.getfield 22, 3) := by decide +kernel
theorem d48_11 : decode prog_56_method_3_code 11 = .ok (.imul, 1) := by decide +kernel
theorem d48_12 : decode prog_56_method_3_code 12 = .ok (.iload_n 3, 1) := by decide +kernel
theorem d48_13 : decode prog_56_method_3_code 13 = .ok (.iadd, 1) := by decide +kernel
theorem d48_14 : decode prog_56_method_3_code 14 = .ok (.iconst 1, 1) := by decide +kernel
theorem d48_15 : decode prog_56_method_3_code 15 = .ok (.iadd, 1) := by decide +kernel
theorem d48_16 : decode prog_56_method_3_code 16 = .ok (.laload, 1) := by decide +kernel
theorem d48_17 : decode prog_56_method_3_code 17 = .ok (.lreturn, 1) := by decide +kernel
abbrev mY54 : MethodName := (⟨"com/example/shiftweave/shiftweave/rostering/Penalties", "requests", "(III)J"⟩ : MethodName)
theorem ef_48_riii (m : MethodId) (x0 : Addr) (x1 : Int32) (x2 : Int32) (x3 : Int32) : entryFrame m #[(.ref x0), (.int x1), (.int x2), (.int x3)] 4 = mkF m 0 #[.val (.ref x0), .val (.int x1), .val (.int x2), .val (.int x3)] [] := by first | (simp [entryFrame, mkF, argsToLocals, Value.category]; done) | rfl
def Q_req (Z : State) (a1 : Addr) (ra : Addr) (rb : Addr) (rc : Addr) (ka : ClassId) (kb : ClassId) (f : Nat → Int64) (p2 : Int32) (p3 : Int32) (p4 : Int32) (h0 : Heap) (n0 : Nat) (v : Option Value) (h : Heap) (L : List Loc) : Prop := v = some (.long (own_at f p2 (((p3 * (3 : Int32)) + p4) + (1 : Int32)))) ∧ Fr n0 L ∧ h = h0
theorem rm_req (l : Launch) (Z : State) (a0 : Array Value) (hw : ∀ d ∈ tables_1, d.before a0 Z = true) (ws : List Jvm.Cond) (a1 : Addr) (ra : Addr) (rb : Addr) (rc : Addr) (ka : ClassId) (kb : ClassId) (f : Nat → Int64) (p2 : Int32) (p3 : Int32) (p4 : Int32) (h0 : Heap) (n0 : Nat) (O0 : Old Z n0 h0) (F_choices_a1 : Fld Z h0 a1 "com/example/shiftweave/shiftweave/rostering/Penalties" "choices" "I" (.int 3)) (F_requests_a1 : Fld Z h0 a1 "com/example/shiftweave/shiftweave/rostering/Penalties" "requests" "[[J" (.ref ra)) (V_ra : Arv Z h0 ra ka (.array .long) (2 : Int32) [(.ref rb), (.ref rc)] .null) (A_rb : own_Arf Z h0 rb kb (6 : Int32) f) (A_rc : own_Arf Z h0 rc kb (6 : Int32) (own_hi f)) (hP2 : p2 = (0 : Int32) ∨ p2 = (1 : Int32)) (hP3 : p3 = (0 : Int32) ∨ p3 = (1 : Int32)) (hP4 : p4 = (-1 : Int32) ∨ p4 = (0 : Int32) ∨ p4 = (1 : Int32)) :
    MetFree l mY54 (head1 (Jvm.Cond.code mY54 prog_56_method_3_code 4 (some .long) :: ws) R_3) (fun a U => a = #[(.ref a1), (.int p2), (.int p3), (.int p4)] ∧ Z.Warmed39 U.vm ∧ U.heap = h0) (fun _ _ _ _ _ => True) (fun _ U o U' => ∃ v L, o = .returned v ∧ Q_req Z a1 ra rb rc ka kb f p2 p3 p4 h0 n0 v U'.heap L ∧ FrameEnd U o U' L R_3.cells R_3.slots) := by
  refine MetFree.of_bodySF (plainFor_of_name pn_16) hisR ?_
  intro p e s m args below meth c s₁ Bd hml0 hP hK
  obtain ⟨rfl, hZ, hh⟩ := hP
  have hx := Bd.exec
  have hby := Bd.bytes
  have hml : c.maxLocals = 4 := hml0
  have hown : s.vm.findClass "com/example/shiftweave/shiftweave/rostering/Penalties" = some m.cls := findClass_of_methodNamed Bd.named
  have hnm := (name_of_methodNamed Bd.named Bd.method).1
  have X0 : Stand p l e R_3 s m #[(.ref a1), (.int p2), (.int p3), (.int p4)] below meth c s₁ [] 0 0 := Stand.of_body Bd
  have e0 : s₁.heap = h0 := by rw [← hh, Bd.state]; rfl
  have N0 := Fr.nil n0
  show oG p e below s (Q_req Z a1 ra rb rc ka kb f p2 p3 p4 h0 n0) R_3.cells R_3.slots _
  refine oS (fun t k => castTop (ef_48_riii m a1 p2 p3 p4) k) ?_
  show oG _ _ _ _ _ _ _ (s₁.setTop (mkF m 0 #[.val (.ref a1), .val (.int p2), .val (.int p3), .val (.int p4)] []))
  refine oS (fun t k => XS.aloadN X0.here hx rfl (hb hby d48_0) rfl rfl k) ?_
  obtain ⟨T1, X1, e1, st1⟩ := getF X0 hx hZ hown (host := "") (Or.inl (oW hw 293 rfl)) Via.refl e0 F_requests_a1 (g := (mkF m 1 #[.val (.ref a1), .val (.int p2), .val (.int p3), .val (.int p4)] [(.ref a1)])) rfl rfl (hb hby d48_1)
  refine oS (fun t k => st1 t k) ?_
  try clear st1
  refine oS (fun t k => XS.iloadN X1.here hx rfl (hb hby d48_4) rfl k) ?_
  show oG _ _ _ _ _ _ _ (T1.setTop (mkF m 5 #[.val (.ref a1), .val (.int p2), .val (.int p3), .val (.int p4)] [(.int p2), (.ref ra)]))
  rcases hP2 with hs2 | hs2
  · rw [hs2]
    show oG _ _ _ _ _ _ _ (T1.setTop (mkF m 5 #[.val (.ref a1), .val (.int 0), .val (.int p3), .val (.int p4)] [(.int 0), (.ref ra)]))
    obtain ⟨cl3, Ar3, qk3, Sz3, Ng3, Ha3, Gf3⟩ := id V_ra
    have hin3 : ¬ ((0 : Int32) < 0 ∨ cl3.slots.size ≤ ((0 : Int32)).toNatClampNeg) := (inb_of Sz3 ⟨by decide, by decide⟩)
    have hat3 : cl3.slots[((0 : Int32)).toNatClampNeg]? = some (.ref rb) := Ha3.at hin3 rfl
    refine oS (fun t k => X1.aaload hx (j := (0 : Int32)) (v := (.ref rb)) (by rw [e1]; exact Ar3.1) (State.isArrayOf_alike hZ.alike Ar3.2.1) rfl Ar3.2.2 hin3 hat3 (g := (mkF m 5 #[.val (.ref a1), .val (.int 0), .val (.int p3), .val (.int p4)] [(.int 0), (.ref ra)])) rfl rfl (hb hby d48_5) t k) ?_
    refine oS (fun t k => XS.iloadN X1.here hx rfl (hb hby d48_6) rfl k) ?_
    refine oS (fun t k => XS.aloadN X1.here hx rfl (hb hby d48_7) rfl rfl k) ?_
    obtain ⟨T4, X4, e4, st4⟩ := getF X1 hx hZ hown (host := "") (Or.inl (oW hw 224 rfl)) Via.refl e1 F_choices_a1 (g := (mkF m 8 #[.val (.ref a1), .val (.int 0), .val (.int p3), .val (.int p4)] [(.ref a1), (.int p3), (.ref rb)])) rfl rfl (hb hby d48_8)
    refine oS (fun t k => st4 t k) ?_
    show oG _ _ _ _ _ _ _ (T4.setTop (mkF m 11 #[.val (.ref a1), .val (.int 0), .val (.int p3), .val (.int p4)] [(.int 3), (.int p3), (.ref rb)]))
    try clear st4 X1 e1
    try clear T1
    refine oS (fun t k => XS.imul X4.here hx rfl (hb hby d48_11) rfl k) ?_
    refine oS (fun t k => XS.iloadN X4.here hx rfl (hb hby d48_12) rfl k) ?_
    refine oS (fun t k => XS.iadd X4.here hx rfl (hb hby d48_13) rfl k) ?_
    refine oS (fun t k => oIc li_1 X4.here hx rfl (hb hby d48_14) k) ?_
    refine oS (fun t k => XS.iadd X4.here hx rfl (hb hby d48_15) rfl k) ?_
    obtain ⟨cl5, Ar5, qk5, Sz5, Ng5, Ha5⟩ := id A_rb
    have hin5 : ¬ ((((p3 * (3 : Int32)) + p4) + (1 : Int32)) < 0 ∨ cl5.slots.size ≤ ((((p3 * (3 : Int32)) + p4) + (1 : Int32))).toNatClampNeg) := own_inb3 hP3 hP4 Sz5
    have hat5 := Ha5 _ (Nat.lt_of_not_le fun y => hin5 (Or.inr y))
    refine oS (fun t k => X4.laload hx (j := (((p3 * (3 : Int32)) + p4) + (1 : Int32))) (v := (.long (f ((((p3 * (3 : Int32)) + p4) + (1 : Int32))).toNatClampNeg))) (by rw [e4]; exact Ar5.1) (State.isArrayOf_alike hZ.alike Ar5.2.1) Ar5.2.2 hin5 hat5 (g := (mkF m 16 #[.val (.ref a1), .val (.int 0), .val (.int p3), .val (.int p4)] [(.int (((p3 * (3 : Int32)) + p4) + (1 : Int32))), (.ref rb)])) rfl rfl (hb hby d48_16) t k) ?_
    exact own_ret (v := some (.long (f ((((p3 * (3 : Int32)) + p4) + (1 : Int32))).toNatClampNeg))) X4 (fun h => by rw [Bd.returns] at h; cases h) Bd.notSynchronized (fun fs hr => retOut X4 hx (t := .long) Bd.returns rfl (Or.inr (Or.inl ⟨rfl, rfl, _, rfl⟩)) (hb hby d48_17) hr) (by rw [e4]; exact ⟨(own_at0 f _), N0, rfl⟩) (by decide) (by decide)
  · rw [hs2]
    show oG _ _ _ _ _ _ _ (T1.setTop (mkF m 5 #[.val (.ref a1), .val (.int 1), .val (.int p3), .val (.int p4)] [(.int 1), (.ref ra)]))
    obtain ⟨cl6, Ar6, qk6, Sz6, Ng6, Ha6, Gf6⟩ := id V_ra
    have hin6 : ¬ ((1 : Int32) < 0 ∨ cl6.slots.size ≤ ((1 : Int32)).toNatClampNeg) := (inb_of Sz6 ⟨by decide, by decide⟩)
    have hat6 : cl6.slots[((1 : Int32)).toNatClampNeg]? = some (.ref rc) := Ha6.at hin6 rfl
    refine oS (fun t k => X1.aaload hx (j := (1 : Int32)) (v := (.ref rc)) (by rw [e1]; exact Ar6.1) (State.isArrayOf_alike hZ.alike Ar6.2.1) rfl Ar6.2.2 hin6 hat6 (g := (mkF m 5 #[.val (.ref a1), .val (.int 1), .val (.int p3), .val (.int p4)] [(.int 1), (.ref ra)])) rfl rfl (hb hby d48_5) t k) ?_
    refine oS (fun t k => XS.iloadN X1.here hx rfl (hb hby d48_6) rfl k) ?_
    refine oS (fun t k => XS.aloadN X1.here hx rfl (hb hby d48_7) rfl rfl k) ?_
    obtain ⟨T7, X7, e7, st7⟩ := getF X1 hx hZ hown (host := "") (Or.inl (oW hw 224 rfl)) Via.refl e1 F_choices_a1 (g := (mkF m 8 #[.val (.ref a1), .val (.int 1), .val (.int p3), .val (.int p4)] [(.ref a1), (.int p3), (.ref rc)])) rfl rfl (hb hby d48_8)
    refine oS (fun t k => st7 t k) ?_
    show oG _ _ _ _ _ _ _ (T7.setTop (mkF m 11 #[.val (.ref a1), .val (.int 1), .val (.int p3), .val (.int p4)] [(.int 3), (.int p3), (.ref rc)]))
    try clear st7 X1 e1
    try clear T1
    refine oS (fun t k => XS.imul X7.here hx rfl (hb hby d48_11) rfl k) ?_
    refine oS (fun t k => XS.iloadN X7.here hx rfl (hb hby d48_12) rfl k) ?_
    refine oS (fun t k => XS.iadd X7.here hx rfl (hb hby d48_13) rfl k) ?_
    refine oS (fun t k => oIc li_1 X7.here hx rfl (hb hby d48_14) k) ?_
    refine oS (fun t k => XS.iadd X7.here hx rfl (hb hby d48_15) rfl k) ?_
    obtain ⟨cl8, Ar8, qk8, Sz8, Ng8, Ha8⟩ := id A_rc
    have hin8 : ¬ ((((p3 * (3 : Int32)) + p4) + (1 : Int32)) < 0 ∨ cl8.slots.size ≤ ((((p3 * (3 : Int32)) + p4) + (1 : Int32))).toNatClampNeg) := own_inb3 hP3 hP4 Sz8
    have hat8 := Ha8 _ (Nat.lt_of_not_le fun y => hin8 (Or.inr y))
    refine oS (fun t k => X7.laload hx (j := (((p3 * (3 : Int32)) + p4) + (1 : Int32))) (v := (.long ((own_hi f) ((((p3 * (3 : Int32)) + p4) + (1 : Int32))).toNatClampNeg))) (by rw [e7]; exact Ar8.1) (State.isArrayOf_alike hZ.alike Ar8.2.1) Ar8.2.2 hin8 hat8 (g := (mkF m 16 #[.val (.ref a1), .val (.int 1), .val (.int p3), .val (.int p4)] [(.int (((p3 * (3 : Int32)) + p4) + (1 : Int32))), (.ref rc)])) rfl rfl (hb hby d48_16) t k) ?_
    exact own_ret (v := some (.long ((own_hi f) ((((p3 * (3 : Int32)) + p4) + (1 : Int32))).toNatClampNeg))) X7 (fun h => by rw [Bd.returns] at h; cases h) Bd.notSynchronized (fun fs hr => retOut X7 hx (t := .long) Bd.returns rfl (Or.inr (Or.inl ⟨rfl, rfl, _, rfl⟩)) (hb hby d48_17) hr) (by rw [e7]; exact ⟨(own_at1 f _), N0, rfl⟩) (by decide) (by decide)
theorem li_3 : Int32.ofInt (3) = (3 : Int32) := by decide
theorem li_4 : Int32.ofInt (4) = (4 : Int32) := by decide
theorem li_5 : Int32.ofInt (5) = (5 : Int32) := by decide
theorem pd_21 : parseMethodDescriptor "(I)Ljava/lang/Integer;" = some ⟨[.int], some (.object "java/lang/Integer")⟩ := by decide +kernel
theorem pd_22 : parseMethodDescriptor "(Ljava/lang/Object;)Z" = some ⟨[(.object "java/lang/Object")], some .boolean⟩ := by decide +kernel
theorem pd_23 : parseMethodDescriptor "(IIII)V" = some ⟨[.int, .int, .int, .int], none⟩ := by decide +kernel
theorem pd_24 : parseMethodDescriptor "(ILjava/util/List;Ljava/util/List;Ljava/util/List;Ljava/util/List;Ljava/util/List;)V" = some ⟨[.int, (.object "java/util/List"), (.object "java/util/List"), (.object "java/util/List"), (.object "java/util/List"), (.object "java/util/List")], none⟩ := by decide +kernel
theorem pd_25 : parseMethodDescriptor "(Lcom/example/shiftweave/shiftweave/rostering/Ward;)V" = some ⟨[(.object "com/example/shiftweave/shiftweave/rostering/Ward")], none⟩ := by decide +kernel
theorem pd_26 : parseMethodDescriptor "(III)J" = some ⟨[.int, .int, .int], some .long⟩ := by decide +kernel
theorem ef_0_iiii (m : MethodId) (x0 : Int32) (x1 : Int32) (x2 : Int32) (x3 : Int32) : entryFrame m #[(.int x0), (.int x1), (.int x2), (.int x3)] maxLocals = mkF m 0 #[.val (.int x0), .val (.int x1), .val (.int x2), .val (.int x3), .unset, .unset, .unset, .unset, .unset, .unset, .unset, .unset, .unset, .unset, .unset, .unset, .unset, .unset, .unset, .unset, .unset, .unset, .unset, .unset, .unset, .unset] [] := by first | (simp [entryFrame, mkF, argsToLocals, Value.category, maxLocals]; done) | rfl
theorem pn_17 : plainName "com/example/shiftweave/shiftweave/rostering/PenaltiesRequestsPinLaw" = true := by first | (simp [plainName, overriddenIn]; done) | decide +kernel
def Q_law (Z : State) (p1 : Int32) (p2 : Int32) (p3 : Int32) (p4 : Int32) (w : Nat → Addr) (h0 : Heap) (n0 : Nat) (v : Option Value) (h : Heap) (L : List Loc) : Prop := v = some (.int 1) ∧ Fr n0 L
theorem rm_law (l : Launch) (Z : State) (a0 : Array Value) (hw : ∀ d ∈ tables_1, d.before a0 Z = true) (ws : List Jvm.Cond) (p1 : Int32) (p2 : Int32) (p3 : Int32) (p4 : Int32) (w : Nat → Addr) (h0 : Heap) (n0 : Nat) (O0 : Old Z n0 h0) (W : own_World Z w) :
    MetFree l x (head1 (Jvm.Cond.code x code maxLocals ret :: ws) room_1) (fun a U => a = #[(.int p1), (.int p2), (.int p3), (.int p4)] ∧ Z.Warmed39 U.vm ∧ U.heap = h0) (fun _ _ _ _ _ => True) (fun _ U o U' => ∃ v L, o = .returned v ∧ Q_law Z p1 p2 p3 p4 w h0 n0 v U'.heap L ∧ FrameEnd U o U' L room_1.cells room_1.slots) := by
  refine MetFree.of_bodySF (plainFor_of_name pn_17) hisR ?_
  intro p e s m args below meth c s₁ Bd hml0 hP hK
  obtain ⟨rfl, hZ, hh⟩ := hP
  have hx := Bd.exec
  have hby := Bd.bytes
  have hml : c.maxLocals = 26 := hml0
  have hown : s.vm.findClass "com/example/shiftweave/shiftweave/rostering/PenaltiesRequestsPinLaw" = some m.cls := findClass_of_methodNamed Bd.named
  have hnm := (name_of_methodNamed Bd.named Bd.method).1
  have X0 : Stand p l e room_1 s m #[(.int p1), (.int p2), (.int p3), (.int p4)] below meth c s₁ [] 0 0 := Stand.of_body Bd
  have e0 : s₁.heap = h0 := by rw [← hh, Bd.state]; rfl
  have N0 := Fr.nil n0
  show oG p e below s (Q_law Z p1 p2 p3 p4 w h0 n0) room_1.cells room_1.slots _
  refine oS (fun t k => castTop (ef_0_iiii m p1 p2 p3 p4) k) ?_
  show oG _ _ _ _ _ _ _ (s₁.setTop (mkF m 0 #[.val (.int p1), .val (.int p2), .val (.int p3), .val (.int p4), .unset, .unset, .unset, .unset, .unset, .unset, .unset, .unset, .unset, .unset, .unset, .unset, .unset, .unset, .unset, .unset, .unset, .unset, .unset, .unset, .unset, .unset] []))
  refine oS (fun t k => XS.iloadN X0.here hx rfl (hb hby at_0) rfl k) ?_
  refine oS (fun t k => oIc li_1 X0.here hx rfl (hb hby at_1) k) ?_
  refine oS (fun t k => XS.iand X0.here hx rfl (hb hby at_2) rfl k) ?_
  refine oS (fun t k => XS.istore X0.here hx rfl (hb hby at_3) rfl (l' := #[.val (.int p1), .val (.int p2), .val (.int p3), .val (.int p4), .val (.int (p1 &&& (1 : Int32))), .unset, .unset, .unset, .unset, .unset, .unset, .unset, .unset, .unset, .unset, .unset, .unset, .unset, .unset, .unset, .unset, .unset, .unset, .unset, .unset, .unset]) rfl k) ?_
  refine oS (fun t k => XS.iloadN X0.here hx rfl (hb hby at_5) rfl k) ?_
  refine oS (fun t k => oIc li_1 X0.here hx rfl (hb hby at_6) k) ?_
  refine oS (fun t k => XS.ishr X0.here hx rfl (hb hby at_7) rfl k) ?_
  show oG _ _ _ _ _ _ _ (s₁.setTop (mkF m 8 #[.val (.int p1), .val (.int p2), .val (.int p3), .val (.int p4), .val (.int (p1 &&& (1 : Int32))), .unset, .unset, .unset, .unset, .unset, .unset, .unset, .unset, .unset, .unset, .unset, .unset, .unset, .unset, .unset, .unset, .unset, .unset, .unset, .unset, .unset] [(.int (p1 >>> ((1 : Int32) &&& 31)))]))
  refine oS (fun t k => oIc li_1 X0.here hx rfl (hb hby at_8) k) ?_
  refine oS (fun t k => XS.iand X0.here hx rfl (hb hby at_9) rfl k) ?_
  refine oS (fun t k => XS.istore X0.here hx rfl (hb hby at_10) rfl (l' := #[.val (.int p1), .val (.int p2), .val (.int p3), .val (.int p4), .val (.int (p1 &&& (1 : Int32))), .val (.int ((p1 >>> ((1 : Int32) &&& 31)) &&& (1 : Int32))), .unset, .unset, .unset, .unset, .unset, .unset, .unset, .unset, .unset, .unset, .unset, .unset, .unset, .unset, .unset, .unset, .unset, .unset, .unset, .unset]) rfl k) ?_
  refine oS (fun t k => XS.iloadN X0.here hx rfl (hb hby at_12) rfl k) ?_
  refine oS (fun t k => oIc li_2 X0.here hx rfl (hb hby at_13) k) ?_
  refine oS (fun t k => XS.ishr X0.here hx rfl (hb hby at_14) rfl k) ?_
  refine oS (fun t k => oIc li_1 X0.here hx rfl (hb hby at_15) k) ?_
  show oG _ _ _ _ _ _ _ (s₁.setTop (mkF m 16 #[.val (.int p1), .val (.int p2), .val (.int p3), .val (.int p4), .val (.int (p1 &&& (1 : Int32))), .val (.int ((p1 >>> ((1 : Int32) &&& 31)) &&& (1 : Int32))), .unset, .unset, .unset, .unset, .unset, .unset, .unset, .unset, .unset, .unset, .unset, .unset, .unset, .unset, .unset, .unset, .unset, .unset, .unset, .unset] [(.int 1), (.int (p1 >>> ((2 : Int32) &&& 31)))]))
  refine oS (fun t k => XS.iand X0.here hx rfl (hb hby at_16) rfl k) ?_
  refine oS (fun t k => XS.istore X0.here hx rfl (hb hby at_17) rfl (l' := #[.val (.int p1), .val (.int p2), .val (.int p3), .val (.int p4), .val (.int (p1 &&& (1 : Int32))), .val (.int ((p1 >>> ((1 : Int32) &&& 31)) &&& (1 : Int32))), .val (.int ((p1 >>> ((2 : Int32) &&& 31)) &&& (1 : Int32))), .unset, .unset, .unset, .unset, .unset, .unset, .unset, .unset, .unset, .unset, .unset, .unset, .unset, .unset, .unset, .unset, .unset, .unset, .unset]) rfl k) ?_
  refine oS (fun t k => XS.iloadN X0.here hx rfl (hb hby at_19) rfl k) ?_
  refine oS (fun t k => oIc li_3 X0.here hx rfl (hb hby at_20) k) ?_
  refine oS (fun t k => XS.ishr X0.here hx rfl (hb hby at_21) rfl k) ?_
  refine oS (fun t k => oIc li_1 X0.here hx rfl (hb hby at_22) k) ?_
  refine oS (fun t k => XS.iand X0.here hx rfl (hb hby at_23) rfl k) ?_
  show oG _ _ _ _ _ _ _ (s₁.setTop (mkF m 24 #[.val (.int p1), .val (.int p2), .val (.int p3), .val (.int p4), .val (.int (p1 &&& (1 : Int32))), .val (.int ((p1 >>> ((1 : Int32) &&& 31)) &&& (1 : Int32))), .val (.int ((p1 >>> ((2 : Int32) &&& 31)) &&& (1 : Int32))), .unset, .unset, .unset, .unset, .unset, .unset, .unset, .unset, .unset, .unset, .unset, .unset, .unset, .unset, .unset, .unset, .unset, .unset, .unset] [(.int ((p1 >>> ((3 : Int32) &&& 31)) &&& (1 : Int32)))]))
  refine oS (fun t k => XS.istore X0.here hx rfl (hb hby at_24) rfl (l' := #[.val (.int p1), .val (.int p2), .val (.int p3), .val (.int p4), .val (.int (p1 &&& (1 : Int32))), .val (.int ((p1 >>> ((1 : Int32) &&& 31)) &&& (1 : Int32))), .val (.int ((p1 >>> ((2 : Int32) &&& 31)) &&& (1 : Int32))), .val (.int ((p1 >>> ((3 : Int32) &&& 31)) &&& (1 : Int32))), .unset, .unset, .unset, .unset, .unset, .unset, .unset, .unset, .unset, .unset, .unset, .unset, .unset, .unset, .unset, .unset, .unset, .unset]) rfl k) ?_
  refine oS (fun t k => XS.iloadN X0.here hx rfl (hb hby at_26) rfl k) ?_
  refine oS (fun t k => oIc li_4 X0.here hx rfl (hb hby at_27) k) ?_
  refine oS (fun t k => XS.ishr X0.here hx rfl (hb hby at_28) rfl k) ?_
  refine oS (fun t k => oIc li_1 X0.here hx rfl (hb hby at_29) k) ?_
  refine oS (fun t k => XS.iand X0.here hx rfl (hb hby at_30) rfl k) ?_
  refine oS (fun t k => XS.istore X0.here hx rfl (hb hby at_31) rfl (l' := #[.val (.int p1), .val (.int p2), .val (.int p3), .val (.int p4), .val (.int (p1 &&& (1 : Int32))), .val (.int ((p1 >>> ((1 : Int32) &&& 31)) &&& (1 : Int32))), .val (.int ((p1 >>> ((2 : Int32) &&& 31)) &&& (1 : Int32))), .val (.int ((p1 >>> ((3 : Int32) &&& 31)) &&& (1 : Int32))), .val (.int ((p1 >>> ((4 : Int32) &&& 31)) &&& (1 : Int32))), .unset, .unset, .unset, .unset, .unset, .unset, .unset, .unset, .unset, .unset, .unset, .unset, .unset, .unset, .unset, .unset, .unset]) rfl k) ?_
  show oG _ _ _ _ _ _ _ (s₁.setTop (mkF m 33 #[.val (.int p1), .val (.int p2), .val (.int p3), .val (.int p4), .val (.int (p1 &&& (1 : Int32))), .val (.int ((p1 >>> ((1 : Int32) &&& 31)) &&& (1 : Int32))), .val (.int ((p1 >>> ((2 : Int32) &&& 31)) &&& (1 : Int32))), .val (.int ((p1 >>> ((3 : Int32) &&& 31)) &&& (1 : Int32))), .val (.int ((p1 >>> ((4 : Int32) &&& 31)) &&& (1 : Int32))), .unset, .unset, .unset, .unset, .unset, .unset, .unset, .unset, .unset, .unset, .unset, .unset, .unset, .unset, .unset, .unset, .unset] []))
  refine oS (fun t k => XS.iloadN X0.here hx rfl (hb hby at_33) rfl k) ?_
  refine oS (fun t k => oIc li_5 X0.here hx rfl (hb hby at_34) k) ?_
  refine oS (fun t k => XS.ishr X0.here hx rfl (hb hby at_35) rfl k) ?_
  refine oS (fun t k => oIc li_1 X0.here hx rfl (hb hby at_36) k) ?_
  refine oS (fun t k => XS.iand X0.here hx rfl (hb hby at_37) rfl k) ?_
  refine oS (fun t k => XS.istore X0.here hx rfl (hb hby at_38) rfl (l' := #[.val (.int p1), .val (.int p2), .val (.int p3), .val (.int p4), .val (.int (p1 &&& (1 : Int32))), .val (.int ((p1 >>> ((1 : Int32) &&& 31)) &&& (1 : Int32))), .val (.int ((p1 >>> ((2 : Int32) &&& 31)) &&& (1 : Int32))), .val (.int ((p1 >>> ((3 : Int32) &&& 31)) &&& (1 : Int32))), .val (.int ((p1 >>> ((4 : Int32) &&& 31)) &&& (1 : Int32))), .val (.int ((p1 >>> ((5 : Int32) &&& 31)) &&& (1 : Int32))), .unset, .unset, .unset, .unset, .unset, .unset, .unset, .unset, .unset, .unset, .unset, .unset, .unset, .unset, .unset, .unset]) rfl k) ?_
  refine oS (fun t k => XS.iloadN X0.here hx rfl (hb hby at_40) rfl k) ?_
  show oG _ _ _ _ _ _ _ (s₁.setTop (mkF m 41 #[.val (.int p1), .val (.int p2), .val (.int p3), .val (.int p4), .val (.int (p1 &&& (1 : Int32))), .val (.int ((p1 >>> ((1 : Int32) &&& 31)) &&& (1 : Int32))), .val (.int ((p1 >>> ((2 : Int32) &&& 31)) &&& (1 : Int32))), .val (.int ((p1 >>> ((3 : Int32) &&& 31)) &&& (1 : Int32))), .val (.int ((p1 >>> ((4 : Int32) &&& 31)) &&& (1 : Int32))), .val (.int ((p1 >>> ((5 : Int32) &&& 31)) &&& (1 : Int32))), .unset, .unset, .unset, .unset, .unset, .unset, .unset, .unset, .unset, .unset, .unset, .unset, .unset, .unset, .unset, .unset] [(.int p2)]))
  refine oS (fun t k => X0.ldcInt hx hown (oM hZ hw 0 rfl) (g := (mkF m 41 #[.val (.int p1), .val (.int p2), .val (.int p3), .val (.int p4), .val (.int (p1 &&& (1 : Int32))), .val (.int ((p1 >>> ((1 : Int32) &&& 31)) &&& (1 : Int32))), .val (.int ((p1 >>> ((2 : Int32) &&& 31)) &&& (1 : Int32))), .val (.int ((p1 >>> ((3 : Int32) &&& 31)) &&& (1 : Int32))), .val (.int ((p1 >>> ((4 : Int32) &&& 31)) &&& (1 : Int32))), .val (.int ((p1 >>> ((5 : Int32) &&& 31)) &&& (1 : Int32))), .unset, .unset, .unset, .unset, .unset, .unset, .unset, .unset, .unset, .unset, .unset, .unset, .unset, .unset, .unset, .unset] [(.int p2)])) rfl (hb hby at_41) t k) ?_
  refine oS (fun t k => XS.iand X0.here hx rfl (hb hby at_43) rfl k) ?_
  refine oS (fun t k => XS.istore X0.here hx rfl (hb hby at_44) rfl (l' := #[.val (.int p1), .val (.int p2), .val (.int p3), .val (.int p4), .val (.int (p1 &&& (1 : Int32))), .val (.int ((p1 >>> ((1 : Int32) &&& 31)) &&& (1 : Int32))), .val (.int ((p1 >>> ((2 : Int32) &&& 31)) &&& (1 : Int32))), .val (.int ((p1 >>> ((3 : Int32) &&& 31)) &&& (1 : Int32))), .val (.int ((p1 >>> ((4 : Int32) &&& 31)) &&& (1 : Int32))), .val (.int ((p1 >>> ((5 : Int32) &&& 31)) &&& (1 : Int32))), .val (.int (p2 &&& (2147483647 : Int32))), .unset, .unset, .unset, .unset, .unset, .unset, .unset, .unset, .unset, .unset, .unset, .unset, .unset, .unset, .unset]) rfl k) ?_
  refine oS (fun t k => XS.iloadN X0.here hx rfl (hb hby at_46) rfl k) ?_
  refine oS (fun t k => X0.ldcInt hx hown (oM hZ hw 0 rfl) (g := (mkF m 47 #[.val (.int p1), .val (.int p2), .val (.int p3), .val (.int p4), .val (.int (p1 &&& (1 : Int32))), .val (.int ((p1 >>> ((1 : Int32) &&& 31)) &&& (1 : Int32))), .val (.int ((p1 >>> ((2 : Int32) &&& 31)) &&& (1 : Int32))), .val (.int ((p1 >>> ((3 : Int32) &&& 31)) &&& (1 : Int32))), .val (.int ((p1 >>> ((4 : Int32) &&& 31)) &&& (1 : Int32))), .val (.int ((p1 >>> ((5 : Int32) &&& 31)) &&& (1 : Int32))), .val (.int (p2 &&& (2147483647 : Int32))), .unset, .unset, .unset, .unset, .unset, .unset, .unset, .unset, .unset, .unset, .unset, .unset, .unset, .unset, .unset] [(.int p3)])) rfl (hb hby at_47) t k) ?_
  refine oS (fun t k => XS.iand X0.here hx rfl (hb hby at_49) rfl k) ?_
  refine oS (fun t k => XS.istore X0.here hx rfl (hb hby at_50) rfl (l' := #[.val (.int p1), .val (.int p2), .val (.int p3), .val (.int p4), .val (.int (p1 &&& (1 : Int32))), .val (.int ((p1 >>> ((1 : Int32) &&& 31)) &&& (1 : Int32))), .val (.int ((p1 >>> ((2 : Int32) &&& 31)) &&& (1 : Int32))), .val (.int ((p1 >>> ((3 : Int32) &&& 31)) &&& (1 : Int32))), .val (.int ((p1 >>> ((4 : Int32) &&& 31)) &&& (1 : Int32))), .val (.int ((p1 >>> ((5 : Int32) &&& 31)) &&& (1 : Int32))), .val (.int (p2 &&& (2147483647 : Int32))), .val (.int (p3 &&& (2147483647 : Int32))), .unset, .unset, .unset, .unset, .unset, .unset, .unset, .unset, .unset, .unset, .unset, .unset, .unset, .unset]) rfl k) ?_
  show oG _ _ _ _ _ _ _ (s₁.setTop (mkF m 52 #[.val (.int p1), .val (.int p2), .val (.int p3), .val (.int p4), .val (.int (p1 &&& (1 : Int32))), .val (.int ((p1 >>> ((1 : Int32) &&& 31)) &&& (1 : Int32))), .val (.int ((p1 >>> ((2 : Int32) &&& 31)) &&& (1 : Int32))), .val (.int ((p1 >>> ((3 : Int32) &&& 31)) &&& (1 : Int32))), .val (.int ((p1 >>> ((4 : Int32) &&& 31)) &&& (1 : Int32))), .val (.int ((p1 >>> ((5 : Int32) &&& 31)) &&& (1 : Int32))), .val (.int (p2 &&& (2147483647 : Int32))), .val (.int (p3 &&& (2147483647 : Int32))), .unset, .unset, .unset, .unset, .unset, .unset, .unset, .unset, .unset, .unset, .unset, .unset, .unset, .unset] []))
  refine oS (fun t k => XS.iloadN X0.here hx rfl (hb hby at_52) rfl k) ?_
  refine oS (fun t k => oIc li_1 X0.here hx rfl (hb hby at_53) k) ?_
  refine oS (fun t k => XS.iand X0.here hx rfl (hb hby at_54) rfl k) ?_
  refine oS (fun t k => XS.istore X0.here hx rfl (hb hby at_55) rfl (l' := #[.val (.int p1), .val (.int p2), .val (.int p3), .val (.int p4), .val (.int (p1 &&& (1 : Int32))), .val (.int ((p1 >>> ((1 : Int32) &&& 31)) &&& (1 : Int32))), .val (.int ((p1 >>> ((2 : Int32) &&& 31)) &&& (1 : Int32))), .val (.int ((p1 >>> ((3 : Int32) &&& 31)) &&& (1 : Int32))), .val (.int ((p1 >>> ((4 : Int32) &&& 31)) &&& (1 : Int32))), .val (.int ((p1 >>> ((5 : Int32) &&& 31)) &&& (1 : Int32))), .val (.int (p2 &&& (2147483647 : Int32))), .val (.int (p3 &&& (2147483647 : Int32))), .val (.int (p4 &&& (1 : Int32))), .unset, .unset, .unset, .unset, .unset, .unset, .unset, .unset, .unset, .unset, .unset, .unset, .unset]) rfl k) ?_
  refine oS (fun t k => XS.iloadN X0.here hx rfl (hb hby at_57) rfl k) ?_
  refine oS (fun t k => oIc li_1 X0.here hx rfl (hb hby at_58) k) ?_
  refine oS (fun t k => XS.ishr X0.here hx rfl (hb hby at_59) rfl k) ?_
  show oG _ _ _ _ _ _ _ (s₁.setTop (mkF m 60 #[.val (.int p1), .val (.int p2), .val (.int p3), .val (.int p4), .val (.int (p1 &&& (1 : Int32))), .val (.int ((p1 >>> ((1 : Int32) &&& 31)) &&& (1 : Int32))), .val (.int ((p1 >>> ((2 : Int32) &&& 31)) &&& (1 : Int32))), .val (.int ((p1 >>> ((3 : Int32) &&& 31)) &&& (1 : Int32))), .val (.int ((p1 >>> ((4 : Int32) &&& 31)) &&& (1 : Int32))), .val (.int ((p1 >>> ((5 : Int32) &&& 31)) &&& (1 : Int32))), .val (.int (p2 &&& (2147483647 : Int32))), .val (.int (p3 &&& (2147483647 : Int32))), .val (.int (p4 &&& (1 : Int32))), .unset, .unset, .unset, .unset, .unset, .unset, .unset, .unset, .unset, .unset, .unset, .unset, .unset] [(.int (p4 >>> ((1 : Int32) &&& 31)))]))
  refine oS (fun t k => oIc li_1 X0.here hx rfl (hb hby at_60) k) ?_
  refine oS (fun t k => XS.iand X0.here hx rfl (hb hby at_61) rfl k) ?_
  refine oS (fun t k => XS.istore X0.here hx rfl (hb hby at_62) rfl (l' := #[.val (.int p1), .val (.int p2), .val (.int p3), .val (.int p4), .val (.int (p1 &&& (1 : Int32))), .val (.int ((p1 >>> ((1 : Int32) &&& 31)) &&& (1 : Int32))), .val (.int ((p1 >>> ((2 : Int32) &&& 31)) &&& (1 : Int32))), .val (.int ((p1 >>> ((3 : Int32) &&& 31)) &&& (1 : Int32))), .val (.int ((p1 >>> ((4 : Int32) &&& 31)) &&& (1 : Int32))), .val (.int ((p1 >>> ((5 : Int32) &&& 31)) &&& (1 : Int32))), .val (.int (p2 &&& (2147483647 : Int32))), .val (.int (p3 &&& (2147483647 : Int32))), .val (.int (p4 &&& (1 : Int32))), .val (.int ((p4 >>> ((1 : Int32) &&& 31)) &&& (1 : Int32))), .unset, .unset, .unset, .unset, .unset, .unset, .unset, .unset, .unset, .unset, .unset, .unset]) rfl k) ?_
  refine oS (fun t k => XS.iloadN X0.here hx rfl (hb hby at_64) rfl k) ?_
  refine oS (fun t k => oIc li_2 X0.here hx rfl (hb hby at_65) k) ?_
  refine oS (fun t k => XS.ishr X0.here hx rfl (hb hby at_66) rfl k) ?_
  refine oS (fun t k => oIc li_3 X0.here hx rfl (hb hby at_67) k) ?_
  show oG _ _ _ _ _ _ _ (s₁.setTop (mkF m 68 #[.val (.int p1), .val (.int p2), .val (.int p3), .val (.int p4), .val (.int (p1 &&& (1 : Int32))), .val (.int ((p1 >>> ((1 : Int32) &&& 31)) &&& (1 : Int32))), .val (.int ((p1 >>> ((2 : Int32) &&& 31)) &&& (1 : Int32))), .val (.int ((p1 >>> ((3 : Int32) &&& 31)) &&& (1 : Int32))), .val (.int ((p1 >>> ((4 : Int32) &&& 31)) &&& (1 : Int32))), .val (.int ((p1 >>> ((5 : Int32) &&& 31)) &&& (1 : Int32))), .val (.int (p2 &&& (2147483647 : Int32))), .val (.int (p3 &&& (2147483647 : Int32))), .val (.int (p4 &&& (1 : Int32))), .val (.int ((p4 >>> ((1 : Int32) &&& 31)) &&& (1 : Int32))), .unset, .unset, .unset, .unset, .unset, .unset, .unset, .unset, .unset, .unset, .unset, .unset] [(.int 3), (.int (p4 >>> ((2 : Int32) &&& 31)))]))
  refine oS (fun t k => XS.iand X0.here hx rfl (hb hby at_68) rfl k) ?_
  refine oS (fun t k => oIc li_3 X0.here hx rfl (hb hby at_69) k) ?_
  refine oS (fun t k => iremM X0 hx rfl (hb hby at_70) rfl (by decide) k) ?_
  refine oS (fun t k => oIc li_1 X0.here hx rfl (hb hby at_71) k) ?_
  refine oS (fun t k => XS.isub X0.here hx rfl (hb hby at_72) rfl k) ?_
  refine oS (fun t k => XS.istore X0.here hx rfl (hb hby at_73) rfl (l' := #[.val (.int p1), .val (.int p2), .val (.int p3), .val (.int p4), .val (.int (p1 &&& (1 : Int32))), .val (.int ((p1 >>> ((1 : Int32) &&& 31)) &&& (1 : Int32))), .val (.int ((p1 >>> ((2 : Int32) &&& 31)) &&& (1 : Int32))), .val (.int ((p1 >>> ((3 : Int32) &&& 31)) &&& (1 : Int32))), .val (.int ((p1 >>> ((4 : Int32) &&& 31)) &&& (1 : Int32))), .val (.int ((p1 >>> ((5 : Int32) &&& 31)) &&& (1 : Int32))), .val (.int (p2 &&& (2147483647 : Int32))), .val (.int (p3 &&& (2147483647 : Int32))), .val (.int (p4 &&& (1 : Int32))), .val (.int ((p4 >>> ((1 : Int32) &&& 31)) &&& (1 : Int32))), .val (.int ((((p4 >>> ((2 : Int32) &&& 31)) &&& (3 : Int32)) % (3 : Int32)) - (1 : Int32))), .unset, .unset, .unset, .unset, .unset, .unset, .unset, .unset, .unset, .unset, .unset]) rfl k) ?_
  show oG _ _ _ _ _ _ _ (s₁.setTop (mkF m 75 #[.val (.int p1), .val (.int p2), .val (.int p3), .val (.int p4), .val (.int (p1 &&& (1 : Int32))), .val (.int ((p1 >>> ((1 : Int32) &&& 31)) &&& (1 : Int32))), .val (.int ((p1 >>> ((2 : Int32) &&& 31)) &&& (1 : Int32))), .val (.int ((p1 >>> ((3 : Int32) &&& 31)) &&& (1 : Int32))), .val (.int ((p1 >>> ((4 : Int32) &&& 31)) &&& (1 : Int32))), .val (.int ((p1 >>> ((5 : Int32) &&& 31)) &&& (1 : Int32))), .val (.int (p2 &&& (2147483647 : Int32))), .val (.int (p3 &&& (2147483647 : Int32))), .val (.int (p4 &&& (1 : Int32))), .val (.int ((p4 >>> ((1 : Int32) &&& 31)) &&& (1 : Int32))), .val (.int ((((p4 >>> ((2 : Int32) &&& 31)) &&& (3 : Int32)) % (3 : Int32)) - (1 : Int32))), .unset, .unset, .unset, .unset, .unset, .unset, .unset, .unset, .unset, .unset, .unset] []))
  generalize hx4 : (p1 &&& (1 : Int32)) = x4
  have hb4 := own_bit p1
  rw [hx4] at hb4
  clear hx4
  generalize hx5 : ((p1 >>> ((1 : Int32) &&& 31)) &&& (1 : Int32)) = x5
  have hb5 := own_bit (p1 >>> ((1 : Int32) &&& 31))
  rw [hx5] at hb5
  clear hx5
  generalize hx6 : ((p1 >>> ((2 : Int32) &&& 31)) &&& (1 : Int32)) = x6
  have hb6 := own_bit (p1 >>> ((2 : Int32) &&& 31))
  rw [hx6] at hb6
  clear hx6
  generalize hx7 : ((p1 >>> ((3 : Int32) &&& 31)) &&& (1 : Int32)) = x7
  have hb7 := own_bit (p1 >>> ((3 : Int32) &&& 31))
  rw [hx7] at hb7
  clear hx7
  generalize hx8 : ((p1 >>> ((4 : Int32) &&& 31)) &&& (1 : Int32)) = x8
  have hb8 := own_bit (p1 >>> ((4 : Int32) &&& 31))
  rw [hx8] at hb8
  clear hx8
  generalize hx9 : ((p1 >>> ((5 : Int32) &&& 31)) &&& (1 : Int32)) = x9
  have hb9 := own_bit (p1 >>> ((5 : Int32) &&& 31))
  rw [hx9] at hb9
  clear hx9
  generalize hx10 : (p2 &&& (2147483647 : Int32)) = x10
  generalize hx11 : (p3 &&& (2147483647 : Int32)) = x11
  generalize hx12 : (p4 &&& (1 : Int32)) = x12
  have hb12 := own_bit p4
  rw [hx12] at hb12
  clear hx12
  generalize hx13 : ((p4 >>> ((1 : Int32) &&& 31)) &&& (1 : Int32)) = x13
  have hb13 := own_bit (p4 >>> ((1 : Int32) &&& 31))
  rw [hx13] at hb13
  clear hx13
  generalize hx14 : ((((p4 >>> ((2 : Int32) &&& 31)) &&& (3 : Int32)) % (3 : Int32)) - (1 : Int32)) = x14
  have hb14 := own_sh (p4 >>> ((2 : Int32) &&& 31))
  rw [hx14] at hb14
  clear hx14
  show oG _ _ _ _ _ _ _ (s₁.setTop (mkF m 75 #[.val (.int p1), .val (.int p2), .val (.int p3), .val (.int p4), .val (.int x4), .val (.int x5), .val (.int x6), .val (.int x7), .val (.int x8), .val (.int x9), .val (.int x10), .val (.int x11), .val (.int x12), .val (.int x13), .val (.int x14), .unset, .unset, .unset, .unset, .unset, .unset, .unset, .unset, .unset, .unset, .unset] []))
  obtain ⟨T1, h1, X1, e1, E1, A1, D1, -, st1⟩ := newO X0 hx hZ hown (oW hw 1 rfl) (oW hw 2 rfl) (oW hw 3 rfl) e0 (g := (mkF m 75 #[.val (.int p1), .val (.int p2), .val (.int p3), .val (.int p4), .val (.int x4), .val (.int x5), .val (.int x6), .val (.int x7), .val (.int x8), .val (.int x9), .val (.int x10), .val (.int x11), .val (.int x12), .val (.int x13), .val (.int x14), .unset, .unset, .unset, .unset, .unset, .unset, .unset, .unset, .unset, .unset, .unset] [])) rfl (hb hby at_75) (by decide) (by decide)
  obtain ⟨b1, g1⟩ : ∃ z, z = h0.size := ⟨_, rfl⟩
  rw [← g1] at A1 D1 st1
  have gx1 : n0 ≤ b1 := Nat.le_trans (O0.1 ▸ O0.2.1) (Nat.le_of_eq g1.symm)
  have O1 := O0.ext E1
  have F_modCount_b1 : Fld Z h1 b1 "java/util/AbstractList" "modCount" "I" (.int 0) := D1 (Or.inl (oW hw 23 rfl)) (ty := .int) (by decide)
  have F_elementData_b1 : Fld Z h1 b1 "java/util/ArrayList" "elementData" "[Ljava/lang/Object;" .null := D1 (Or.inl (oW hw 26 rfl)) (ty := (.array (.object "java/lang/Object"))) (by decide)
  have F_size_b1 : Fld Z h1 b1 "java/util/ArrayList" "size" "I" (.int 0) := D1 (Or.inl (oW hw 42 rfl)) (ty := .int) (by decide)
  refine oS (fun t k => st1 t k) ?_
  show oG _ _ _ _ _ _ _ (T1.setTop (mkF m 78 #[.val (.int p1), .val (.int p2), .val (.int p3), .val (.int p4), .val (.int x4), .val (.int x5), .val (.int x6), .val (.int x7), .val (.int x8), .val (.int x9), .val (.int x10), .val (.int x11), .val (.int x12), .val (.int x13), .val (.int x14), .unset, .unset, .unset, .unset, .unset, .unset, .unset, .unset, .unset, .unset, .unset] [(.ref b1)]))
  try clear st1
  refine oS (fun t k => XS.dup X1.here hx rfl (hb hby at_78) rfl rfl k) ?_
  obtain ⟨_, _, ⟨T2, L2, k2, n2⟩, -, X2, ⟨Lc2, hQ2, l2, y2, z2⟩, st2⟩ := X1.specialBack hx (y := mY5) rfl hown (oM hZ hw 4 rfl) (oM hZ hw 5 rfl) (oM hZ hw 6 rfl) (by decide) (backOf (W := 1) (rm_alinit l Z a0 hw [] b1 w h1 n0 O1 W A1 gx1 F_modCount_b1 F_elementData_b1 F_size_b1) hZ (oW hw 6 rfl) (oW hw 3 rfl) (by decide) (by decide)) (g := (mkF m 79 #[.val (.int p1), .val (.int p2), .val (.int p3), .val (.int p4), .val (.int x4), .val (.int x5), .val (.int x6), .val (.int x7), .val (.int x8), .val (.int x9), .val (.int x10), .val (.int x11), .val (.int x12), .val (.int x13), .val (.int x14), .unset, .unset, .unset, .unset, .unset, .unset, .unset, .unset, .unset, .unset, .unset] [(.ref b1), (.ref b1)])) rfl (by rw [hml]; rfl) (Steps.refl _) (a := b1) (argsL := []) (rest := [(.ref b1)]) (lenOf pd_0 rfl) rfl (by show 2 * 0 + _ ≤ _; exact Nat.le_of_eq rfl) (hb hby at_79) (fun _ _ => ⟨rfl, e1, (by decide : 1 + 0 ≤ _), (by decide : 3 + 0 ≤ _)⟩)
  dsimp only [Pt.U, Pt.locs, Pt.cells, Pt.slots] at X2 l2 y2 z2 st2 hQ2
  rw [l2, y2, z2] at X2
  clear l2 y2 z2
  obtain ⟨rfl, Nq2, K2, P2_0, P2_1, P2_2⟩ := hQ2
  have N2 := Fr.app N0 Nq2
  have O2 := O1.keep K2 (allS gx1 all0)
  refine oS (fun t k => st2.trans k) ?_
  show oG _ _ _ _ _ _ _ (T2.setTop (mkF m 82 #[.val (.int p1), .val (.int p2), .val (.int p3), .val (.int p4), .val (.int x4), .val (.int x5), .val (.int x6), .val (.int x7), .val (.int x8), .val (.int x9), .val (.int x10), .val (.int x11), .val (.int x12), .val (.int x13), .val (.int x14), .unset, .unset, .unset, .unset, .unset, .unset, .unset, .unset, .unset, .unset, .unset] [(.ref b1)]))
  try clear st2 X1 e1
  try clear T1
  refine oS (fun t k => XS.astore X2.here hx rfl (hb hby at_82) rfl rfl (l' := #[.val (.int p1), .val (.int p2), .val (.int p3), .val (.int p4), .val (.int x4), .val (.int x5), .val (.int x6), .val (.int x7), .val (.int x8), .val (.int x9), .val (.int x10), .val (.int x11), .val (.int x12), .val (.int x13), .val (.int x14), .val (.ref b1), .unset, .unset, .unset, .unset, .unset, .unset, .unset, .unset, .unset, .unset]) rfl k) ?_
  refine oS (fun t k => XS.aload X2.here hx rfl (hb hby at_84) rfl rfl k) ?_
  refine oS (fun t k => oIc li_0 X2.here hx rfl (hb hby at_86) k) ?_
  obtain ⟨_, _, ⟨T3, L3, k3, n3⟩, -, X3, ⟨Lc3, hQ3, l3, y3, z3⟩, st3⟩ := Jvm.LawKit.callS X2 hx (y := mY11) hown (oM hZ hw 27 rfl) (oM hZ hw 28 rfl) (oM hZ hw 29 rfl) (oM hZ hw 30 rfl) (by decide) (backOf (W := 1) (rm_val0 l Z a0 hw []  w T2.heap n0 O2 W ) hZ (oW hw 30 rfl) (oW hw 29 rfl) (by decide) (by decide)) (g := (mkF m 87 #[.val (.int p1), .val (.int p2), .val (.int p3), .val (.int p4), .val (.int x4), .val (.int x5), .val (.int x6), .val (.int x7), .val (.int x8), .val (.int x9), .val (.int x10), .val (.int x11), .val (.int x12), .val (.int x13), .val (.int x14), .val (.ref b1), .unset, .unset, .unset, .unset, .unset, .unset, .unset, .unset, .unset, .unset] [(.int 0), (.ref b1)])) rfl (by rw [hml]; rfl) (argsL := [(.int 0)]) (rest := [(.ref b1)]) (lenOf pd_21 rfl) rfl (by show 2 * 0 + _ ≤ _; exact Nat.le_of_eq rfl) (hb hby at_87) (fun _ _ => ⟨rfl, rfl, (by decide : 1 + 0 ≤ _), (by decide : 3 + 0 ≤ _)⟩)
  dsimp only [Pt.U, Pt.locs, Pt.cells, Pt.slots] at X3 l3 y3 z3 st3 hQ3
  rw [l3, y3, z3] at X3
  clear l3 y3 z3
  obtain ⟨r3, rfl, Nq3, e3, Pr3⟩ := hQ3
  have N3 := Fr.app N2 Nq3
  refine oS (fun t k => st3 t k) ?_
  show oG _ _ _ _ _ _ _ (T3.setTop (mkF m 90 #[.val (.int p1), .val (.int p2), .val (.int p3), .val (.int p4), .val (.int x4), .val (.int x5), .val (.int x6), .val (.int x7), .val (.int x8), .val (.int x9), .val (.int x10), .val (.int x11), .val (.int x12), .val (.int x13), .val (.int x14), .val (.ref b1), .unset, .unset, .unset, .unset, .unset, .unset, .unset, .unset, .unset, .unset] [(.ref r3), (.ref b1)]))
  try clear st3 X2 e2
  obtain ⟨cq4, kq4, q4a, q4b, q4c⟩ := isOf hZ e3 (A1.keep K2)
  obtain ⟨_, _, ⟨T4, L4, k4, n4⟩, -, X4, ⟨Lc4, hQ4, l4, y4, z4⟩, st4⟩ := X3.virtualBack hx (y := mY10) (z := mY10) hown (oM hZ hw 34 rfl) (oM hZ hw 35 rfl) (notFace_of_selects (args := #[]) (oM hZ hw 37 rfl)) (oM hZ hw 37 rfl) (oM hZ hw 36 rfl) (by decide) (backOf (W := 0) (rm_addI0 l Z a0 hw [] b1 (0 : Int32) r3 w T2.heap n0 O2 W (A1.keep K2) gx1 (Pr3.ext O2.2) P2_0 P2_1 P2_2) hZ (oW hw 38 rfl) (oW hw 3 rfl) (by decide) (by decide)) q4a q4c (g := (mkF m 90 #[.val (.int p1), .val (.int p2), .val (.int p3), .val (.int p4), .val (.int x4), .val (.int x5), .val (.int x6), .val (.int x7), .val (.int x8), .val (.int x9), .val (.int x10), .val (.int x11), .val (.int x12), .val (.int x13), .val (.int x14), .val (.ref b1), .unset, .unset, .unset, .unset, .unset, .unset, .unset, .unset, .unset, .unset] [(.ref r3), (.ref b1)])) rfl (by rw [hml]; rfl) (Steps.refl _) (argsL := [(.ref r3)]) (rest := []) (lenOf pd_22 rfl) rfl (by show 2 * 0 + _ ≤ _; exact Nat.le_of_eq rfl) (hb hby at_90) (fun _ _ => ⟨rfl, e3, (by decide : 1 + 1 ≤ _), (by decide : 3 + 10 ≤ _)⟩)
  dsimp only [Pt.U, Pt.locs, Pt.cells, Pt.slots] at X4 l4 y4 z4 st4 hQ4
  rw [l4, y4, z4] at X4
  clear l4 y4 z4
  obtain ⟨r4, x4_k, rfl, Nq4, K4, sr4, P4_0, P4_1, P4_2, P4_3, P4_4, P4_5⟩ := hQ4
  have N4 := Fr.app N3 Nq4
  have O4 := O2.keep K4 (allS gx1 all0)
  have gr4 : n0 ≤ r4 := Nat.le_trans (O2.1 ▸ O2.2.1) sr4
  have ne_b1_r4 : b1 ≠ r4 := Nat.ne_of_lt (Nat.lt_of_lt_of_le (A1.keep K2).lt sr4)
  refine oS (fun t k => st4.trans k) ?_
  show oG _ _ _ _ _ _ _ (T4.setTop (mkF m 93 #[.val (.int p1), .val (.int p2), .val (.int p3), .val (.int p4), .val (.int x4), .val (.int x5), .val (.int x6), .val (.int x7), .val (.int x8), .val (.int x9), .val (.int x10), .val (.int x11), .val (.int x12), .val (.int x13), .val (.int x14), .val (.ref b1), .unset, .unset, .unset, .unset, .unset, .unset, .unset, .unset, .unset, .unset] [(.int 1)]))
  try clear st4 X3 e3
  refine oS (fun t k => XS.pop X4.here hx rfl (hb hby at_93) rfl rfl k) ?_
  refine oS (fun t k => XS.aload X4.here hx rfl (hb hby at_94) rfl rfl k) ?_
  refine oS (fun t k => oIc li_1 X4.here hx rfl (hb hby at_96) k) ?_
  obtain ⟨_, _, ⟨T5, L5, k5, n5⟩, -, X5, ⟨Lc5, hQ5, l5, y5, z5⟩, st5⟩ := Jvm.LawKit.callS X4 hx (y := mY11) hown (oM hZ hw 27 rfl) (oM hZ hw 28 rfl) (oM hZ hw 29 rfl) (oM hZ hw 30 rfl) (by decide) (backOf (W := 1) (rm_val1 l Z a0 hw []  w T4.heap n0 O4 W ) hZ (oW hw 30 rfl) (oW hw 29 rfl) (by decide) (by decide)) (g := (mkF m 97 #[.val (.int p1), .val (.int p2), .val (.int p3), .val (.int p4), .val (.int x4), .val (.int x5), .val (.int x6), .val (.int x7), .val (.int x8), .val (.int x9), .val (.int x10), .val (.int x11), .val (.int x12), .val (.int x13), .val (.int x14), .val (.ref b1), .unset, .unset, .unset, .unset, .unset, .unset, .unset, .unset, .unset, .unset] [(.int 1), (.ref b1)])) rfl (by rw [hml]; rfl) (argsL := [(.int 1)]) (rest := [(.ref b1)]) (lenOf pd_21 rfl) rfl (by show 2 * 0 + _ ≤ _; exact Nat.le_of_eq rfl) (hb hby at_97) (fun _ _ => ⟨rfl, rfl, (by decide : 2 + 0 ≤ _), (by decide : 13 + 0 ≤ _)⟩)
  dsimp only [Pt.U, Pt.locs, Pt.cells, Pt.slots] at X5 l5 y5 z5 st5 hQ5
  rw [l5, y5, z5] at X5
  clear l5 y5 z5
  obtain ⟨r5, rfl, Nq5, e5, Pr5⟩ := hQ5
  have N5 := Fr.app N4 Nq5
  refine oS (fun t k => st5 t k) ?_
  show oG _ _ _ _ _ _ _ (T5.setTop (mkF m 100 #[.val (.int p1), .val (.int p2), .val (.int p3), .val (.int p4), .val (.int x4), .val (.int x5), .val (.int x6), .val (.int x7), .val (.int x8), .val (.int x9), .val (.int x10), .val (.int x11), .val (.int x12), .val (.int x13), .val (.int x14), .val (.ref b1), .unset, .unset, .unset, .unset, .unset, .unset, .unset, .unset, .unset, .unset] [(.ref r5), (.ref b1)]))
  try clear st5 X4 e4
  obtain ⟨cq6, kq6, q6a, q6b, q6c⟩ := isOf hZ e5 ((A1.keep K2).keep K4)
  obtain ⟨_, _, ⟨T6, L6, k6, n6⟩, -, X6, ⟨Lc6, hQ6, l6, y6, z6⟩, st6⟩ := X5.virtualBack hx (y := mY10) (z := mY10) hown (oM hZ hw 34 rfl) (oM hZ hw 35 rfl) (notFace_of_selects (args := #[]) (oM hZ hw 37 rfl)) (oM hZ hw 37 rfl) (oM hZ hw 36 rfl) (by decide) (backOf (W := 0) (rm_addI1 l Z a0 hw [] b1 ((0 : Int32) + (1 : Int32)) r5 r3 r4 x4_k w T4.heap n0 O4 W ((A1.keep K2).keep K4) gx1 (Pr5.ext O4.2) P4_0 P4_1 P4_2 P4_3 P4_4 P4_5 gr4 ne_b1_r4) hZ (oW hw 38 rfl) (oW hw 3 rfl) (by decide) (by decide)) q6a q6c (g := (mkF m 100 #[.val (.int p1), .val (.int p2), .val (.int p3), .val (.int p4), .val (.int x4), .val (.int x5), .val (.int x6), .val (.int x7), .val (.int x8), .val (.int x9), .val (.int x10), .val (.int x11), .val (.int x12), .val (.int x13), .val (.int x14), .val (.ref b1), .unset, .unset, .unset, .unset, .unset, .unset, .unset, .unset, .unset, .unset] [(.ref r5), (.ref b1)])) rfl (by rw [hml]; rfl) (Steps.refl _) (argsL := [(.ref r5)]) (rest := []) (lenOf pd_22 rfl) rfl (by show 2 * 0 + _ ≤ _; exact Nat.le_of_eq rfl) (hb hby at_100) (fun _ _ => ⟨rfl, e5, (by decide : 2 + 0 ≤ _), (by decide : 13 + 0 ≤ _)⟩)
  dsimp only [Pt.U, Pt.locs, Pt.cells, Pt.slots] at X6 l6 y6 z6 st6 hQ6
  rw [l6, y6, z6] at X6
  clear l6 y6 z6
  obtain ⟨rfl, Nq6, K6, P6_0, P6_1, P6_2, P6_3, P6_4, P6_5⟩ := hQ6
  have N6 := Fr.app N5 Nq6
  have O6 := O4.keep K6 (allS gx1 (allS gr4 all0))
  refine oS (fun t k => st6.trans k) ?_
  show oG _ _ _ _ _ _ _ (T6.setTop (mkF m 103 #[.val (.int p1), .val (.int p2), .val (.int p3), .val (.int p4), .val (.int x4), .val (.int x5), .val (.int x6), .val (.int x7), .val (.int x8), .val (.int x9), .val (.int x10), .val (.int x11), .val (.int x12), .val (.int x13), .val (.int x14), .val (.ref b1), .unset, .unset, .unset, .unset, .unset, .unset, .unset, .unset, .unset, .unset] [(.int 1)]))
  try clear st6 X5 e5
  refine oS (fun t k => XS.pop X6.here hx rfl (hb hby at_103) rfl rfl k) ?_
  obtain ⟨T7, h7, X7, e7, E7, A7, D7, -, st7⟩ := newO X6 hx hZ hown (oW hw 1 rfl) (oW hw 2 rfl) (oW hw 3 rfl) rfl (g := (mkF m 104 #[.val (.int p1), .val (.int p2), .val (.int p3), .val (.int p4), .val (.int x4), .val (.int x5), .val (.int x6), .val (.int x7), .val (.int x8), .val (.int x9), .val (.int x10), .val (.int x11), .val (.int x12), .val (.int x13), .val (.int x14), .val (.ref b1), .unset, .unset, .unset, .unset, .unset, .unset, .unset, .unset, .unset, .unset] [])) rfl (hb hby at_104) (by decide) (by decide)
  obtain ⟨b7, g7⟩ : ∃ z, z = T6.heap.size := ⟨_, rfl⟩
  rw [← g7] at A7 D7 st7
  have gx7 : n0 ≤ b7 := Nat.le_trans (O6.1 ▸ O6.2.1) (Nat.le_of_eq g7.symm)
  have ne_b1_b7 : b1 ≠ b7 := Nat.ne_of_lt (Nat.lt_of_lt_of_le (((A1.keep K2).keep K4).keep K6).lt (Nat.le_of_eq g7.symm))
  have ne_r4_b7 : r4 ≠ b7 := Nat.ne_of_lt (Nat.lt_of_lt_of_le P6_5.lt (Nat.le_of_eq g7.symm))
  have O7 := O6.ext E7
  have F_modCount_b7 : Fld Z h7 b7 "java/util/AbstractList" "modCount" "I" (.int 0) := D7 (Or.inl (oW hw 23 rfl)) (ty := .int) (by decide)
  have F_elementData_b7 : Fld Z h7 b7 "java/util/ArrayList" "elementData" "[Ljava/lang/Object;" .null := D7 (Or.inl (oW hw 26 rfl)) (ty := (.array (.object "java/lang/Object"))) (by decide)
  have F_size_b7 : Fld Z h7 b7 "java/util/ArrayList" "size" "I" (.int 0) := D7 (Or.inl (oW hw 42 rfl)) (ty := .int) (by decide)
  refine oS (fun t k => st7 t k) ?_
  try clear st7 X6 e6
  refine oS (fun t k => XS.dup X7.here hx rfl (hb hby at_107) rfl rfl k) ?_
  obtain ⟨_, _, ⟨T8, L8, k8, n8⟩, -, X8, ⟨Lc8, hQ8, l8, y8, z8⟩, st8⟩ := X7.specialBack hx (y := mY5) rfl hown (oM hZ hw 4 rfl) (oM hZ hw 5 rfl) (oM hZ hw 6 rfl) (by decide) (backOf (W := 1) (rm_alinit l Z a0 hw [] b7 w h7 n0 O7 W A7 gx7 F_modCount_b7 F_elementData_b7 F_size_b7) hZ (oW hw 6 rfl) (oW hw 3 rfl) (by decide) (by decide)) (g := (mkF m 108 #[.val (.int p1), .val (.int p2), .val (.int p3), .val (.int p4), .val (.int x4), .val (.int x5), .val (.int x6), .val (.int x7), .val (.int x8), .val (.int x9), .val (.int x10), .val (.int x11), .val (.int x12), .val (.int x13), .val (.int x14), .val (.ref b1), .unset, .unset, .unset, .unset, .unset, .unset, .unset, .unset, .unset, .unset] [(.ref b7), (.ref b7)])) rfl (by rw [hml]; rfl) (Steps.refl _) (a := b7) (argsL := []) (rest := [(.ref b7)]) (lenOf pd_0 rfl) rfl (by show 2 * 0 + _ ≤ _; exact Nat.le_of_eq rfl) (hb hby at_108) (fun _ _ => ⟨rfl, e7, (by decide : 3 + 0 ≤ _), (by decide : 16 + 0 ≤ _)⟩)
  dsimp only [Pt.U, Pt.locs, Pt.cells, Pt.slots] at X8 l8 y8 z8 st8 hQ8
  rw [l8, y8, z8] at X8
  clear l8 y8 z8
  obtain ⟨rfl, Nq8, K8, P8_0, P8_1, P8_2⟩ := hQ8
  have N8 := Fr.app N6 Nq8
  have O8 := O7.keep K8 (allS gx7 all0)
  refine oS (fun t k => st8.trans k) ?_
  show oG _ _ _ _ _ _ _ (T8.setTop (mkF m 111 #[.val (.int p1), .val (.int p2), .val (.int p3), .val (.int p4), .val (.int x4), .val (.int x5), .val (.int x6), .val (.int x7), .val (.int x8), .val (.int x9), .val (.int x10), .val (.int x11), .val (.int x12), .val (.int x13), .val (.int x14), .val (.ref b1), .unset, .unset, .unset, .unset, .unset, .unset, .unset, .unset, .unset, .unset] [(.ref b7)]))
  try clear st8 X7 e7
  try clear T7
  refine oS (fun t k => XS.astore X8.here hx rfl (hb hby at_111) rfl rfl (l' := #[.val (.int p1), .val (.int p2), .val (.int p3), .val (.int p4), .val (.int x4), .val (.int x5), .val (.int x6), .val (.int x7), .val (.int x8), .val (.int x9), .val (.int x10), .val (.int x11), .val (.int x12), .val (.int x13), .val (.int x14), .val (.ref b1), .val (.ref b7), .unset, .unset, .unset, .unset, .unset, .unset, .unset, .unset, .unset]) rfl k) ?_
  refine oS (fun t k => XS.aload X8.here hx rfl (hb hby at_113) rfl rfl k) ?_
  refine oS (fun t k => oIc li_0 X8.here hx rfl (hb hby at_115) k) ?_
  obtain ⟨_, _, ⟨T9, L9, k9, n9⟩, -, X9, ⟨Lc9, hQ9, l9, y9, z9⟩, st9⟩ := Jvm.LawKit.callS X8 hx (y := mY11) hown (oM hZ hw 27 rfl) (oM hZ hw 28 rfl) (oM hZ hw 29 rfl) (oM hZ hw 30 rfl) (by decide) (backOf (W := 1) (rm_val0 l Z a0 hw []  w T8.heap n0 O8 W ) hZ (oW hw 30 rfl) (oW hw 29 rfl) (by decide) (by decide)) (g := (mkF m 116 #[.val (.int p1), .val (.int p2), .val (.int p3), .val (.int p4), .val (.int x4), .val (.int x5), .val (.int x6), .val (.int x7), .val (.int x8), .val (.int x9), .val (.int x10), .val (.int x11), .val (.int x12), .val (.int x13), .val (.int x14), .val (.ref b1), .val (.ref b7), .unset, .unset, .unset, .unset, .unset, .unset, .unset, .unset, .unset] [(.int 0), (.ref b7)])) rfl (by rw [hml]; rfl) (argsL := [(.int 0)]) (rest := [(.ref b7)]) (lenOf pd_21 rfl) rfl (by show 2 * 0 + _ ≤ _; exact Nat.le_of_eq rfl) (hb hby at_116) (fun _ _ => ⟨rfl, rfl, (by decide : 3 + 0 ≤ _), (by decide : 16 + 0 ≤ _)⟩)
  dsimp only [Pt.U, Pt.locs, Pt.cells, Pt.slots] at X9 l9 y9 z9 st9 hQ9
  rw [l9, y9, z9] at X9
  clear l9 y9 z9
  obtain ⟨r9, rfl, Nq9, e9, Pr9⟩ := hQ9
  have N9 := Fr.app N8 Nq9
  refine oS (fun t k => st9 t k) ?_
  show oG _ _ _ _ _ _ _ (T9.setTop (mkF m 119 #[.val (.int p1), .val (.int p2), .val (.int p3), .val (.int p4), .val (.int x4), .val (.int x5), .val (.int x6), .val (.int x7), .val (.int x8), .val (.int x9), .val (.int x10), .val (.int x11), .val (.int x12), .val (.int x13), .val (.int x14), .val (.ref b1), .val (.ref b7), .unset, .unset, .unset, .unset, .unset, .unset, .unset, .unset, .unset] [(.ref r9), (.ref b7)]))
  try clear st9 X8 e8
  obtain ⟨cq10, kq10, q10a, q10b, q10c⟩ := isOf hZ e9 (A7.keep K8)
  obtain ⟨_, _, ⟨T10, L10, k10, n10⟩, -, X10, ⟨Lc10, hQ10, l10, y10, z10⟩, st10⟩ := X9.virtualBack hx (y := mY10) (z := mY10) hown (oM hZ hw 34 rfl) (oM hZ hw 35 rfl) (notFace_of_selects (args := #[]) (oM hZ hw 37 rfl)) (oM hZ hw 37 rfl) (oM hZ hw 36 rfl) (by decide) (backOf (W := 0) (rm_addI0 l Z a0 hw [] b7 (0 : Int32) r9 w T8.heap n0 O8 W (A7.keep K8) gx7 (Pr9.ext O8.2) P8_0 P8_1 P8_2) hZ (oW hw 38 rfl) (oW hw 3 rfl) (by decide) (by decide)) q10a q10c (g := (mkF m 119 #[.val (.int p1), .val (.int p2), .val (.int p3), .val (.int p4), .val (.int x4), .val (.int x5), .val (.int x6), .val (.int x7), .val (.int x8), .val (.int x9), .val (.int x10), .val (.int x11), .val (.int x12), .val (.int x13), .val (.int x14), .val (.ref b1), .val (.ref b7), .unset, .unset, .unset, .unset, .unset, .unset, .unset, .unset, .unset] [(.ref r9), (.ref b7)])) rfl (by rw [hml]; rfl) (Steps.refl _) (argsL := [(.ref r9)]) (rest := []) (lenOf pd_22 rfl) rfl (by show 2 * 0 + _ ≤ _; exact Nat.le_of_eq rfl) (hb hby at_119) (fun _ _ => ⟨rfl, e9, (by decide : 3 + 1 ≤ _), (by decide : 16 + 10 ≤ _)⟩)
  dsimp only [Pt.U, Pt.locs, Pt.cells, Pt.slots] at X10 l10 y10 z10 st10 hQ10
  rw [l10, y10, z10] at X10
  clear l10 y10 z10
  obtain ⟨r10, x10_k, rfl, Nq10, K10, sr10, P10_0, P10_1, P10_2, P10_3, P10_4, P10_5⟩ := hQ10
  have N10 := Fr.app N9 Nq10
  have O10 := O8.keep K10 (allS gx7 all0)
  have gr10 : n0 ≤ r10 := Nat.le_trans (O8.1 ▸ O8.2.1) sr10
  have ne_b1_r10 : b1 ≠ r10 := Nat.ne_of_lt (Nat.lt_of_lt_of_le (((((A1.keep K2).keep K4).keep K6).ext E7).keep K8).lt sr10)
  have ne_r4_r10 : r4 ≠ r10 := Nat.ne_of_lt (Nat.lt_of_lt_of_le ((P6_5.ext E7).keep K8).lt sr10)
  have ne_b7_r10 : b7 ≠ r10 := Nat.ne_of_lt (Nat.lt_of_lt_of_le (A7.keep K8).lt sr10)
  refine oS (fun t k => st10.trans k) ?_
  show oG _ _ _ _ _ _ _ (T10.setTop (mkF m 122 #[.val (.int p1), .val (.int p2), .val (.int p3), .val (.int p4), .val (.int x4), .val (.int x5), .val (.int x6), .val (.int x7), .val (.int x8), .val (.int x9), .val (.int x10), .val (.int x11), .val (.int x12), .val (.int x13), .val (.int x14), .val (.ref b1), .val (.ref b7), .unset, .unset, .unset, .unset, .unset, .unset, .unset, .unset, .unset] [(.int 1)]))
  try clear st10 X9 e9
  refine oS (fun t k => XS.pop X10.here hx rfl (hb hby at_122) rfl rfl k) ?_
  refine oS (fun t k => XS.aload X10.here hx rfl (hb hby at_123) rfl rfl k) ?_
  refine oS (fun t k => oIc li_1 X10.here hx rfl (hb hby at_125) k) ?_
  obtain ⟨_, _, ⟨T11, L11, k11, n11⟩, -, X11, ⟨Lc11, hQ11, l11, y11, z11⟩, st11⟩ := Jvm.LawKit.callS X10 hx (y := mY11) hown (oM hZ hw 27 rfl) (oM hZ hw 28 rfl) (oM hZ hw 29 rfl) (oM hZ hw 30 rfl) (by decide) (backOf (W := 1) (rm_val1 l Z a0 hw []  w T10.heap n0 O10 W ) hZ (oW hw 30 rfl) (oW hw 29 rfl) (by decide) (by decide)) (g := (mkF m 126 #[.val (.int p1), .val (.int p2), .val (.int p3), .val (.int p4), .val (.int x4), .val (.int x5), .val (.int x6), .val (.int x7), .val (.int x8), .val (.int x9), .val (.int x10), .val (.int x11), .val (.int x12), .val (.int x13), .val (.int x14), .val (.ref b1), .val (.ref b7), .unset, .unset, .unset, .unset, .unset, .unset, .unset, .unset, .unset] [(.int 1), (.ref b7)])) rfl (by rw [hml]; rfl) (argsL := [(.int 1)]) (rest := [(.ref b7)]) (lenOf pd_21 rfl) rfl (by show 2 * 0 + _ ≤ _; exact Nat.le_of_eq rfl) (hb hby at_126) (fun _ _ => ⟨rfl, rfl, (by decide : 4 + 0 ≤ _), (by decide : 26 + 0 ≤ _)⟩)
  dsimp only [Pt.U, Pt.locs, Pt.cells, Pt.slots] at X11 l11 y11 z11 st11 hQ11
  rw [l11, y11, z11] at X11
  clear l11 y11 z11
  obtain ⟨r11, rfl, Nq11, e11, Pr11⟩ := hQ11
  have N11 := Fr.app N10 Nq11
  refine oS (fun t k => st11 t k) ?_
  show oG _ _ _ _ _ _ _ (T11.setTop (mkF m 129 #[.val (.int p1), .val (.int p2), .val (.int p3), .val (.int p4), .val (.int x4), .val (.int x5), .val (.int x6), .val (.int x7), .val (.int x8), .val (.int x9), .val (.int x10), .val (.int x11), .val (.int x12), .val (.int x13), .val (.int x14), .val (.ref b1), .val (.ref b7), .unset, .unset, .unset, .unset, .unset, .unset, .unset, .unset, .unset] [(.ref r11), (.ref b7)]))
  try clear st11 X10 e10
  obtain ⟨cq12, kq12, q12a, q12b, q12c⟩ := isOf hZ e11 ((A7.keep K8).keep K10)
  obtain ⟨_, _, ⟨T12, L12, k12, n12⟩, -, X12, ⟨Lc12, hQ12, l12, y12, z12⟩, st12⟩ := X11.virtualBack hx (y := mY10) (z := mY10) hown (oM hZ hw 34 rfl) (oM hZ hw 35 rfl) (notFace_of_selects (args := #[]) (oM hZ hw 37 rfl)) (oM hZ hw 37 rfl) (oM hZ hw 36 rfl) (by decide) (backOf (W := 0) (rm_addI1 l Z a0 hw [] b7 ((0 : Int32) + (1 : Int32)) r11 r9 r10 x10_k w T10.heap n0 O10 W ((A7.keep K8).keep K10) gx7 (Pr11.ext O10.2) P10_0 P10_1 P10_2 P10_3 P10_4 P10_5 gr10 ne_b7_r10) hZ (oW hw 38 rfl) (oW hw 3 rfl) (by decide) (by decide)) q12a q12c (g := (mkF m 129 #[.val (.int p1), .val (.int p2), .val (.int p3), .val (.int p4), .val (.int x4), .val (.int x5), .val (.int x6), .val (.int x7), .val (.int x8), .val (.int x9), .val (.int x10), .val (.int x11), .val (.int x12), .val (.int x13), .val (.int x14), .val (.ref b1), .val (.ref b7), .unset, .unset, .unset, .unset, .unset, .unset, .unset, .unset, .unset] [(.ref r11), (.ref b7)])) rfl (by rw [hml]; rfl) (Steps.refl _) (argsL := [(.ref r11)]) (rest := []) (lenOf pd_22 rfl) rfl (by show 2 * 0 + _ ≤ _; exact Nat.le_of_eq rfl) (hb hby at_129) (fun _ _ => ⟨rfl, e11, (by decide : 4 + 0 ≤ _), (by decide : 26 + 0 ≤ _)⟩)
  dsimp only [Pt.U, Pt.locs, Pt.cells, Pt.slots] at X12 l12 y12 z12 st12 hQ12
  rw [l12, y12, z12] at X12
  clear l12 y12 z12
  obtain ⟨rfl, Nq12, K12, P12_0, P12_1, P12_2, P12_3, P12_4, P12_5⟩ := hQ12
  have N12 := Fr.app N11 Nq12
  have O12 := O10.keep K12 (allS gx7 (allS gr10 all0))
  refine oS (fun t k => st12.trans k) ?_
  show oG _ _ _ _ _ _ _ (T12.setTop (mkF m 132 #[.val (.int p1), .val (.int p2), .val (.int p3), .val (.int p4), .val (.int x4), .val (.int x5), .val (.int x6), .val (.int x7), .val (.int x8), .val (.int x9), .val (.int x10), .val (.int x11), .val (.int x12), .val (.int x13), .val (.int x14), .val (.ref b1), .val (.ref b7), .unset, .unset, .unset, .unset, .unset, .unset, .unset, .unset, .unset] [(.int 1)]))
  try clear st12 X11 e11
  refine oS (fun t k => XS.pop X12.here hx rfl (hb hby at_132) rfl rfl k) ?_
  obtain ⟨T13, h13, X13, e13, E13, A13, D13, -, st13⟩ := newO X12 hx hZ hown (oW hw 1 rfl) (oW hw 2 rfl) (oW hw 3 rfl) rfl (g := (mkF m 133 #[.val (.int p1), .val (.int p2), .val (.int p3), .val (.int p4), .val (.int x4), .val (.int x5), .val (.int x6), .val (.int x7), .val (.int x8), .val (.int x9), .val (.int x10), .val (.int x11), .val (.int x12), .val (.int x13), .val (.int x14), .val (.ref b1), .val (.ref b7), .unset, .unset, .unset, .unset, .unset, .unset, .unset, .unset, .unset] [])) rfl (hb hby at_133) (by decide) (by decide)
  obtain ⟨b13, g13⟩ : ∃ z, z = T12.heap.size := ⟨_, rfl⟩
  rw [← g13] at A13 D13 st13
  have gx13 : n0 ≤ b13 := Nat.le_trans (O12.1 ▸ O12.2.1) (Nat.le_of_eq g13.symm)
  have ne_b1_b13 : b1 ≠ b13 := Nat.ne_of_lt (Nat.lt_of_lt_of_le (((((((A1.keep K2).keep K4).keep K6).ext E7).keep K8).keep K10).keep K12).lt (Nat.le_of_eq g13.symm))
  have ne_r4_b13 : r4 ≠ b13 := Nat.ne_of_lt (Nat.lt_of_lt_of_le ((((P6_5.ext E7).keep K8).keep K10).keep K12).lt (Nat.le_of_eq g13.symm))
  have ne_b7_b13 : b7 ≠ b13 := Nat.ne_of_lt (Nat.lt_of_lt_of_le (((A7.keep K8).keep K10).keep K12).lt (Nat.le_of_eq g13.symm))
  have ne_r10_b13 : r10 ≠ b13 := Nat.ne_of_lt (Nat.lt_of_lt_of_le P12_5.lt (Nat.le_of_eq g13.symm))
  have O13 := O12.ext E13
  have F_modCount_b13 : Fld Z h13 b13 "java/util/AbstractList" "modCount" "I" (.int 0) := D13 (Or.inl (oW hw 23 rfl)) (ty := .int) (by decide)
  have F_elementData_b13 : Fld Z h13 b13 "java/util/ArrayList" "elementData" "[Ljava/lang/Object;" .null := D13 (Or.inl (oW hw 26 rfl)) (ty := (.array (.object "java/lang/Object"))) (by decide)
  have F_size_b13 : Fld Z h13 b13 "java/util/ArrayList" "size" "I" (.int 0) := D13 (Or.inl (oW hw 42 rfl)) (ty := .int) (by decide)
  refine oS (fun t k => st13 t k) ?_
  try clear st13 X12 e12
  refine oS (fun t k => XS.dup X13.here hx rfl (hb hby at_136) rfl rfl k) ?_
  obtain ⟨_, _, ⟨T14, L14, k14, n14⟩, -, X14, ⟨Lc14, hQ14, l14, y14, z14⟩, st14⟩ := X13.specialBack hx (y := mY5) rfl hown (oM hZ hw 4 rfl) (oM hZ hw 5 rfl) (oM hZ hw 6 rfl) (by decide) (backOf (W := 1) (rm_alinit l Z a0 hw [] b13 w h13 n0 O13 W A13 gx13 F_modCount_b13 F_elementData_b13 F_size_b13) hZ (oW hw 6 rfl) (oW hw 3 rfl) (by decide) (by decide)) (g := (mkF m 137 #[.val (.int p1), .val (.int p2), .val (.int p3), .val (.int p4), .val (.int x4), .val (.int x5), .val (.int x6), .val (.int x7), .val (.int x8), .val (.int x9), .val (.int x10), .val (.int x11), .val (.int x12), .val (.int x13), .val (.int x14), .val (.ref b1), .val (.ref b7), .unset, .unset, .unset, .unset, .unset, .unset, .unset, .unset, .unset] [(.ref b13), (.ref b13)])) rfl (by rw [hml]; rfl) (Steps.refl _) (a := b13) (argsL := []) (rest := [(.ref b13)]) (lenOf pd_0 rfl) rfl (by show 2 * 0 + _ ≤ _; exact Nat.le_of_eq rfl) (hb hby at_137) (fun _ _ => ⟨rfl, e13, (by decide : 5 + 0 ≤ _), (by decide : 29 + 0 ≤ _)⟩)
  dsimp only [Pt.U, Pt.locs, Pt.cells, Pt.slots] at X14 l14 y14 z14 st14 hQ14
  rw [l14, y14, z14] at X14
  clear l14 y14 z14
  obtain ⟨rfl, Nq14, K14, P14_0, P14_1, P14_2⟩ := hQ14
  have N14 := Fr.app N12 Nq14
  have O14 := O13.keep K14 (allS gx13 all0)
  refine oS (fun t k => st14.trans k) ?_
  show oG _ _ _ _ _ _ _ (T14.setTop (mkF m 140 #[.val (.int p1), .val (.int p2), .val (.int p3), .val (.int p4), .val (.int x4), .val (.int x5), .val (.int x6), .val (.int x7), .val (.int x8), .val (.int x9), .val (.int x10), .val (.int x11), .val (.int x12), .val (.int x13), .val (.int x14), .val (.ref b1), .val (.ref b7), .unset, .unset, .unset, .unset, .unset, .unset, .unset, .unset, .unset] [(.ref b13)]))
  try clear st14 X13 e13
  try clear T13
  refine oS (fun t k => XS.astore X14.here hx rfl (hb hby at_140) rfl rfl (l' := #[.val (.int p1), .val (.int p2), .val (.int p3), .val (.int p4), .val (.int x4), .val (.int x5), .val (.int x6), .val (.int x7), .val (.int x8), .val (.int x9), .val (.int x10), .val (.int x11), .val (.int x12), .val (.int x13), .val (.int x14), .val (.ref b1), .val (.ref b7), .val (.ref b13), .unset, .unset, .unset, .unset, .unset, .unset, .unset, .unset]) rfl k) ?_
  refine oS (fun t k => XS.aload X14.here hx rfl (hb hby at_142) rfl rfl k) ?_
  obtain ⟨T15, h15, X15, e15, E15, A15, D15, -, st15⟩ := newO X14 hx hZ hown (oW hw 65 rfl) (oW hw 66 rfl) (oW hw 67 rfl) rfl (g := (mkF m 144 #[.val (.int p1), .val (.int p2), .val (.int p3), .val (.int p4), .val (.int x4), .val (.int x5), .val (.int x6), .val (.int x7), .val (.int x8), .val (.int x9), .val (.int x10), .val (.int x11), .val (.int x12), .val (.int x13), .val (.int x14), .val (.ref b1), .val (.ref b7), .val (.ref b13), .unset, .unset, .unset, .unset, .unset, .unset, .unset, .unset] [(.ref b13)])) rfl (hb hby at_144) (by decide) (by decide)
  obtain ⟨b15, g15⟩ : ∃ z, z = T14.heap.size := ⟨_, rfl⟩
  rw [← g15] at A15 D15 st15
  have gx15 : n0 ≤ b15 := Nat.le_trans (O14.1 ▸ O14.2.1) (Nat.le_of_eq g15.symm)
  have ne_b1_b15 : b1 ≠ b15 := Nat.ne_of_lt (Nat.lt_of_lt_of_le (((((((((A1.keep K2).keep K4).keep K6).ext E7).keep K8).keep K10).keep K12).ext E13).keep K14).lt (Nat.le_of_eq g15.symm))
  have ne_r4_b15 : r4 ≠ b15 := Nat.ne_of_lt (Nat.lt_of_lt_of_le ((((((P6_5.ext E7).keep K8).keep K10).keep K12).ext E13).keep K14).lt (Nat.le_of_eq g15.symm))
  have ne_b7_b15 : b7 ≠ b15 := Nat.ne_of_lt (Nat.lt_of_lt_of_le (((((A7.keep K8).keep K10).keep K12).ext E13).keep K14).lt (Nat.le_of_eq g15.symm))
  have ne_r10_b15 : r10 ≠ b15 := Nat.ne_of_lt (Nat.lt_of_lt_of_le ((P12_5.ext E13).keep K14).lt (Nat.le_of_eq g15.symm))
  have ne_b13_b15 : b13 ≠ b15 := Nat.ne_of_lt (Nat.lt_of_lt_of_le (A13.keep K14).lt (Nat.le_of_eq g15.symm))
  have O15 := O14.ext E15
  have F_staff_b15 : Fld Z h15 b15 "com/example/shiftweave/shiftweave/rostering/ShiftRequest" "staff" "I" (.int 0) := D15 (Or.inr (oW hw 78 rfl)) (ty := .int) (by decide)
  have F_day_b15 : Fld Z h15 b15 "com/example/shiftweave/shiftweave/rostering/ShiftRequest" "day" "I" (.int 0) := D15 (Or.inr (oW hw 80 rfl)) (ty := .int) (by decide)
  have F_shift_b15 : Fld Z h15 b15 "com/example/shiftweave/shiftweave/rostering/ShiftRequest" "shift" "I" (.int 0) := D15 (Or.inr (oW hw 82 rfl)) (ty := .int) (by decide)
  have F_weight_b15 : Fld Z h15 b15 "com/example/shiftweave/shiftweave/rostering/ShiftRequest" "weight" "I" (.int 0) := D15 (Or.inr (oW hw 84 rfl)) (ty := .int) (by decide)
  refine oS (fun t k => st15 t k) ?_
  try clear st15 X14 e14
  refine oS (fun t k => XS.dup X15.here hx rfl (hb hby at_147) rfl rfl k) ?_
  refine oS (fun t k => XS.iload X15.here hx rfl (hb hby at_148) rfl k) ?_
  refine oS (fun t k => XS.iload X15.here hx rfl (hb hby at_150) rfl k) ?_
  refine oS (fun t k => XS.iload X15.here hx rfl (hb hby at_152) rfl k) ?_
  show oG _ _ _ _ _ _ _ (T15.setTop (mkF m 154 #[.val (.int p1), .val (.int p2), .val (.int p3), .val (.int p4), .val (.int x4), .val (.int x5), .val (.int x6), .val (.int x7), .val (.int x8), .val (.int x9), .val (.int x10), .val (.int x11), .val (.int x12), .val (.int x13), .val (.int x14), .val (.ref b1), .val (.ref b7), .val (.ref b13), .unset, .unset, .unset, .unset, .unset, .unset, .unset, .unset] [(.int x6), (.int x5), (.int x4), (.ref b15), (.ref b15), (.ref b13)]))
  refine oS (fun t k => XS.iload X15.here hx rfl (hb hby at_154) rfl k) ?_
  obtain ⟨_, _, ⟨T16, L16, k16, n16⟩, -, X16, ⟨Lc16, hQ16, l16, y16, z16⟩, st16⟩ := X15.specialBack hx (y := mY12) rfl hown (oM hZ hw 68 rfl) (oM hZ hw 69 rfl) (oM hZ hw 70 rfl) (by decide) (backOf (W := 2) (rm_srinit l Z a0 hw [] b15 x4 x5 x6 x10 (.int 0) (.int 0) (.int 0) (.int 0) w h15 n0 O15 W A15 gx15 F_staff_b15 F_day_b15 F_shift_b15 F_weight_b15) hZ (oW hw 70 rfl) (oW hw 67 rfl) (by decide) (by decide)) (g := (mkF m 156 #[.val (.int p1), .val (.int p2), .val (.int p3), .val (.int p4), .val (.int x4), .val (.int x5), .val (.int x6), .val (.int x7), .val (.int x8), .val (.int x9), .val (.int x10), .val (.int x11), .val (.int x12), .val (.int x13), .val (.int x14), .val (.ref b1), .val (.ref b7), .val (.ref b13), .unset, .unset, .unset, .unset, .unset, .unset, .unset, .unset] [(.int x10), (.int x6), (.int x5), (.int x4), (.ref b15), (.ref b15), (.ref b13)])) rfl (by rw [hml]; rfl) (Steps.refl _) (a := b15) (argsL := [(.int x4), (.int x5), (.int x6), (.int x10)]) (rest := [(.ref b15), (.ref b13)]) (lenOf pd_23 rfl) rfl (by show 2 * 0 + _ ≤ _; exact Nat.le_of_eq rfl) (hb hby at_156) (fun _ _ => ⟨rfl, e15, (by decide : 6 + 0 ≤ _), (by decide : 33 + 0 ≤ _)⟩)
  dsimp only [Pt.U, Pt.locs, Pt.cells, Pt.slots] at X16 l16 y16 z16 st16 hQ16
  rw [l16, y16, z16] at X16
  clear l16 y16 z16
  obtain ⟨rfl, Nq16, K16, P16_0, P16_1, P16_2, P16_3, P16_4⟩ := hQ16
  have N16 := Fr.app N14 Nq16
  have O16 := O15.keep K16 (allS gx15 all0)
  refine oS (fun t k => st16.trans k) ?_
  show oG _ _ _ _ _ _ _ (T16.setTop (mkF m 159 #[.val (.int p1), .val (.int p2), .val (.int p3), .val (.int p4), .val (.int x4), .val (.int x5), .val (.int x6), .val (.int x7), .val (.int x8), .val (.int x9), .val (.int x10), .val (.int x11), .val (.int x12), .val (.int x13), .val (.int x14), .val (.ref b1), .val (.ref b7), .val (.ref b13), .unset, .unset, .unset, .unset, .unset, .unset, .unset, .unset] [(.ref b15), (.ref b13)]))
  try clear st16 X15 e15
  try clear T15
  obtain ⟨cq17, kq17, q17a, q17b, q17c⟩ := isOf hZ rfl (((A13.keep K14).ext E15).keep K16)
  obtain ⟨_, _, ⟨T17, L17, k17, n17⟩, -, X17, ⟨Lc17, hQ17, l17, y17, z17⟩, st17⟩ := X16.virtualBack hx (y := mY10) (z := mY10) hown (oM hZ hw 34 rfl) (oM hZ hw 35 rfl) (notFace_of_selects (args := #[]) (oM hZ hw 37 rfl)) (oM hZ hw 37 rfl) (oM hZ hw 36 rfl) (by decide) (backOf (W := 0) (rm_addS0 l Z a0 hw [] b13 (0 : Int32) b15 w T16.heap n0 O16 W (((A13.keep K14).ext E15).keep K16) gx13 P16_0 ((P14_0.ext E15).keep K16 (fun q => ne_b13_b15 (List.mem_singleton.mp q))) ((P14_1.ext E15).keep K16 (fun q => ne_b13_b15 (List.mem_singleton.mp q))) ((P14_2.ext E15).keep K16 (fun q => ne_b13_b15 (List.mem_singleton.mp q)))) hZ (oW hw 38 rfl) (oW hw 3 rfl) (by decide) (by decide)) q17a q17c (g := (mkF m 159 #[.val (.int p1), .val (.int p2), .val (.int p3), .val (.int p4), .val (.int x4), .val (.int x5), .val (.int x6), .val (.int x7), .val (.int x8), .val (.int x9), .val (.int x10), .val (.int x11), .val (.int x12), .val (.int x13), .val (.int x14), .val (.ref b1), .val (.ref b7), .val (.ref b13), .unset, .unset, .unset, .unset, .unset, .unset, .unset, .unset] [(.ref b15), (.ref b13)])) rfl (by rw [hml]; rfl) (Steps.refl _) (argsL := [(.ref b15)]) (rest := []) (lenOf pd_22 rfl) rfl (by show 2 * 0 + _ ≤ _; exact Nat.le_of_eq rfl) (hb hby at_159) (fun _ _ => ⟨rfl, rfl, (by decide : 6 + 1 ≤ _), (by decide : 33 + 10 ≤ _)⟩)
  dsimp only [Pt.U, Pt.locs, Pt.cells, Pt.slots] at X17 l17 y17 z17 st17 hQ17
  rw [l17, y17, z17] at X17
  clear l17 y17 z17
  obtain ⟨r17, x17_k, rfl, Nq17, K17, sr17, P17_0, P17_1, P17_2, P17_3, P17_4, P17_5⟩ := hQ17
  have N17 := Fr.app N16 Nq17
  have O17 := O16.keep K17 (allS gx13 all0)
  have gr17 : n0 ≤ r17 := Nat.le_trans (O16.1 ▸ O16.2.1) sr17
  have ne_b1_r17 : b1 ≠ r17 := Nat.ne_of_lt (Nat.lt_of_lt_of_le (((((((((((A1.keep K2).keep K4).keep K6).ext E7).keep K8).keep K10).keep K12).ext E13).keep K14).ext E15).keep K16).lt sr17)
  have ne_r4_r17 : r4 ≠ r17 := Nat.ne_of_lt (Nat.lt_of_lt_of_le ((((((((P6_5.ext E7).keep K8).keep K10).keep K12).ext E13).keep K14).ext E15).keep K16).lt sr17)
  have ne_b7_r17 : b7 ≠ r17 := Nat.ne_of_lt (Nat.lt_of_lt_of_le (((((((A7.keep K8).keep K10).keep K12).ext E13).keep K14).ext E15).keep K16).lt sr17)
  have ne_r10_r17 : r10 ≠ r17 := Nat.ne_of_lt (Nat.lt_of_lt_of_le ((((P12_5.ext E13).keep K14).ext E15).keep K16).lt sr17)
  have ne_b13_r17 : b13 ≠ r17 := Nat.ne_of_lt (Nat.lt_of_lt_of_le (((A13.keep K14).ext E15).keep K16).lt sr17)
  have ne_b15_r17 : b15 ≠ r17 := Nat.ne_of_lt (Nat.lt_of_lt_of_le P16_0.lt sr17)
  refine oS (fun t k => st17.trans k) ?_
  show oG _ _ _ _ _ _ _ (T17.setTop (mkF m 162 #[.val (.int p1), .val (.int p2), .val (.int p3), .val (.int p4), .val (.int x4), .val (.int x5), .val (.int x6), .val (.int x7), .val (.int x8), .val (.int x9), .val (.int x10), .val (.int x11), .val (.int x12), .val (.int x13), .val (.int x14), .val (.ref b1), .val (.ref b7), .val (.ref b13), .unset, .unset, .unset, .unset, .unset, .unset, .unset, .unset] [(.int 1)]))
  try clear st17 X16 e16
  refine oS (fun t k => XS.pop X17.here hx rfl (hb hby at_162) rfl rfl k) ?_
  obtain ⟨T18, h18, X18, e18, E18, A18, D18, -, st18⟩ := newO X17 hx hZ hown (oW hw 1 rfl) (oW hw 2 rfl) (oW hw 3 rfl) rfl (g := (mkF m 163 #[.val (.int p1), .val (.int p2), .val (.int p3), .val (.int p4), .val (.int x4), .val (.int x5), .val (.int x6), .val (.int x7), .val (.int x8), .val (.int x9), .val (.int x10), .val (.int x11), .val (.int x12), .val (.int x13), .val (.int x14), .val (.ref b1), .val (.ref b7), .val (.ref b13), .unset, .unset, .unset, .unset, .unset, .unset, .unset, .unset] [])) rfl (hb hby at_163) (by decide) (by decide)
  obtain ⟨b18, g18⟩ : ∃ z, z = T17.heap.size := ⟨_, rfl⟩
  rw [← g18] at A18 D18 st18
  have gx18 : n0 ≤ b18 := Nat.le_trans (O17.1 ▸ O17.2.1) (Nat.le_of_eq g18.symm)
  have ne_b1_b18 : b1 ≠ b18 := Nat.ne_of_lt (Nat.lt_of_lt_of_le ((((((((((((A1.keep K2).keep K4).keep K6).ext E7).keep K8).keep K10).keep K12).ext E13).keep K14).ext E15).keep K16).keep K17).lt (Nat.le_of_eq g18.symm))
  have ne_r4_b18 : r4 ≠ b18 := Nat.ne_of_lt (Nat.lt_of_lt_of_le (((((((((P6_5.ext E7).keep K8).keep K10).keep K12).ext E13).keep K14).ext E15).keep K16).keep K17).lt (Nat.le_of_eq g18.symm))
  have ne_b7_b18 : b7 ≠ b18 := Nat.ne_of_lt (Nat.lt_of_lt_of_le ((((((((A7.keep K8).keep K10).keep K12).ext E13).keep K14).ext E15).keep K16).keep K17).lt (Nat.le_of_eq g18.symm))
  have ne_r10_b18 : r10 ≠ b18 := Nat.ne_of_lt (Nat.lt_of_lt_of_le (((((P12_5.ext E13).keep K14).ext E15).keep K16).keep K17).lt (Nat.le_of_eq g18.symm))
  have ne_b13_b18 : b13 ≠ b18 := Nat.ne_of_lt (Nat.lt_of_lt_of_le ((((A13.keep K14).ext E15).keep K16).keep K17).lt (Nat.le_of_eq g18.symm))
  have ne_b15_b18 : b15 ≠ b18 := Nat.ne_of_lt (Nat.lt_of_lt_of_le (P16_0.keep K17).lt (Nat.le_of_eq g18.symm))
  have ne_r17_b18 : r17 ≠ b18 := Nat.ne_of_lt (Nat.lt_of_lt_of_le P17_3.lt (Nat.le_of_eq g18.symm))
  have O18 := O17.ext E18
  have F_modCount_b18 : Fld Z h18 b18 "java/util/AbstractList" "modCount" "I" (.int 0) := D18 (Or.inl (oW hw 23 rfl)) (ty := .int) (by decide)
  have F_elementData_b18 : Fld Z h18 b18 "java/util/ArrayList" "elementData" "[Ljava/lang/Object;" .null := D18 (Or.inl (oW hw 26 rfl)) (ty := (.array (.object "java/lang/Object"))) (by decide)
  have F_size_b18 : Fld Z h18 b18 "java/util/ArrayList" "size" "I" (.int 0) := D18 (Or.inl (oW hw 42 rfl)) (ty := .int) (by decide)
  refine oS (fun t k => st18 t k) ?_
  try clear st18 X17 e17
  refine oS (fun t k => XS.dup X18.here hx rfl (hb hby at_166) rfl rfl k) ?_
  obtain ⟨_, _, ⟨T19, L19, k19, n19⟩, -, X19, ⟨Lc19, hQ19, l19, y19, z19⟩, st19⟩ := X18.specialBack hx (y := mY5) rfl hown (oM hZ hw 4 rfl) (oM hZ hw 5 rfl) (oM hZ hw 6 rfl) (by decide) (backOf (W := 1) (rm_alinit l Z a0 hw [] b18 w h18 n0 O18 W A18 gx18 F_modCount_b18 F_elementData_b18 F_size_b18) hZ (oW hw 6 rfl) (oW hw 3 rfl) (by decide) (by decide)) (g := (mkF m 167 #[.val (.int p1), .val (.int p2), .val (.int p3), .val (.int p4), .val (.int x4), .val (.int x5), .val (.int x6), .val (.int x7), .val (.int x8), .val (.int x9), .val (.int x10), .val (.int x11), .val (.int x12), .val (.int x13), .val (.int x14), .val (.ref b1), .val (.ref b7), .val (.ref b13), .unset, .unset, .unset, .unset, .unset, .unset, .unset, .unset] [(.ref b18), (.ref b18)])) rfl (by rw [hml]; rfl) (Steps.refl _) (a := b18) (argsL := []) (rest := [(.ref b18)]) (lenOf pd_0 rfl) rfl (by show 2 * 0 + _ ≤ _; exact Nat.le_of_eq rfl) (hb hby at_167) (fun _ _ => ⟨rfl, e18, (by decide : 8 + 0 ≤ _), (by decide : 46 + 0 ≤ _)⟩)
  dsimp only [Pt.U, Pt.locs, Pt.cells, Pt.slots] at X19 l19 y19 z19 st19 hQ19
  rw [l19, y19, z19] at X19
  clear l19 y19 z19
  obtain ⟨rfl, Nq19, K19, P19_0, P19_1, P19_2⟩ := hQ19
  have N19 := Fr.app N17 Nq19
  have O19 := O18.keep K19 (allS gx18 all0)
  refine oS (fun t k => st19.trans k) ?_
  show oG _ _ _ _ _ _ _ (T19.setTop (mkF m 170 #[.val (.int p1), .val (.int p2), .val (.int p3), .val (.int p4), .val (.int x4), .val (.int x5), .val (.int x6), .val (.int x7), .val (.int x8), .val (.int x9), .val (.int x10), .val (.int x11), .val (.int x12), .val (.int x13), .val (.int x14), .val (.ref b1), .val (.ref b7), .val (.ref b13), .unset, .unset, .unset, .unset, .unset, .unset, .unset, .unset] [(.ref b18)]))
  try clear st19 X18 e18
  try clear T18
  refine oS (fun t k => XS.astore X19.here hx rfl (hb hby at_170) rfl rfl (l' := #[.val (.int p1), .val (.int p2), .val (.int p3), .val (.int p4), .val (.int x4), .val (.int x5), .val (.int x6), .val (.int x7), .val (.int x8), .val (.int x9), .val (.int x10), .val (.int x11), .val (.int x12), .val (.int x13), .val (.int x14), .val (.ref b1), .val (.ref b7), .val (.ref b13), .val (.ref b18), .unset, .unset, .unset, .unset, .unset, .unset, .unset]) rfl k) ?_
  refine oS (fun t k => XS.aload X19.here hx rfl (hb hby at_172) rfl rfl k) ?_
  obtain ⟨T20, h20, X20, e20, E20, A20, D20, -, st20⟩ := newO X19 hx hZ hown (oW hw 65 rfl) (oW hw 66 rfl) (oW hw 67 rfl) rfl (g := (mkF m 174 #[.val (.int p1), .val (.int p2), .val (.int p3), .val (.int p4), .val (.int x4), .val (.int x5), .val (.int x6), .val (.int x7), .val (.int x8), .val (.int x9), .val (.int x10), .val (.int x11), .val (.int x12), .val (.int x13), .val (.int x14), .val (.ref b1), .val (.ref b7), .val (.ref b13), .val (.ref b18), .unset, .unset, .unset, .unset, .unset, .unset, .unset] [(.ref b18)])) rfl (hb hby at_174) (by decide) (by decide)
  obtain ⟨b20, g20⟩ : ∃ z, z = T19.heap.size := ⟨_, rfl⟩
  rw [← g20] at A20 D20 st20
  have gx20 : n0 ≤ b20 := Nat.le_trans (O19.1 ▸ O19.2.1) (Nat.le_of_eq g20.symm)
  have ne_b1_b20 : b1 ≠ b20 := Nat.ne_of_lt (Nat.lt_of_lt_of_le ((((((((((((((A1.keep K2).keep K4).keep K6).ext E7).keep K8).keep K10).keep K12).ext E13).keep K14).ext E15).keep K16).keep K17).ext E18).keep K19).lt (Nat.le_of_eq g20.symm))
  have ne_r4_b20 : r4 ≠ b20 := Nat.ne_of_lt (Nat.lt_of_lt_of_le (((((((((((P6_5.ext E7).keep K8).keep K10).keep K12).ext E13).keep K14).ext E15).keep K16).keep K17).ext E18).keep K19).lt (Nat.le_of_eq g20.symm))
  have ne_b7_b20 : b7 ≠ b20 := Nat.ne_of_lt (Nat.lt_of_lt_of_le ((((((((((A7.keep K8).keep K10).keep K12).ext E13).keep K14).ext E15).keep K16).keep K17).ext E18).keep K19).lt (Nat.le_of_eq g20.symm))
  have ne_r10_b20 : r10 ≠ b20 := Nat.ne_of_lt (Nat.lt_of_lt_of_le (((((((P12_5.ext E13).keep K14).ext E15).keep K16).keep K17).ext E18).keep K19).lt (Nat.le_of_eq g20.symm))
  have ne_b13_b20 : b13 ≠ b20 := Nat.ne_of_lt (Nat.lt_of_lt_of_le ((((((A13.keep K14).ext E15).keep K16).keep K17).ext E18).keep K19).lt (Nat.le_of_eq g20.symm))
  have ne_b15_b20 : b15 ≠ b20 := Nat.ne_of_lt (Nat.lt_of_lt_of_le (((P16_0.keep K17).ext E18).keep K19).lt (Nat.le_of_eq g20.symm))
  have ne_r17_b20 : r17 ≠ b20 := Nat.ne_of_lt (Nat.lt_of_lt_of_le ((P17_3.ext E18).keep K19 (fun q => ne_r17_b18 (List.mem_singleton.mp q))).lt (Nat.le_of_eq g20.symm))
  have ne_b18_b20 : b18 ≠ b20 := Nat.ne_of_lt (Nat.lt_of_lt_of_le (A18.keep K19).lt (Nat.le_of_eq g20.symm))
  have O20 := O19.ext E20
  have F_staff_b20 : Fld Z h20 b20 "com/example/shiftweave/shiftweave/rostering/ShiftRequest" "staff" "I" (.int 0) := D20 (Or.inr (oW hw 78 rfl)) (ty := .int) (by decide)
  have F_day_b20 : Fld Z h20 b20 "com/example/shiftweave/shiftweave/rostering/ShiftRequest" "day" "I" (.int 0) := D20 (Or.inr (oW hw 80 rfl)) (ty := .int) (by decide)
  have F_shift_b20 : Fld Z h20 b20 "com/example/shiftweave/shiftweave/rostering/ShiftRequest" "shift" "I" (.int 0) := D20 (Or.inr (oW hw 82 rfl)) (ty := .int) (by decide)
  have F_weight_b20 : Fld Z h20 b20 "com/example/shiftweave/shiftweave/rostering/ShiftRequest" "weight" "I" (.int 0) := D20 (Or.inr (oW hw 84 rfl)) (ty := .int) (by decide)
  refine oS (fun t k => st20 t k) ?_
  try clear st20 X19 e19
  refine oS (fun t k => XS.dup X20.here hx rfl (hb hby at_177) rfl rfl k) ?_
  refine oS (fun t k => XS.iload X20.here hx rfl (hb hby at_178) rfl k) ?_
  refine oS (fun t k => XS.iload X20.here hx rfl (hb hby at_180) rfl k) ?_
  refine oS (fun t k => XS.iload X20.here hx rfl (hb hby at_182) rfl k) ?_
  show oG _ _ _ _ _ _ _ (T20.setTop (mkF m 184 #[.val (.int p1), .val (.int p2), .val (.int p3), .val (.int p4), .val (.int x4), .val (.int x5), .val (.int x6), .val (.int x7), .val (.int x8), .val (.int x9), .val (.int x10), .val (.int x11), .val (.int x12), .val (.int x13), .val (.int x14), .val (.ref b1), .val (.ref b7), .val (.ref b13), .val (.ref b18), .unset, .unset, .unset, .unset, .unset, .unset, .unset] [(.int x9), (.int x8), (.int x7), (.ref b20), (.ref b20), (.ref b18)]))
  refine oS (fun t k => XS.iload X20.here hx rfl (hb hby at_184) rfl k) ?_
  obtain ⟨_, _, ⟨T21, L21, k21, n21⟩, -, X21, ⟨Lc21, hQ21, l21, y21, z21⟩, st21⟩ := X20.specialBack hx (y := mY12) rfl hown (oM hZ hw 68 rfl) (oM hZ hw 69 rfl) (oM hZ hw 70 rfl) (by decide) (backOf (W := 2) (rm_srinit l Z a0 hw [] b20 x7 x8 x9 x11 (.int 0) (.int 0) (.int 0) (.int 0) w h20 n0 O20 W A20 gx20 F_staff_b20 F_day_b20 F_shift_b20 F_weight_b20) hZ (oW hw 70 rfl) (oW hw 67 rfl) (by decide) (by decide)) (g := (mkF m 186 #[.val (.int p1), .val (.int p2), .val (.int p3), .val (.int p4), .val (.int x4), .val (.int x5), .val (.int x6), .val (.int x7), .val (.int x8), .val (.int x9), .val (.int x10), .val (.int x11), .val (.int x12), .val (.int x13), .val (.int x14), .val (.ref b1), .val (.ref b7), .val (.ref b13), .val (.ref b18), .unset, .unset, .unset, .unset, .unset, .unset, .unset] [(.int x11), (.int x9), (.int x8), (.int x7), (.ref b20), (.ref b20), (.ref b18)])) rfl (by rw [hml]; rfl) (Steps.refl _) (a := b20) (argsL := [(.int x7), (.int x8), (.int x9), (.int x11)]) (rest := [(.ref b20), (.ref b18)]) (lenOf pd_23 rfl) rfl (by show 2 * 0 + _ ≤ _; exact Nat.le_of_eq rfl) (hb hby at_186) (fun _ _ => ⟨rfl, e20, (by decide : 9 + 0 ≤ _), (by decide : 50 + 0 ≤ _)⟩)
  dsimp only [Pt.U, Pt.locs, Pt.cells, Pt.slots] at X21 l21 y21 z21 st21 hQ21
  rw [l21, y21, z21] at X21
  clear l21 y21 z21
  obtain ⟨rfl, Nq21, K21, P21_0, P21_1, P21_2, P21_3, P21_4⟩ := hQ21
  have N21 := Fr.app N19 Nq21
  have O21 := O20.keep K21 (allS gx20 all0)
  refine oS (fun t k => st21.trans k) ?_
  show oG _ _ _ _ _ _ _ (T21.setTop (mkF m 189 #[.val (.int p1), .val (.int p2), .val (.int p3), .val (.int p4), .val (.int x4), .val (.int x5), .val (.int x6), .val (.int x7), .val (.int x8), .val (.int x9), .val (.int x10), .val (.int x11), .val (.int x12), .val (.int x13), .val (.int x14), .val (.ref b1), .val (.ref b7), .val (.ref b13), .val (.ref b18), .unset, .unset, .unset, .unset, .unset, .unset, .unset] [(.ref b20), (.ref b18)]))
  try clear st21 X20 e20
  try clear T20
  obtain ⟨cq22, kq22, q22a, q22b, q22c⟩ := isOf hZ rfl (((A18.keep K19).ext E20).keep K21)
  obtain ⟨_, _, ⟨T22, L22, k22, n22⟩, -, X22, ⟨Lc22, hQ22, l22, y22, z22⟩, st22⟩ := X21.virtualBack hx (y := mY10) (z := mY10) hown (oM hZ hw 34 rfl) (oM hZ hw 35 rfl) (notFace_of_selects (args := #[]) (oM hZ hw 37 rfl)) (oM hZ hw 37 rfl) (oM hZ hw 36 rfl) (by decide) (backOf (W := 0) (rm_addS0 l Z a0 hw [] b18 (0 : Int32) b20 w T21.heap n0 O21 W (((A18.keep K19).ext E20).keep K21) gx18 P21_0 ((P19_0.ext E20).keep K21 (fun q => ne_b18_b20 (List.mem_singleton.mp q))) ((P19_1.ext E20).keep K21 (fun q => ne_b18_b20 (List.mem_singleton.mp q))) ((P19_2.ext E20).keep K21 (fun q => ne_b18_b20 (List.mem_singleton.mp q)))) hZ (oW hw 38 rfl) (oW hw 3 rfl) (by decide) (by decide)) q22a q22c (g := (mkF m 189 #[.val (.int p1), .val (.int p2), .val (.int p3), .val (.int p4), .val (.int x4), .val (.int x5), .val (.int x6), .val (.int x7), .val (.int x8), .val (.int x9), .val (.int x10), .val (.int x11), .val (.int x12), .val (.int x13), .val (.int x14), .val (.ref b1), .val (.ref b7), .val (.ref b13), .val (.ref b18), .unset, .unset, .unset, .unset, .unset, .unset, .unset] [(.ref b20), (.ref b18)])) rfl (by rw [hml]; rfl) (Steps.refl _) (argsL := [(.ref b20)]) (rest := []) (lenOf pd_22 rfl) rfl (by show 2 * 0 + _ ≤ _; exact Nat.le_of_eq rfl) (hb hby at_189) (fun _ _ => ⟨rfl, rfl, (by decide : 9 + 1 ≤ _), (by decide : 50 + 10 ≤ _)⟩)
  dsimp only [Pt.U, Pt.locs, Pt.cells, Pt.slots] at X22 l22 y22 z22 st22 hQ22
  rw [l22, y22, z22] at X22
  clear l22 y22 z22
  obtain ⟨r22, x22_k, rfl, Nq22, K22, sr22, P22_0, P22_1, P22_2, P22_3, P22_4, P22_5⟩ := hQ22
  have N22 := Fr.app N21 Nq22
  have O22 := O21.keep K22 (allS gx18 all0)
  have gr22 : n0 ≤ r22 := Nat.le_trans (O21.1 ▸ O21.2.1) sr22
  have ne_b1_r22 : b1 ≠ r22 := Nat.ne_of_lt (Nat.lt_of_lt_of_le ((((((((((((((((A1.keep K2).keep K4).keep K6).ext E7).keep K8).keep K10).keep K12).ext E13).keep K14).ext E15).keep K16).keep K17).ext E18).keep K19).ext E20).keep K21).lt sr22)
  have ne_r4_r22 : r4 ≠ r22 := Nat.ne_of_lt (Nat.lt_of_lt_of_le (((((((((((((P6_5.ext E7).keep K8).keep K10).keep K12).ext E13).keep K14).ext E15).keep K16).keep K17).ext E18).keep K19).ext E20).keep K21).lt sr22)
  have ne_b7_r22 : b7 ≠ r22 := Nat.ne_of_lt (Nat.lt_of_lt_of_le ((((((((((((A7.keep K8).keep K10).keep K12).ext E13).keep K14).ext E15).keep K16).keep K17).ext E18).keep K19).ext E20).keep K21).lt sr22)
  have ne_r10_r22 : r10 ≠ r22 := Nat.ne_of_lt (Nat.lt_of_lt_of_le (((((((((P12_5.ext E13).keep K14).ext E15).keep K16).keep K17).ext E18).keep K19).ext E20).keep K21).lt sr22)
  have ne_b13_r22 : b13 ≠ r22 := Nat.ne_of_lt (Nat.lt_of_lt_of_le ((((((((A13.keep K14).ext E15).keep K16).keep K17).ext E18).keep K19).ext E20).keep K21).lt sr22)
  have ne_b15_r22 : b15 ≠ r22 := Nat.ne_of_lt (Nat.lt_of_lt_of_le (((((P16_0.keep K17).ext E18).keep K19).ext E20).keep K21).lt sr22)
  have ne_r17_r22 : r17 ≠ r22 := Nat.ne_of_lt (Nat.lt_of_lt_of_le ((((P17_3.ext E18).keep K19 (fun q => ne_r17_b18 (List.mem_singleton.mp q))).ext E20).keep K21 (fun q => ne_r17_b20 (List.mem_singleton.mp q))).lt sr22)
  have ne_b18_r22 : b18 ≠ r22 := Nat.ne_of_lt (Nat.lt_of_lt_of_le (((A18.keep K19).ext E20).keep K21).lt sr22)
  have ne_b20_r22 : b20 ≠ r22 := Nat.ne_of_lt (Nat.lt_of_lt_of_le P21_0.lt sr22)
  refine oS (fun t k => st22.trans k) ?_
  show oG _ _ _ _ _ _ _ (T22.setTop (mkF m 192 #[.val (.int p1), .val (.int p2), .val (.int p3), .val (.int p4), .val (.int x4), .val (.int x5), .val (.int x6), .val (.int x7), .val (.int x8), .val (.int x9), .val (.int x10), .val (.int x11), .val (.int x12), .val (.int x13), .val (.int x14), .val (.ref b1), .val (.ref b7), .val (.ref b13), .val (.ref b18), .unset, .unset, .unset, .unset, .unset, .unset, .unset] [(.int 1)]))
  try clear st22 X21 e21
  refine oS (fun t k => XS.pop X22.here hx rfl (hb hby at_192) rfl rfl k) ?_
  obtain ⟨T23, h23, X23, e23, E23, A23, D23, -, st23⟩ := newO X22 hx hZ hown (oW hw 1 rfl) (oW hw 2 rfl) (oW hw 3 rfl) rfl (g := (mkF m 193 #[.val (.int p1), .val (.int p2), .val (.int p3), .val (.int p4), .val (.int x4), .val (.int x5), .val (.int x6), .val (.int x7), .val (.int x8), .val (.int x9), .val (.int x10), .val (.int x11), .val (.int x12), .val (.int x13), .val (.int x14), .val (.ref b1), .val (.ref b7), .val (.ref b13), .val (.ref b18), .unset, .unset, .unset, .unset, .unset, .unset, .unset] [])) rfl (hb hby at_193) (by decide) (by decide)
  obtain ⟨b23, g23⟩ : ∃ z, z = T22.heap.size := ⟨_, rfl⟩
  rw [← g23] at A23 D23 st23
  have gx23 : n0 ≤ b23 := Nat.le_trans (O22.1 ▸ O22.2.1) (Nat.le_of_eq g23.symm)
  have ne_b1_b23 : b1 ≠ b23 := Nat.ne_of_lt (Nat.lt_of_lt_of_le (((((((((((((((((A1.keep K2).keep K4).keep K6).ext E7).keep K8).keep K10).keep K12).ext E13).keep K14).ext E15).keep K16).keep K17).ext E18).keep K19).ext E20).keep K21).keep K22).lt (Nat.le_of_eq g23.symm))
  have ne_r4_b23 : r4 ≠ b23 := Nat.ne_of_lt (Nat.lt_of_lt_of_le ((((((((((((((P6_5.ext E7).keep K8).keep K10).keep K12).ext E13).keep K14).ext E15).keep K16).keep K17).ext E18).keep K19).ext E20).keep K21).keep K22).lt (Nat.le_of_eq g23.symm))
  have ne_b7_b23 : b7 ≠ b23 := Nat.ne_of_lt (Nat.lt_of_lt_of_le (((((((((((((A7.keep K8).keep K10).keep K12).ext E13).keep K14).ext E15).keep K16).keep K17).ext E18).keep K19).ext E20).keep K21).keep K22).lt (Nat.le_of_eq g23.symm))
  have ne_r10_b23 : r10 ≠ b23 := Nat.ne_of_lt (Nat.lt_of_lt_of_le ((((((((((P12_5.ext E13).keep K14).ext E15).keep K16).keep K17).ext E18).keep K19).ext E20).keep K21).keep K22).lt (Nat.le_of_eq g23.symm))
  have ne_b13_b23 : b13 ≠ b23 := Nat.ne_of_lt (Nat.lt_of_lt_of_le (((((((((A13.keep K14).ext E15).keep K16).keep K17).ext E18).keep K19).ext E20).keep K21).keep K22).lt (Nat.le_of_eq g23.symm))
  have ne_b15_b23 : b15 ≠ b23 := Nat.ne_of_lt (Nat.lt_of_lt_of_le ((((((P16_0.keep K17).ext E18).keep K19).ext E20).keep K21).keep K22).lt (Nat.le_of_eq g23.symm))
  have ne_r17_b23 : r17 ≠ b23 := Nat.ne_of_lt (Nat.lt_of_lt_of_le (((((P17_3.ext E18).keep K19 (fun q => ne_r17_b18 (List.mem_singleton.mp q))).ext E20).keep K21 (fun q => ne_r17_b20 (List.mem_singleton.mp q))).keep K22 (fun q => ne_r17_b18 (List.mem_singleton.mp q))).lt (Nat.le_of_eq g23.symm))
  have ne_b18_b23 : b18 ≠ b23 := Nat.ne_of_lt (Nat.lt_of_lt_of_le ((((A18.keep K19).ext E20).keep K21).keep K22).lt (Nat.le_of_eq g23.symm))
  have ne_b20_b23 : b20 ≠ b23 := Nat.ne_of_lt (Nat.lt_of_lt_of_le (P21_0.keep K22).lt (Nat.le_of_eq g23.symm))
  have ne_r22_b23 : r22 ≠ b23 := Nat.ne_of_lt (Nat.lt_of_lt_of_le P22_3.lt (Nat.le_of_eq g23.symm))
  have O23 := O22.ext E23
  have F_modCount_b23 : Fld Z h23 b23 "java/util/AbstractList" "modCount" "I" (.int 0) := D23 (Or.inl (oW hw 23 rfl)) (ty := .int) (by decide)
  have F_elementData_b23 : Fld Z h23 b23 "java/util/ArrayList" "elementData" "[Ljava/lang/Object;" .null := D23 (Or.inl (oW hw 26 rfl)) (ty := (.array (.object "java/lang/Object"))) (by decide)
  have F_size_b23 : Fld Z h23 b23 "java/util/ArrayList" "size" "I" (.int 0) := D23 (Or.inl (oW hw 42 rfl)) (ty := .int) (by decide)
  refine oS (fun t k => st23 t k) ?_
  try clear st23 X22 e22
  refine oS (fun t k => XS.dup X23.here hx rfl (hb hby at_196) rfl rfl k) ?_
  obtain ⟨_, _, ⟨T24, L24, k24, n24⟩, -, X24, ⟨Lc24, hQ24, l24, y24, z24⟩, st24⟩ := X23.specialBack hx (y := mY5) rfl hown (oM hZ hw 4 rfl) (oM hZ hw 5 rfl) (oM hZ hw 6 rfl) (by decide) (backOf (W := 1) (rm_alinit l Z a0 hw [] b23 w h23 n0 O23 W A23 gx23 F_modCount_b23 F_elementData_b23 F_size_b23) hZ (oW hw 6 rfl) (oW hw 3 rfl) (by decide) (by decide)) (g := (mkF m 197 #[.val (.int p1), .val (.int p2), .val (.int p3), .val (.int p4), .val (.int x4), .val (.int x5), .val (.int x6), .val (.int x7), .val (.int x8), .val (.int x9), .val (.int x10), .val (.int x11), .val (.int x12), .val (.int x13), .val (.int x14), .val (.ref b1), .val (.ref b7), .val (.ref b13), .val (.ref b18), .unset, .unset, .unset, .unset, .unset, .unset, .unset] [(.ref b23), (.ref b23)])) rfl (by rw [hml]; rfl) (Steps.refl _) (a := b23) (argsL := []) (rest := [(.ref b23)]) (lenOf pd_0 rfl) rfl (by show 2 * 0 + _ ≤ _; exact Nat.le_of_eq rfl) (hb hby at_197) (fun _ _ => ⟨rfl, e23, (by decide : 11 + 0 ≤ _), (by decide : 63 + 0 ≤ _)⟩)
  dsimp only [Pt.U, Pt.locs, Pt.cells, Pt.slots] at X24 l24 y24 z24 st24 hQ24
  rw [l24, y24, z24] at X24
  clear l24 y24 z24
  obtain ⟨rfl, Nq24, K24, P24_0, P24_1, P24_2⟩ := hQ24
  have N24 := Fr.app N22 Nq24
  have O24 := O23.keep K24 (allS gx23 all0)
  refine oS (fun t k => st24.trans k) ?_
  show oG _ _ _ _ _ _ _ (T24.setTop (mkF m 200 #[.val (.int p1), .val (.int p2), .val (.int p3), .val (.int p4), .val (.int x4), .val (.int x5), .val (.int x6), .val (.int x7), .val (.int x8), .val (.int x9), .val (.int x10), .val (.int x11), .val (.int x12), .val (.int x13), .val (.int x14), .val (.ref b1), .val (.ref b7), .val (.ref b13), .val (.ref b18), .unset, .unset, .unset, .unset, .unset, .unset, .unset] [(.ref b23)]))
  try clear st24 X23 e23
  try clear T23
  refine oS (fun t k => XS.astore X24.here hx rfl (hb hby at_200) rfl rfl (l' := #[.val (.int p1), .val (.int p2), .val (.int p3), .val (.int p4), .val (.int x4), .val (.int x5), .val (.int x6), .val (.int x7), .val (.int x8), .val (.int x9), .val (.int x10), .val (.int x11), .val (.int x12), .val (.int x13), .val (.int x14), .val (.ref b1), .val (.ref b7), .val (.ref b13), .val (.ref b18), .val (.ref b23), .unset, .unset, .unset, .unset, .unset, .unset]) rfl k) ?_
  have fz25 := (((((((((((((((((((A1.keep K2).keep K4).keep K6).ext E7).keep K8).keep K10).keep K12).ext E13).keep K14).ext E15).keep K16).keep K17).ext E18).keep K19).ext E20).keep K21).keep K22).ext E23).keep K24)
  have fz26 := ((((((((((((((((P6_5.ext E7).keep K8).keep K10).keep K12).ext E13).keep K14).ext E15).keep K16).keep K17).ext E18).keep K19).ext E20).keep K21).keep K22).ext E23).keep K24)
  have fz27 := ((((((((((((((((P6_0.ext E7).keep K8 (fun q => ne_b1_b7 (List.mem_singleton.mp q))).keep K10 (fun q => ne_b1_b7 (List.mem_singleton.mp q))).keep K12 (fun q0 => (List.mem_cons.mp q0).elim ne_b1_b7 (fun q2 => ne_b1_r10 (List.mem_singleton.mp q2)))).ext E13).keep K14 (fun q => ne_b1_b13 (List.mem_singleton.mp q))).ext E15).keep K16 (fun q => ne_b1_b15 (List.mem_singleton.mp q))).keep K17 (fun q => ne_b1_b13 (List.mem_singleton.mp q))).ext E18).keep K19 (fun q => ne_b1_b18 (List.mem_singleton.mp q))).ext E20).keep K21 (fun q => ne_b1_b20 (List.mem_singleton.mp q))).keep K22 (fun q => ne_b1_b18 (List.mem_singleton.mp q))).ext E23).keep K24 (fun q => ne_b1_b23 (List.mem_singleton.mp q)))
  have fz28 := ((((((((((((((((P6_1.ext E7).keep K8 (fun q => ne_b1_b7 (List.mem_singleton.mp q))).keep K10 (fun q => ne_b1_b7 (List.mem_singleton.mp q))).keep K12 (fun q0 => (List.mem_cons.mp q0).elim ne_b1_b7 (fun q2 => ne_b1_r10 (List.mem_singleton.mp q2)))).ext E13).keep K14 (fun q => ne_b1_b13 (List.mem_singleton.mp q))).ext E15).keep K16 (fun q => ne_b1_b15 (List.mem_singleton.mp q))).keep K17 (fun q => ne_b1_b13 (List.mem_singleton.mp q))).ext E18).keep K19 (fun q => ne_b1_b18 (List.mem_singleton.mp q))).ext E20).keep K21 (fun q => ne_b1_b20 (List.mem_singleton.mp q))).keep K22 (fun q => ne_b1_b18 (List.mem_singleton.mp q))).ext E23).keep K24 (fun q => ne_b1_b23 (List.mem_singleton.mp q)))
  have fz29 := ((((((((((((((((P6_2.ext E7).keep K8 (fun q => ne_b1_b7 (List.mem_singleton.mp q))).keep K10 (fun q => ne_b1_b7 (List.mem_singleton.mp q))).keep K12 (fun q0 => (List.mem_cons.mp q0).elim ne_b1_b7 (fun q2 => ne_b1_r10 (List.mem_singleton.mp q2)))).ext E13).keep K14 (fun q => ne_b1_b13 (List.mem_singleton.mp q))).ext E15).keep K16 (fun q => ne_b1_b15 (List.mem_singleton.mp q))).keep K17 (fun q => ne_b1_b13 (List.mem_singleton.mp q))).ext E18).keep K19 (fun q => ne_b1_b18 (List.mem_singleton.mp q))).ext E20).keep K21 (fun q => ne_b1_b20 (List.mem_singleton.mp q))).keep K22 (fun q => ne_b1_b18 (List.mem_singleton.mp q))).ext E23).keep K24 (fun q => ne_b1_b23 (List.mem_singleton.mp q)))
  have fz30 := ((((((((((((((((P6_3.ext E7).keep K8 (fun q => ne_r4_b7 (List.mem_singleton.mp q))).keep K10 (fun q => ne_r4_b7 (List.mem_singleton.mp q))).keep K12 (fun q0 => (List.mem_cons.mp q0).elim ne_r4_b7 (fun q2 => ne_r4_r10 (List.mem_singleton.mp q2)))).ext E13).keep K14 (fun q => ne_r4_b13 (List.mem_singleton.mp q))).ext E15).keep K16 (fun q => ne_r4_b15 (List.mem_singleton.mp q))).keep K17 (fun q => ne_r4_b13 (List.mem_singleton.mp q))).ext E18).keep K19 (fun q => ne_r4_b18 (List.mem_singleton.mp q))).ext E20).keep K21 (fun q => ne_r4_b20 (List.mem_singleton.mp q))).keep K22 (fun q => ne_r4_b18 (List.mem_singleton.mp q))).ext E23).keep K24 (fun q => ne_r4_b23 (List.mem_singleton.mp q)))
  have fz31 := (((((((((((((((A7.keep K8).keep K10).keep K12).ext E13).keep K14).ext E15).keep K16).keep K17).ext E18).keep K19).ext E20).keep K21).keep K22).ext E23).keep K24)
  have fz32 := ((((((((((((P12_5.ext E13).keep K14).ext E15).keep K16).keep K17).ext E18).keep K19).ext E20).keep K21).keep K22).ext E23).keep K24)
  have fz33 := ((((((((((((P12_0.ext E13).keep K14 (fun q => ne_b7_b13 (List.mem_singleton.mp q))).ext E15).keep K16 (fun q => ne_b7_b15 (List.mem_singleton.mp q))).keep K17 (fun q => ne_b7_b13 (List.mem_singleton.mp q))).ext E18).keep K19 (fun q => ne_b7_b18 (List.mem_singleton.mp q))).ext E20).keep K21 (fun q => ne_b7_b20 (List.mem_singleton.mp q))).keep K22 (fun q => ne_b7_b18 (List.mem_singleton.mp q))).ext E23).keep K24 (fun q => ne_b7_b23 (List.mem_singleton.mp q)))
  have fz34 := ((((((((((((P12_1.ext E13).keep K14 (fun q => ne_b7_b13 (List.mem_singleton.mp q))).ext E15).keep K16 (fun q => ne_b7_b15 (List.mem_singleton.mp q))).keep K17 (fun q => ne_b7_b13 (List.mem_singleton.mp q))).ext E18).keep K19 (fun q => ne_b7_b18 (List.mem_singleton.mp q))).ext E20).keep K21 (fun q => ne_b7_b20 (List.mem_singleton.mp q))).keep K22 (fun q => ne_b7_b18 (List.mem_singleton.mp q))).ext E23).keep K24 (fun q => ne_b7_b23 (List.mem_singleton.mp q)))
  have fz35 := ((((((((((((P12_2.ext E13).keep K14 (fun q => ne_b7_b13 (List.mem_singleton.mp q))).ext E15).keep K16 (fun q => ne_b7_b15 (List.mem_singleton.mp q))).keep K17 (fun q => ne_b7_b13 (List.mem_singleton.mp q))).ext E18).keep K19 (fun q => ne_b7_b18 (List.mem_singleton.mp q))).ext E20).keep K21 (fun q => ne_b7_b20 (List.mem_singleton.mp q))).keep K22 (fun q => ne_b7_b18 (List.mem_singleton.mp q))).ext E23).keep K24 (fun q => ne_b7_b23 (List.mem_singleton.mp q)))
  have fz36 := ((((((((((((P12_3.ext E13).keep K14 (fun q => ne_r10_b13 (List.mem_singleton.mp q))).ext E15).keep K16 (fun q => ne_r10_b15 (List.mem_singleton.mp q))).keep K17 (fun q => ne_r10_b13 (List.mem_singleton.mp q))).ext E18).keep K19 (fun q => ne_r10_b18 (List.mem_singleton.mp q))).ext E20).keep K21 (fun q => ne_r10_b20 (List.mem_singleton.mp q))).keep K22 (fun q => ne_r10_b18 (List.mem_singleton.mp q))).ext E23).keep K24 (fun q => ne_r10_b23 (List.mem_singleton.mp q)))
  have fz37 := (((((((((((A13.keep K14).ext E15).keep K16).keep K17).ext E18).keep K19).ext E20).keep K21).keep K22).ext E23).keep K24)
  have fz38 := ((((((((P16_0.keep K17).ext E18).keep K19).ext E20).keep K21).keep K22).ext E23).keep K24)
  have fz39 := ((((((((P16_1.keep K17 (fun q => (Ne.symm ne_b13_b15) (List.mem_singleton.mp q))).ext E18).keep K19 (fun q => ne_b15_b18 (List.mem_singleton.mp q))).ext E20).keep K21 (fun q => ne_b15_b20 (List.mem_singleton.mp q))).keep K22 (fun q => ne_b15_b18 (List.mem_singleton.mp q))).ext E23).keep K24 (fun q => ne_b15_b23 (List.mem_singleton.mp q)))
  have fz40 := ((((((((P16_2.keep K17 (fun q => (Ne.symm ne_b13_b15) (List.mem_singleton.mp q))).ext E18).keep K19 (fun q => ne_b15_b18 (List.mem_singleton.mp q))).ext E20).keep K21 (fun q => ne_b15_b20 (List.mem_singleton.mp q))).keep K22 (fun q => ne_b15_b18 (List.mem_singleton.mp q))).ext E23).keep K24 (fun q => ne_b15_b23 (List.mem_singleton.mp q)))
  have fz41 := ((((((((P16_3.keep K17 (fun q => (Ne.symm ne_b13_b15) (List.mem_singleton.mp q))).ext E18).keep K19 (fun q => ne_b15_b18 (List.mem_singleton.mp q))).ext E20).keep K21 (fun q => ne_b15_b20 (List.mem_singleton.mp q))).keep K22 (fun q => ne_b15_b18 (List.mem_singleton.mp q))).ext E23).keep K24 (fun q => ne_b15_b23 (List.mem_singleton.mp q)))
  have fz42 := ((((((((P16_4.keep K17 (fun q => (Ne.symm ne_b13_b15) (List.mem_singleton.mp q))).ext E18).keep K19 (fun q => ne_b15_b18 (List.mem_singleton.mp q))).ext E20).keep K21 (fun q => ne_b15_b20 (List.mem_singleton.mp q))).keep K22 (fun q => ne_b15_b18 (List.mem_singleton.mp q))).ext E23).keep K24 (fun q => ne_b15_b23 (List.mem_singleton.mp q)))
  have fz43 := (((((((P17_0.ext E18).keep K19 (fun q => ne_b13_b18 (List.mem_singleton.mp q))).ext E20).keep K21 (fun q => ne_b13_b20 (List.mem_singleton.mp q))).keep K22 (fun q => ne_b13_b18 (List.mem_singleton.mp q))).ext E23).keep K24 (fun q => ne_b13_b23 (List.mem_singleton.mp q)))
  have fz44 := (((((((P17_1.ext E18).keep K19 (fun q => ne_b13_b18 (List.mem_singleton.mp q))).ext E20).keep K21 (fun q => ne_b13_b20 (List.mem_singleton.mp q))).keep K22 (fun q => ne_b13_b18 (List.mem_singleton.mp q))).ext E23).keep K24 (fun q => ne_b13_b23 (List.mem_singleton.mp q)))
  have fz45 := (((((((P17_2.ext E18).keep K19 (fun q => ne_b13_b18 (List.mem_singleton.mp q))).ext E20).keep K21 (fun q => ne_b13_b20 (List.mem_singleton.mp q))).keep K22 (fun q => ne_b13_b18 (List.mem_singleton.mp q))).ext E23).keep K24 (fun q => ne_b13_b23 (List.mem_singleton.mp q)))
  have fz46 := (((((((P17_3.ext E18).keep K19 (fun q => ne_r17_b18 (List.mem_singleton.mp q))).ext E20).keep K21 (fun q => ne_r17_b20 (List.mem_singleton.mp q))).keep K22 (fun q => ne_r17_b18 (List.mem_singleton.mp q))).ext E23).keep K24 (fun q => ne_r17_b23 (List.mem_singleton.mp q)))
  have fz47 := (((((((P17_5.ext E18).keep K19).ext E20).keep K21).keep K22).ext E23).keep K24)
  have fz48 := ((((((A18.keep K19).ext E20).keep K21).keep K22).ext E23).keep K24)
  have fz49 := (((P21_0.keep K22).ext E23).keep K24)
  have fz50 := (((P21_1.keep K22 (fun q => (Ne.symm ne_b18_b20) (List.mem_singleton.mp q))).ext E23).keep K24 (fun q => ne_b20_b23 (List.mem_singleton.mp q)))
  have fz51 := (((P21_2.keep K22 (fun q => (Ne.symm ne_b18_b20) (List.mem_singleton.mp q))).ext E23).keep K24 (fun q => ne_b20_b23 (List.mem_singleton.mp q)))
  have fz52 := (((P21_3.keep K22 (fun q => (Ne.symm ne_b18_b20) (List.mem_singleton.mp q))).ext E23).keep K24 (fun q => ne_b20_b23 (List.mem_singleton.mp q)))
  have fz53 := (((P21_4.keep K22 (fun q => (Ne.symm ne_b18_b20) (List.mem_singleton.mp q))).ext E23).keep K24 (fun q => ne_b20_b23 (List.mem_singleton.mp q)))
  have fz54 := ((P22_0.ext E23).keep K24 (fun q => ne_b18_b23 (List.mem_singleton.mp q)))
  have fz55 := ((P22_1.ext E23).keep K24 (fun q => ne_b18_b23 (List.mem_singleton.mp q)))
  have fz56 := ((P22_2.ext E23).keep K24 (fun q => ne_b18_b23 (List.mem_singleton.mp q)))
  have fz57 := ((P22_3.ext E23).keep K24 (fun q => ne_r22_b23 (List.mem_singleton.mp q)))
  have fz58 := ((P22_5.ext E23).keep K24)
  have fz59 := (A23.keep K24)
  obtain ⟨T60, h60, X60, e60, E60, A60, D60, -, st60⟩ := newO X24 hx hZ hown (oW hw 86 rfl) (oW hw 87 rfl) (oW hw 88 rfl) rfl (g := (mkF m 202 #[.val (.int p1), .val (.int p2), .val (.int p3), .val (.int p4), .val (.int x4), .val (.int x5), .val (.int x6), .val (.int x7), .val (.int x8), .val (.int x9), .val (.int x10), .val (.int x11), .val (.int x12), .val (.int x13), .val (.int x14), .val (.ref b1), .val (.ref b7), .val (.ref b13), .val (.ref b18), .val (.ref b23), .unset, .unset, .unset, .unset, .unset, .unset] [])) rfl (hb hby at_202) (by decide) (by decide)
  obtain ⟨b60, g60⟩ : ∃ z, z = T24.heap.size := ⟨_, rfl⟩
  rw [← g60] at A60 D60 st60
  have gx60 : n0 ≤ b60 := Nat.le_trans (O24.1 ▸ O24.2.1) (Nat.le_of_eq g60.symm)
  have ne_b1_b60 : b1 ≠ b60 := Nat.ne_of_lt (Nat.lt_of_lt_of_le fz25.lt (Nat.le_of_eq g60.symm))
  have ne_r4_b60 : r4 ≠ b60 := Nat.ne_of_lt (Nat.lt_of_lt_of_le fz26.lt (Nat.le_of_eq g60.symm))
  have ne_b7_b60 : b7 ≠ b60 := Nat.ne_of_lt (Nat.lt_of_lt_of_le fz31.lt (Nat.le_of_eq g60.symm))
  have ne_r10_b60 : r10 ≠ b60 := Nat.ne_of_lt (Nat.lt_of_lt_of_le fz32.lt (Nat.le_of_eq g60.symm))
  have ne_b13_b60 : b13 ≠ b60 := Nat.ne_of_lt (Nat.lt_of_lt_of_le fz37.lt (Nat.le_of_eq g60.symm))
  have ne_b15_b60 : b15 ≠ b60 := Nat.ne_of_lt (Nat.lt_of_lt_of_le fz38.lt (Nat.le_of_eq g60.symm))
  have ne_r17_b60 : r17 ≠ b60 := Nat.ne_of_lt (Nat.lt_of_lt_of_le fz46.lt (Nat.le_of_eq g60.symm))
  have ne_b18_b60 : b18 ≠ b60 := Nat.ne_of_lt (Nat.lt_of_lt_of_le fz48.lt (Nat.le_of_eq g60.symm))
  have ne_b20_b60 : b20 ≠ b60 := Nat.ne_of_lt (Nat.lt_of_lt_of_le fz49.lt (Nat.le_of_eq g60.symm))
  have ne_r22_b60 : r22 ≠ b60 := Nat.ne_of_lt (Nat.lt_of_lt_of_le fz57.lt (Nat.le_of_eq g60.symm))
  have ne_b23_b60 : b23 ≠ b60 := Nat.ne_of_lt (Nat.lt_of_lt_of_le fz59.lt (Nat.le_of_eq g60.symm))
  have O60 := O24.ext E60
  have F_days_b60 : Fld Z h60 b60 "com/example/shiftweave/shiftweave/rostering/Ward" "days" "I" (.int 0) := D60 (Or.inr (oW hw 187 rfl)) (ty := .int) (by decide)
  have F_shifts_b60 : Fld Z h60 b60 "com/example/shiftweave/shiftweave/rostering/Ward" "shifts" "Ljava/util/List;" .null := D60 (Or.inr (oW hw 189 rfl)) (ty := (.object "java/util/List")) (by decide)
  have F_staff_b60 : Fld Z h60 b60 "com/example/shiftweave/shiftweave/rostering/Ward" "staff" "Ljava/util/List;" .null := D60 (Or.inr (oW hw 191 rfl)) (ty := (.object "java/util/List")) (by decide)
  have F_onRequests_b60 : Fld Z h60 b60 "com/example/shiftweave/shiftweave/rostering/Ward" "onRequests" "Ljava/util/List;" .null := D60 (Or.inr (oW hw 193 rfl)) (ty := (.object "java/util/List")) (by decide)
  have F_offRequests_b60 : Fld Z h60 b60 "com/example/shiftweave/shiftweave/rostering/Ward" "offRequests" "Ljava/util/List;" .null := D60 (Or.inr (oW hw 195 rfl)) (ty := (.object "java/util/List")) (by decide)
  have F_cover_b60 : Fld Z h60 b60 "com/example/shiftweave/shiftweave/rostering/Ward" "cover" "Ljava/util/List;" .null := D60 (Or.inr (oW hw 197 rfl)) (ty := (.object "java/util/List")) (by decide)
  refine oS (fun t k => st60 t k) ?_
  try clear st60 X24 e24
  refine oS (fun t k => XS.dup X60.here hx rfl (hb hby at_205) rfl rfl k) ?_
  refine oS (fun t k => oIc li_2 X60.here hx rfl (hb hby at_206) k) ?_
  refine oS (fun t k => XS.aload X60.here hx rfl (hb hby at_207) rfl rfl k) ?_
  refine oS (fun t k => XS.aload X60.here hx rfl (hb hby at_209) rfl rfl k) ?_
  refine oS (fun t k => XS.aload X60.here hx rfl (hb hby at_211) rfl rfl k) ?_
  show oG _ _ _ _ _ _ _ (T60.setTop (mkF m 213 #[.val (.int p1), .val (.int p2), .val (.int p3), .val (.int p4), .val (.int x4), .val (.int x5), .val (.int x6), .val (.int x7), .val (.int x8), .val (.int x9), .val (.int x10), .val (.int x11), .val (.int x12), .val (.int x13), .val (.int x14), .val (.ref b1), .val (.ref b7), .val (.ref b13), .val (.ref b18), .val (.ref b23), .unset, .unset, .unset, .unset, .unset, .unset] [(.ref b13), (.ref b7), (.ref b1), (.int 2), (.ref b60), (.ref b60)]))
  refine oS (fun t k => XS.aload X60.here hx rfl (hb hby at_213) rfl rfl k) ?_
  refine oS (fun t k => XS.aload X60.here hx rfl (hb hby at_215) rfl rfl k) ?_
  obtain ⟨_, _, ⟨T61, L61, k61, n61⟩, -, X61, ⟨Lc61, hQ61, l61, y61, z61⟩, st61⟩ := X60.specialBack hx (y := mY27) rfl hown (oM hZ hw 89 rfl) (oM hZ hw 90 rfl) (oM hZ hw 91 rfl) (by decide) (backOf (W := 1) (rm_ward l Z a0 hw [] b60 b1 r4 x4_k r3 r5 b7 r10 x10_k r9 r11 b13 r17 x17_k b15 b18 r22 x22_k b20 b23 w h60 n0 O60 W A60 gx60 F_days_b60 F_shifts_b60 F_staff_b60 F_onRequests_b60 F_offRequests_b60 F_cover_b60 (fz25.ext E60) (fz29.ext E60) (fz28.ext E60) (fz30.ext E60) (fz26.ext E60) (Pr3.ext O60.2) (Pr5.ext O60.2) (fz31.ext E60) (fz35.ext E60) (fz34.ext E60) (fz36.ext E60) (fz32.ext E60) (Pr9.ext O60.2) (Pr11.ext O60.2) (fz37.ext E60) (fz45.ext E60) (fz44.ext E60) (fz46.ext E60) (fz47.ext E60) (fz38.ext E60) (fz48.ext E60) (fz56.ext E60) (fz55.ext E60) (fz57.ext E60) (fz58.ext E60) (fz49.ext E60) (fz59.ext E60) (P24_2.ext E60)) hZ (oW hw 91 rfl) (oW hw 88 rfl) (by decide) (by decide)) (g := (mkF m 217 #[.val (.int p1), .val (.int p2), .val (.int p3), .val (.int p4), .val (.int x4), .val (.int x5), .val (.int x6), .val (.int x7), .val (.int x8), .val (.int x9), .val (.int x10), .val (.int x11), .val (.int x12), .val (.int x13), .val (.int x14), .val (.ref b1), .val (.ref b7), .val (.ref b13), .val (.ref b18), .val (.ref b23), .unset, .unset, .unset, .unset, .unset, .unset] [(.ref b23), (.ref b18), (.ref b13), (.ref b7), (.ref b1), (.int 2), (.ref b60), (.ref b60)])) rfl (by rw [hml]; rfl) (Steps.refl _) (a := b60) (argsL := [(.int 2), (.ref b1), (.ref b7), (.ref b13), (.ref b18), (.ref b23)]) (rest := [(.ref b60)]) (lenOf pd_24 rfl) rfl (by show 2 * 0 + _ ≤ _; exact Nat.le_of_eq rfl) (hb hby at_217) (fun _ _ => ⟨rfl, e60, (by decide : 12 + 8 ≤ _), (by decide : 69 + 14 ≤ _)⟩)
  dsimp only [Pt.U, Pt.locs, Pt.cells, Pt.slots] at X61 l61 y61 z61 st61 hQ61
  rw [l61, y61, z61] at X61
  clear l61 y61 z61
  obtain ⟨z261, z361, z461, z561, rfl, Nq61, K61, sz261, sz361, sz461, sz561, P61_0, P61_1, P61_2, P61_3, P61_4, P61_5, P61_6, P61_7, P61_8, P61_9, P61_10, P61_11, P61_12, P61_13, P61_14, P61_15, P61_16, P61_17⟩ := hQ61
  have N61 := Fr.app N24 Nq61
  have O61 := O60.keep K61 (allS gx60 all0)
  have gz261 : n0 ≤ z261 := Nat.le_trans (O60.1 ▸ O60.2.1) sz261
  have ne_b1_z261 : b1 ≠ z261 := Nat.ne_of_lt (Nat.lt_of_lt_of_le (fz25.ext E60).lt sz261)
  have ne_r4_z261 : r4 ≠ z261 := Nat.ne_of_lt (Nat.lt_of_lt_of_le (fz26.ext E60).lt sz261)
  have ne_b7_z261 : b7 ≠ z261 := Nat.ne_of_lt (Nat.lt_of_lt_of_le (fz31.ext E60).lt sz261)
  have ne_r10_z261 : r10 ≠ z261 := Nat.ne_of_lt (Nat.lt_of_lt_of_le (fz32.ext E60).lt sz261)
  have ne_b13_z261 : b13 ≠ z261 := Nat.ne_of_lt (Nat.lt_of_lt_of_le (fz37.ext E60).lt sz261)
  have ne_b15_z261 : b15 ≠ z261 := Nat.ne_of_lt (Nat.lt_of_lt_of_le (fz38.ext E60).lt sz261)
  have ne_r17_z261 : r17 ≠ z261 := Nat.ne_of_lt (Nat.lt_of_lt_of_le (fz46.ext E60).lt sz261)
  have ne_b18_z261 : b18 ≠ z261 := Nat.ne_of_lt (Nat.lt_of_lt_of_le (fz48.ext E60).lt sz261)
  have ne_b20_z261 : b20 ≠ z261 := Nat.ne_of_lt (Nat.lt_of_lt_of_le (fz49.ext E60).lt sz261)
  have ne_r22_z261 : r22 ≠ z261 := Nat.ne_of_lt (Nat.lt_of_lt_of_le (fz57.ext E60).lt sz261)
  have ne_b23_z261 : b23 ≠ z261 := Nat.ne_of_lt (Nat.lt_of_lt_of_le (fz59.ext E60).lt sz261)
  have ne_b60_z261 : b60 ≠ z261 := Nat.ne_of_lt (Nat.lt_of_lt_of_le A60.lt sz261)
  have gz361 : n0 ≤ z361 := Nat.le_trans (O60.1 ▸ O60.2.1) sz361
  have ne_b1_z361 : b1 ≠ z361 := Nat.ne_of_lt (Nat.lt_of_lt_of_le (fz25.ext E60).lt sz361)
  have ne_r4_z361 : r4 ≠ z361 := Nat.ne_of_lt (Nat.lt_of_lt_of_le (fz26.ext E60).lt sz361)
  have ne_b7_z361 : b7 ≠ z361 := Nat.ne_of_lt (Nat.lt_of_lt_of_le (fz31.ext E60).lt sz361)
  have ne_r10_z361 : r10 ≠ z361 := Nat.ne_of_lt (Nat.lt_of_lt_of_le (fz32.ext E60).lt sz361)
  have ne_b13_z361 : b13 ≠ z361 := Nat.ne_of_lt (Nat.lt_of_lt_of_le (fz37.ext E60).lt sz361)
  have ne_b15_z361 : b15 ≠ z361 := Nat.ne_of_lt (Nat.lt_of_lt_of_le (fz38.ext E60).lt sz361)
  have ne_r17_z361 : r17 ≠ z361 := Nat.ne_of_lt (Nat.lt_of_lt_of_le (fz46.ext E60).lt sz361)
  have ne_b18_z361 : b18 ≠ z361 := Nat.ne_of_lt (Nat.lt_of_lt_of_le (fz48.ext E60).lt sz361)
  have ne_b20_z361 : b20 ≠ z361 := Nat.ne_of_lt (Nat.lt_of_lt_of_le (fz49.ext E60).lt sz361)
  have ne_r22_z361 : r22 ≠ z361 := Nat.ne_of_lt (Nat.lt_of_lt_of_le (fz57.ext E60).lt sz361)
  have ne_b23_z361 : b23 ≠ z361 := Nat.ne_of_lt (Nat.lt_of_lt_of_le (fz59.ext E60).lt sz361)
  have ne_b60_z361 : b60 ≠ z361 := Nat.ne_of_lt (Nat.lt_of_lt_of_le A60.lt sz361)
  have gz461 : n0 ≤ z461 := Nat.le_trans (O60.1 ▸ O60.2.1) sz461
  have ne_b1_z461 : b1 ≠ z461 := Nat.ne_of_lt (Nat.lt_of_lt_of_le (fz25.ext E60).lt sz461)
  have ne_r4_z461 : r4 ≠ z461 := Nat.ne_of_lt (Nat.lt_of_lt_of_le (fz26.ext E60).lt sz461)
  have ne_b7_z461 : b7 ≠ z461 := Nat.ne_of_lt (Nat.lt_of_lt_of_le (fz31.ext E60).lt sz461)
  have ne_r10_z461 : r10 ≠ z461 := Nat.ne_of_lt (Nat.lt_of_lt_of_le (fz32.ext E60).lt sz461)
  have ne_b13_z461 : b13 ≠ z461 := Nat.ne_of_lt (Nat.lt_of_lt_of_le (fz37.ext E60).lt sz461)
  have ne_b15_z461 : b15 ≠ z461 := Nat.ne_of_lt (Nat.lt_of_lt_of_le (fz38.ext E60).lt sz461)
  have ne_r17_z461 : r17 ≠ z461 := Nat.ne_of_lt (Nat.lt_of_lt_of_le (fz46.ext E60).lt sz461)
  have ne_b18_z461 : b18 ≠ z461 := Nat.ne_of_lt (Nat.lt_of_lt_of_le (fz48.ext E60).lt sz461)
  have ne_b20_z461 : b20 ≠ z461 := Nat.ne_of_lt (Nat.lt_of_lt_of_le (fz49.ext E60).lt sz461)
  have ne_r22_z461 : r22 ≠ z461 := Nat.ne_of_lt (Nat.lt_of_lt_of_le (fz57.ext E60).lt sz461)
  have ne_b23_z461 : b23 ≠ z461 := Nat.ne_of_lt (Nat.lt_of_lt_of_le (fz59.ext E60).lt sz461)
  have ne_b60_z461 : b60 ≠ z461 := Nat.ne_of_lt (Nat.lt_of_lt_of_le A60.lt sz461)
  have gz561 : n0 ≤ z561 := Nat.le_trans (O60.1 ▸ O60.2.1) sz561
  have ne_b1_z561 : b1 ≠ z561 := Nat.ne_of_lt (Nat.lt_of_lt_of_le (fz25.ext E60).lt sz561)
  have ne_r4_z561 : r4 ≠ z561 := Nat.ne_of_lt (Nat.lt_of_lt_of_le (fz26.ext E60).lt sz561)
  have ne_b7_z561 : b7 ≠ z561 := Nat.ne_of_lt (Nat.lt_of_lt_of_le (fz31.ext E60).lt sz561)
  have ne_r10_z561 : r10 ≠ z561 := Nat.ne_of_lt (Nat.lt_of_lt_of_le (fz32.ext E60).lt sz561)
  have ne_b13_z561 : b13 ≠ z561 := Nat.ne_of_lt (Nat.lt_of_lt_of_le (fz37.ext E60).lt sz561)
  have ne_b15_z561 : b15 ≠ z561 := Nat.ne_of_lt (Nat.lt_of_lt_of_le (fz38.ext E60).lt sz561)
  have ne_r17_z561 : r17 ≠ z561 := Nat.ne_of_lt (Nat.lt_of_lt_of_le (fz46.ext E60).lt sz561)
  have ne_b18_z561 : b18 ≠ z561 := Nat.ne_of_lt (Nat.lt_of_lt_of_le (fz48.ext E60).lt sz561)
  have ne_b20_z561 : b20 ≠ z561 := Nat.ne_of_lt (Nat.lt_of_lt_of_le (fz49.ext E60).lt sz561)
  have ne_r22_z561 : r22 ≠ z561 := Nat.ne_of_lt (Nat.lt_of_lt_of_le (fz57.ext E60).lt sz561)
  have ne_b23_z561 : b23 ≠ z561 := Nat.ne_of_lt (Nat.lt_of_lt_of_le (fz59.ext E60).lt sz561)
  have ne_b60_z561 : b60 ≠ z561 := Nat.ne_of_lt (Nat.lt_of_lt_of_le A60.lt sz561)
  refine oS (fun t k => st61.trans k) ?_
  show oG _ _ _ _ _ _ _ (T61.setTop (mkF m 220 #[.val (.int p1), .val (.int p2), .val (.int p3), .val (.int p4), .val (.int x4), .val (.int x5), .val (.int x6), .val (.int x7), .val (.int x8), .val (.int x9), .val (.int x10), .val (.int x11), .val (.int x12), .val (.int x13), .val (.int x14), .val (.ref b1), .val (.ref b7), .val (.ref b13), .val (.ref b18), .val (.ref b23), .unset, .unset, .unset, .unset, .unset, .unset] [(.ref b60)]))
  try clear st61 X60 e60
  try clear T60
  refine oS (fun t k => XS.astore X61.here hx rfl (hb hby at_220) rfl rfl (l' := #[.val (.int p1), .val (.int p2), .val (.int p3), .val (.int p4), .val (.int x4), .val (.int x5), .val (.int x6), .val (.int x7), .val (.int x8), .val (.int x9), .val (.int x10), .val (.int x11), .val (.int x12), .val (.int x13), .val (.int x14), .val (.ref b1), .val (.ref b7), .val (.ref b13), .val (.ref b18), .val (.ref b23), .val (.ref b60), .unset, .unset, .unset, .unset, .unset]) rfl k) ?_
  have fz62 := ((fz25.ext E60).keep K61)
  have fz63 := ((fz26.ext E60).keep K61)
  have fz64 := ((fz27.ext E60).keep K61 (fun q => ne_b1_b60 (List.mem_singleton.mp q)))
  have fz65 := ((fz28.ext E60).keep K61 (fun q => ne_b1_b60 (List.mem_singleton.mp q)))
  have fz66 := ((fz29.ext E60).keep K61 (fun q => ne_b1_b60 (List.mem_singleton.mp q)))
  have fz67 := ((fz30.ext E60).keep K61 (fun q => ne_r4_b60 (List.mem_singleton.mp q)))
  have fz68 := ((fz31.ext E60).keep K61)
  have fz69 := ((fz32.ext E60).keep K61)
  have fz70 := ((fz33.ext E60).keep K61 (fun q => ne_b7_b60 (List.mem_singleton.mp q)))
  have fz71 := ((fz34.ext E60).keep K61 (fun q => ne_b7_b60 (List.mem_singleton.mp q)))
  have fz72 := ((fz35.ext E60).keep K61 (fun q => ne_b7_b60 (List.mem_singleton.mp q)))
  have fz73 := ((fz36.ext E60).keep K61 (fun q => ne_r10_b60 (List.mem_singleton.mp q)))
  have fz74 := ((fz37.ext E60).keep K61)
  have fz75 := ((fz38.ext E60).keep K61)
  have fz76 := ((fz39.ext E60).keep K61 (fun q => ne_b15_b60 (List.mem_singleton.mp q)))
  have fz77 := ((fz40.ext E60).keep K61 (fun q => ne_b15_b60 (List.mem_singleton.mp q)))
  have fz78 := ((fz41.ext E60).keep K61 (fun q => ne_b15_b60 (List.mem_singleton.mp q)))
  have fz79 := ((fz42.ext E60).keep K61 (fun q => ne_b15_b60 (List.mem_singleton.mp q)))
  have fz80 := ((fz43.ext E60).keep K61 (fun q => ne_b13_b60 (List.mem_singleton.mp q)))
  have fz81 := ((fz44.ext E60).keep K61 (fun q => ne_b13_b60 (List.mem_singleton.mp q)))
  have fz82 := ((fz45.ext E60).keep K61 (fun q => ne_b13_b60 (List.mem_singleton.mp q)))
  have fz83 := ((fz46.ext E60).keep K61 (fun q => ne_r17_b60 (List.mem_singleton.mp q)))
  have fz84 := ((fz47.ext E60).keep K61)
  have fz85 := ((fz48.ext E60).keep K61)
  have fz86 := ((fz49.ext E60).keep K61)
  have fz87 := ((fz50.ext E60).keep K61 (fun q => ne_b20_b60 (List.mem_singleton.mp q)))
  have fz88 := ((fz51.ext E60).keep K61 (fun q => ne_b20_b60 (List.mem_singleton.mp q)))
  have fz89 := ((fz52.ext E60).keep K61 (fun q => ne_b20_b60 (List.mem_singleton.mp q)))
  have fz90 := ((fz53.ext E60).keep K61 (fun q => ne_b20_b60 (List.mem_singleton.mp q)))
  have fz91 := ((fz54.ext E60).keep K61 (fun q => ne_b18_b60 (List.mem_singleton.mp q)))
  have fz92 := ((fz55.ext E60).keep K61 (fun q => ne_b18_b60 (List.mem_singleton.mp q)))
  have fz93 := ((fz56.ext E60).keep K61 (fun q => ne_b18_b60 (List.mem_singleton.mp q)))
  have fz94 := ((fz57.ext E60).keep K61 (fun q => ne_r22_b60 (List.mem_singleton.mp q)))
  have fz95 := ((fz58.ext E60).keep K61)
  have fz96 := ((fz59.ext E60).keep K61)
  have fz97 := ((P24_0.ext E60).keep K61 (fun q => ne_b23_b60 (List.mem_singleton.mp q)))
  have fz98 := ((P24_1.ext E60).keep K61 (fun q => ne_b23_b60 (List.mem_singleton.mp q)))
  have fz99 := ((P24_2.ext E60).keep K61 (fun q => ne_b23_b60 (List.mem_singleton.mp q)))
  have fz100 := (A60.keep K61)
  obtain ⟨T101, h101, X101, e101, E101, A101, D101, -, st101⟩ := newO X61 hx hZ hown (oW hw 198 rfl) (oW hw 199 rfl) (oW hw 200 rfl) rfl (g := (mkF m 222 #[.val (.int p1), .val (.int p2), .val (.int p3), .val (.int p4), .val (.int x4), .val (.int x5), .val (.int x6), .val (.int x7), .val (.int x8), .val (.int x9), .val (.int x10), .val (.int x11), .val (.int x12), .val (.int x13), .val (.int x14), .val (.ref b1), .val (.ref b7), .val (.ref b13), .val (.ref b18), .val (.ref b23), .val (.ref b60), .unset, .unset, .unset, .unset, .unset] [])) rfl (hb hby at_222) (by decide) (by decide)
  obtain ⟨b101, g101⟩ : ∃ z, z = T61.heap.size := ⟨_, rfl⟩
  rw [← g101] at A101 D101 st101
  have gx101 : n0 ≤ b101 := Nat.le_trans (O61.1 ▸ O61.2.1) (Nat.le_of_eq g101.symm)
  have ne_b1_b101 : b1 ≠ b101 := Nat.ne_of_lt (Nat.lt_of_lt_of_le fz62.lt (Nat.le_of_eq g101.symm))
  have ne_r4_b101 : r4 ≠ b101 := Nat.ne_of_lt (Nat.lt_of_lt_of_le fz63.lt (Nat.le_of_eq g101.symm))
  have ne_b7_b101 : b7 ≠ b101 := Nat.ne_of_lt (Nat.lt_of_lt_of_le fz68.lt (Nat.le_of_eq g101.symm))
  have ne_r10_b101 : r10 ≠ b101 := Nat.ne_of_lt (Nat.lt_of_lt_of_le fz69.lt (Nat.le_of_eq g101.symm))
  have ne_b13_b101 : b13 ≠ b101 := Nat.ne_of_lt (Nat.lt_of_lt_of_le fz74.lt (Nat.le_of_eq g101.symm))
  have ne_b15_b101 : b15 ≠ b101 := Nat.ne_of_lt (Nat.lt_of_lt_of_le fz75.lt (Nat.le_of_eq g101.symm))
  have ne_r17_b101 : r17 ≠ b101 := Nat.ne_of_lt (Nat.lt_of_lt_of_le fz83.lt (Nat.le_of_eq g101.symm))
  have ne_b18_b101 : b18 ≠ b101 := Nat.ne_of_lt (Nat.lt_of_lt_of_le fz85.lt (Nat.le_of_eq g101.symm))
  have ne_b20_b101 : b20 ≠ b101 := Nat.ne_of_lt (Nat.lt_of_lt_of_le fz86.lt (Nat.le_of_eq g101.symm))
  have ne_r22_b101 : r22 ≠ b101 := Nat.ne_of_lt (Nat.lt_of_lt_of_le fz94.lt (Nat.le_of_eq g101.symm))
  have ne_b23_b101 : b23 ≠ b101 := Nat.ne_of_lt (Nat.lt_of_lt_of_le fz96.lt (Nat.le_of_eq g101.symm))
  have ne_b60_b101 : b60 ≠ b101 := Nat.ne_of_lt (Nat.lt_of_lt_of_le fz100.lt (Nat.le_of_eq g101.symm))
  have ne_z261_b101 : z261 ≠ b101 := Nat.ne_of_lt (Nat.lt_of_lt_of_le P61_6.lt (Nat.le_of_eq g101.symm))
  have ne_z361_b101 : z361 ≠ b101 := Nat.ne_of_lt (Nat.lt_of_lt_of_le P61_9.lt (Nat.le_of_eq g101.symm))
  have ne_z461_b101 : z461 ≠ b101 := Nat.ne_of_lt (Nat.lt_of_lt_of_le P61_12.lt (Nat.le_of_eq g101.symm))
  have ne_z561_b101 : z561 ≠ b101 := Nat.ne_of_lt (Nat.lt_of_lt_of_le P61_15.lt (Nat.le_of_eq g101.symm))
  have O101 := O61.ext E101
  have F_choices_b101 : Fld Z h101 b101 "com/example/shiftweave/shiftweave/rostering/Penalties" "choices" "I" (.int 0) := D101 (Or.inr (oW hw 225 rfl)) (ty := .int) (by decide)
  have F_cover_b101 : Fld Z h101 b101 "com/example/shiftweave/shiftweave/rostering/Penalties" "cover" "[[[J" .null := D101 (Or.inr (oW hw 236 rfl)) (ty := (.array (.array (.array .long)))) (by decide)
  have F_requests_b101 : Fld Z h101 b101 "com/example/shiftweave/shiftweave/rostering/Penalties" "requests" "[[J" .null := D101 (Or.inr (oW hw 294 rfl)) (ty := (.array (.array .long))) (by decide)
  have F_mostCoverChange_b101 : Fld Z h101 b101 "com/example/shiftweave/shiftweave/rostering/Penalties" "mostCoverChange" "J" (.long 0) := D101 (Or.inr (oW hw 348 rfl)) (ty := .long) (by decide)
  have F_mostRequestChange_b101 : Fld Z h101 b101 "com/example/shiftweave/shiftweave/rostering/Penalties" "mostRequestChange" "J" (.long 0) := D101 (Or.inr (oW hw 350 rfl)) (ty := .long) (by decide)
  refine oS (fun t k => st101 t k) ?_
  try clear st101 X61 e61
  refine oS (fun t k => XS.dup X101.here hx rfl (hb hby at_225) rfl rfl k) ?_
  refine oS (fun t k => XS.aload X101.here hx rfl (hb hby at_226) rfl rfl k) ?_
  obtain ⟨_, _, ⟨T102, L102, k102, n102⟩, -, X102, ⟨Lc102, hQ102, l102, y102, z102⟩, st102⟩ := X101.specialBack hx (y := mY53) rfl hown (oM hZ hw 201 rfl) (oM hZ hw 202 rfl) (oM hZ hw 203 rfl) (by decide) (backOf (W := 1) (rm_pen l Z a0 hw [] b101 b60 z261 z361 z461 z561 b15 b20 r5 r11 x4 x5 x6 x10 x7 x8 x9 x11 w h101 n0 O101 W A101 gx101 F_choices_b101 F_cover_b101 F_requests_b101 F_mostCoverChange_b101 F_mostRequestChange_b101 (fz100.ext E101) (P61_0.ext E101) (P61_1.ext E101) (P61_2.ext E101) (P61_3.ext E101) (P61_4.ext E101) (P61_5.ext E101) (P61_6.ext E101) (P61_8.ext E101) (Pr5.ext O101.2) (P61_9.ext E101) (P61_11.ext E101) (Pr11.ext O101.2) (P61_12.ext E101) (P61_13.ext E101) (P61_14.ext E101) (P61_15.ext E101) (P61_16.ext E101) (P61_17.ext E101) (fz75.ext E101) (fz86.ext E101) (fz76.ext E101) (fz77.ext E101) (fz78.ext E101) (fz79.ext E101) (fz87.ext E101) (fz88.ext E101) (fz89.ext E101) (fz90.ext E101) gx60 gz261 gz361 gz461 gz561 gx15 gx20 (Ne.symm ne_b60_b101) (Ne.symm ne_z261_b101) (Ne.symm ne_z361_b101) (Ne.symm ne_z461_b101) (Ne.symm ne_z561_b101) (Ne.symm ne_b15_b101) (Ne.symm ne_b20_b101) hb4 hb5 hb6 hb7 hb8 hb9) hZ (oW hw 203 rfl) (oW hw 200 rfl) (by decide) (by decide)) (g := (mkF m 228 #[.val (.int p1), .val (.int p2), .val (.int p3), .val (.int p4), .val (.int x4), .val (.int x5), .val (.int x6), .val (.int x7), .val (.int x8), .val (.int x9), .val (.int x10), .val (.int x11), .val (.int x12), .val (.int x13), .val (.int x14), .val (.ref b1), .val (.ref b7), .val (.ref b13), .val (.ref b18), .val (.ref b23), .val (.ref b60), .unset, .unset, .unset, .unset, .unset] [(.ref b60), (.ref b101), (.ref b101)])) rfl (by rw [hml]; rfl) (Steps.refl _) (a := b101) (argsL := [(.ref b60)]) (rest := [(.ref b101)]) (lenOf pd_25 rfl) rfl (by show 2 * 0 + _ ≤ _; exact Nat.le_of_eq rfl) (hb hby at_228) (fun _ _ => ⟨rfl, e101, (by decide : 21 + 13 ≤ _), (by decide : 88 + 41 ≤ _)⟩)
  dsimp only [Pt.U, Pt.locs, Pt.cells, Pt.slots] at X102 l102 y102 z102 st102 hQ102
  rw [l102, y102, z102] at X102
  clear l102 y102 z102
  obtain ⟨x102_ra, x102_rb, x102_rc, x102_ka, x102_kb, x102_f, rfl, Nq102, K102, P102_0, P102_1, P102_2, P102_3, P102_4, P102_5⟩ := hQ102
  have N102 := Fr.app N61 Nq102
  have O102 := O101.keep K102 (allS gx101 all0)
  refine oS (fun t k => st102.trans k) ?_
  show oG _ _ _ _ _ _ _ (T102.setTop (mkF m 231 #[.val (.int p1), .val (.int p2), .val (.int p3), .val (.int p4), .val (.int x4), .val (.int x5), .val (.int x6), .val (.int x7), .val (.int x8), .val (.int x9), .val (.int x10), .val (.int x11), .val (.int x12), .val (.int x13), .val (.int x14), .val (.ref b1), .val (.ref b7), .val (.ref b13), .val (.ref b18), .val (.ref b23), .val (.ref b60), .unset, .unset, .unset, .unset, .unset] [(.ref b101)]))
  try clear st102 X101 e101
  try clear T101
  refine oS (fun t k => XS.astore X102.here hx rfl (hb hby at_231) rfl rfl (l' := #[.val (.int p1), .val (.int p2), .val (.int p3), .val (.int p4), .val (.int x4), .val (.int x5), .val (.int x6), .val (.int x7), .val (.int x8), .val (.int x9), .val (.int x10), .val (.int x11), .val (.int x12), .val (.int x13), .val (.int x14), .val (.ref b1), .val (.ref b7), .val (.ref b13), .val (.ref b18), .val (.ref b23), .val (.ref b60), .val (.ref b101), .unset, .unset, .unset, .unset]) rfl k) ?_
  refine oS (fun t k => XS.aload X102.here hx rfl (hb hby at_233) rfl rfl k) ?_
  refine oS (fun t k => XS.iload X102.here hx rfl (hb hby at_235) rfl k) ?_
  refine oS (fun t k => XS.iload X102.here hx rfl (hb hby at_237) rfl k) ?_
  refine oS (fun t k => XS.iload X102.here hx rfl (hb hby at_239) rfl k) ?_
  obtain ⟨cq103, kq103, q103a, q103b, q103c⟩ := isOf hZ rfl (A101.keep K102)
  obtain ⟨_, _, ⟨T103, L103, k103, n103⟩, -, X103, ⟨Lc103, hQ103, l103, y103, z103⟩, st103⟩ := X102.virtualBack hx (y := mY54) (z := mY54) hown (oM hZ hw 351 rfl) (oM hZ hw 352 rfl) (notFace_of_selects (args := #[]) (oM hZ hw 354 rfl)) (oM hZ hw 354 rfl) (oM hZ hw 353 rfl) (by decide) (backOf (W := 0) (rm_req l Z a0 hw [] b101 x102_ra x102_rb x102_rc x102_ka x102_kb x102_f x12 x13 x14  T102.heap n0 O102  P102_0 P102_1 P102_2 P102_3 P102_4 hb12 hb13 hb14) hZ (oW hw 355 rfl) (oW hw 200 rfl) (by decide) (by decide)) q103a q103c (g := (mkF m 241 #[.val (.int p1), .val (.int p2), .val (.int p3), .val (.int p4), .val (.int x4), .val (.int x5), .val (.int x6), .val (.int x7), .val (.int x8), .val (.int x9), .val (.int x10), .val (.int x11), .val (.int x12), .val (.int x13), .val (.int x14), .val (.ref b1), .val (.ref b7), .val (.ref b13), .val (.ref b18), .val (.ref b23), .val (.ref b60), .val (.ref b101), .unset, .unset, .unset, .unset] [(.int x14), (.int x13), (.int x12), (.ref b101)])) rfl (by rw [hml]; rfl) (Steps.refl _) (argsL := [(.int x12), (.int x13), (.int x14)]) (rest := []) (lenOf pd_26 rfl) rfl (by show 2 * 0 + _ ≤ _; exact Nat.le_of_eq rfl) (hb hby at_241) (fun _ _ => ⟨rfl, rfl, (by decide : 34 + 0 ≤ _), (by decide : 129 + 0 ≤ _)⟩)
  dsimp only [Pt.U, Pt.locs, Pt.cells, Pt.slots] at X103 l103 y103 z103 st103 hQ103
  rw [l103, y103, z103] at X103
  clear l103 y103 z103
  obtain ⟨rfl, Nq103, e103⟩ := hQ103
  have N103 := Fr.app N102 Nq103
  refine oS (fun t k => st103.trans k) ?_
  show oG _ _ _ _ _ _ _ (T103.setTop (mkF m 244 #[.val (.int p1), .val (.int p2), .val (.int p3), .val (.int p4), .val (.int x4), .val (.int x5), .val (.int x6), .val (.int x7), .val (.int x8), .val (.int x9), .val (.int x10), .val (.int x11), .val (.int x12), .val (.int x13), .val (.int x14), .val (.ref b1), .val (.ref b7), .val (.ref b13), .val (.ref b18), .val (.ref b23), .val (.ref b60), .val (.ref b101), .unset, .unset, .unset, .unset] [(.long (own_at x102_f x12 (((x13 * (3 : Int32)) + x14) + (1 : Int32))))]))
  try clear st103 X102 e102
  refine oS (fun t k => XS.lstore X103.here hx rfl (hb hby at_244) rfl (l' := #[.val (.int p1), .val (.int p2), .val (.int p3), .val (.int p4), .val (.int x4), .val (.int x5), .val (.int x6), .val (.int x7), .val (.int x8), .val (.int x9), .val (.int x10), .val (.int x11), .val (.int x12), .val (.int x13), .val (.int x14), .val (.ref b1), .val (.ref b7), .val (.ref b13), .val (.ref b18), .val (.ref b23), .val (.ref b60), .val (.ref b101), .val (.long (own_at x102_f x12 (((x13 * (3 : Int32)) + x14) + (1 : Int32)))), .second, .unset, .unset]) rfl k) ?_
  refine oS (fun t k => oLc ll_0 X103.here hx rfl (hb hby at_246) k) ?_
  refine oS (fun t k => XS.lstore X103.here hx rfl (hb hby at_247) rfl (l' := #[.val (.int p1), .val (.int p2), .val (.int p3), .val (.int p4), .val (.int x4), .val (.int x5), .val (.int x6), .val (.int x7), .val (.int x8), .val (.int x9), .val (.int x10), .val (.int x11), .val (.int x12), .val (.int x13), .val (.int x14), .val (.ref b1), .val (.ref b7), .val (.ref b13), .val (.ref b18), .val (.ref b23), .val (.ref b60), .val (.ref b101), .val (.long (own_at x102_f x12 (((x13 * (3 : Int32)) + x14) + (1 : Int32)))), .second, .val (.long 0), .second]) rfl k) ?_
  show oG _ _ _ _ _ _ _ (T103.setTop (mkF m 249 #[.val (.int p1), .val (.int p2), .val (.int p3), .val (.int p4), .val (.int x4), .val (.int x5), .val (.int x6), .val (.int x7), .val (.int x8), .val (.int x9), .val (.int x10), .val (.int x11), .val (.int x12), .val (.int x13), .val (.int x14), .val (.ref b1), .val (.ref b7), .val (.ref b13), .val (.ref b18), .val (.ref b23), .val (.ref b60), .val (.ref b101), .val (.long (own_at x102_f x12 (((x13 * (3 : Int32)) + x14) + (1 : Int32)))), .second, .val (.long 0), .second] []))
  suffices cut : oG p e below s (Q_law Z p1 p2 p3 p4 w h0 n0) room_1.cells room_1.slots (T103.setTop (mkF m 278 #[.val (.int p1), .val (.int p2), .val (.int p3), .val (.int p4), .val (.int x4), .val (.int x5), .val (.int x6), .val (.int x7), .val (.int x8), .val (.int x9), .val (.int x10), .val (.int x11), .val (.int x12), .val (.int x13), .val (.int x14), .val (.ref b1), .val (.ref b7), .val (.ref b13), .val (.ref b18), .val (.ref b23), .val (.ref b60), .val (.ref b101), .val (.long (own_at x102_f x12 (((x13 * (3 : Int32)) + x14) + (1 : Int32)))), .second, .val (.long (own_e1 x12 x13 x14 x4 x5 x6 x10)), .second] [])) by
    refine oS (fun t k => XS.iload X103.here hx rfl (hb hby at_249) rfl k) ?_
    refine oS (fun t k => XS.iload X103.here hx rfl (hb hby at_251) rfl k) ?_
    by_cases hc253 : x12 = x4
    · refine oS (fun t k => XS.icmpNo X103.here hx rfl (hb hby at_253) rfl (teq hc253).2 k) ?_
      refine oS (fun t k => XS.iload X103.here hx rfl (hb hby at_256) rfl k) ?_
      show oG _ _ _ _ _ _ _ (T103.setTop (mkF m 258 #[.val (.int p1), .val (.int p2), .val (.int p3), .val (.int p4), .val (.int x4), .val (.int x5), .val (.int x6), .val (.int x7), .val (.int x8), .val (.int x9), .val (.int x10), .val (.int x11), .val (.int x12), .val (.int x13), .val (.int x14), .val (.ref b1), .val (.ref b7), .val (.ref b13), .val (.ref b18), .val (.ref b23), .val (.ref b60), .val (.ref b101), .val (.long (own_at x102_f x12 (((x13 * (3 : Int32)) + x14) + (1 : Int32)))), .second, .val (.long 0), .second] [(.int x13)]))
      refine oS (fun t k => XS.iload X103.here hx rfl (hb hby at_258) rfl k) ?_
      by_cases hc260 : x13 = x5
      · refine oS (fun t k => XS.icmpNo X103.here hx rfl (hb hby at_260) rfl (teq hc260).2 k) ?_
        refine oS (fun t k => XS.iload X103.here hx rfl (hb hby at_263) rfl k) ?_
        refine oS (fun t k => XS.iload X103.here hx rfl (hb hby at_265) rfl k) ?_
        by_cases hc267 : x14 = x6
        · refine oS (fun t k => XS.icmpYes X103.here hx rfl (pc0 := 267) (pc' := 278) rfl (hb hby at_267) rfl (teq hc267).1 (by decide) (by decide) k) ?_
          have ej : (own_e1 x12 x13 x14 x4 x5 x6 x10) = (0 : Int64) := if_neg (fun q => q.2.2 hc267)
          rw [ej] at cut
          exact cut
        · refine oS (fun t k => XS.icmpNo X103.here hx rfl (hb hby at_267) rfl (feq hc267).1 k) ?_
          refine oS (fun t k => XS.lload X103.here hx rfl (hb hby at_270) rfl k) ?_
          refine oS (fun t k => XS.iload X103.here hx rfl (hb hby at_272) rfl k) ?_
          show oG _ _ _ _ _ _ _ (T103.setTop (mkF m 274 #[.val (.int p1), .val (.int p2), .val (.int p3), .val (.int p4), .val (.int x4), .val (.int x5), .val (.int x6), .val (.int x7), .val (.int x8), .val (.int x9), .val (.int x10), .val (.int x11), .val (.int x12), .val (.int x13), .val (.int x14), .val (.ref b1), .val (.ref b7), .val (.ref b13), .val (.ref b18), .val (.ref b23), .val (.ref b60), .val (.ref b101), .val (.long (own_at x102_f x12 (((x13 * (3 : Int32)) + x14) + (1 : Int32)))), .second, .val (.long 0), .second] [(.int x10), (.long 0)]))
          refine oS (fun t k => XS.i2l X103.here hx rfl (hb hby at_274) rfl k) ?_
          refine oS (fun t k => XS.ladd X103.here hx rfl (hb hby at_275) rfl k) ?_
          refine oS (fun t k => XS.lstore X103.here hx rfl (hb hby at_276) rfl (l' := #[.val (.int p1), .val (.int p2), .val (.int p3), .val (.int p4), .val (.int x4), .val (.int x5), .val (.int x6), .val (.int x7), .val (.int x8), .val (.int x9), .val (.int x10), .val (.int x11), .val (.int x12), .val (.int x13), .val (.int x14), .val (.ref b1), .val (.ref b7), .val (.ref b13), .val (.ref b18), .val (.ref b23), .val (.ref b60), .val (.ref b101), .val (.long (own_at x102_f x12 (((x13 * (3 : Int32)) + x14) + (1 : Int32)))), .second, .val (.long ((0 : Int64) + (x10.toInt64))), .second]) rfl k) ?_
          have ej : (own_e1 x12 x13 x14 x4 x5 x6 x10) = ((0 : Int64) + (x10.toInt64)) := if_pos ⟨hc253, hc260, hc267⟩
          rw [ej] at cut
          exact cut
      · refine oS (fun t k => XS.icmpYes X103.here hx rfl (pc0 := 260) (pc' := 278) rfl (hb hby at_260) rfl (feq hc260).2 (by decide) (by decide) k) ?_
        have ej : (own_e1 x12 x13 x14 x4 x5 x6 x10) = (0 : Int64) := if_neg (fun q => hc260 q.2.1)
        rw [ej] at cut
        exact cut
    · refine oS (fun t k => XS.icmpYes X103.here hx rfl (pc0 := 253) (pc' := 278) rfl (hb hby at_253) rfl (feq hc253).2 (by decide) (by decide) k) ?_
      have ej : (own_e1 x12 x13 x14 x4 x5 x6 x10) = (0 : Int64) := if_neg (fun q => hc253 q.1)
      rw [ej] at cut
      exact cut
  refine oS (fun t k => XS.iload X103.here hx rfl (hb hby at_278) rfl k) ?_
  refine oS (fun t k => XS.iload X103.here hx rfl (hb hby at_280) rfl k) ?_
  by_cases hc282 : x12 = x7
  · refine oS (fun t k => XS.icmpNo X103.here hx rfl (hb hby at_282) rfl (teq hc282).2 k) ?_
    refine oS (fun t k => XS.iload X103.here hx rfl (hb hby at_285) rfl k) ?_
    show oG _ _ _ _ _ _ _ (T103.setTop (mkF m 287 #[.val (.int p1), .val (.int p2), .val (.int p3), .val (.int p4), .val (.int x4), .val (.int x5), .val (.int x6), .val (.int x7), .val (.int x8), .val (.int x9), .val (.int x10), .val (.int x11), .val (.int x12), .val (.int x13), .val (.int x14), .val (.ref b1), .val (.ref b7), .val (.ref b13), .val (.ref b18), .val (.ref b23), .val (.ref b60), .val (.ref b101), .val (.long (own_at x102_f x12 (((x13 * (3 : Int32)) + x14) + (1 : Int32)))), .second, .val (.long (own_e1 x12 x13 x14 x4 x5 x6 x10)), .second] [(.int x13)]))
    refine oS (fun t k => XS.iload X103.here hx rfl (hb hby at_287) rfl k) ?_
    by_cases hc289 : x13 = x8
    · refine oS (fun t k => XS.icmpNo X103.here hx rfl (hb hby at_289) rfl (teq hc289).2 k) ?_
      refine oS (fun t k => XS.iload X103.here hx rfl (hb hby at_292) rfl k) ?_
      refine oS (fun t k => XS.iload X103.here hx rfl (hb hby at_294) rfl k) ?_
      by_cases hc296 : x14 = x9
      · refine oS (fun t k => XS.icmpNo X103.here hx rfl (hb hby at_296) rfl (teq hc296).2 k) ?_
        refine oS (fun t k => XS.lload X103.here hx rfl (hb hby at_299) rfl k) ?_
        refine oS (fun t k => XS.iload X103.here hx rfl (hb hby at_301) rfl k) ?_
        show oG _ _ _ _ _ _ _ (T103.setTop (mkF m 303 #[.val (.int p1), .val (.int p2), .val (.int p3), .val (.int p4), .val (.int x4), .val (.int x5), .val (.int x6), .val (.int x7), .val (.int x8), .val (.int x9), .val (.int x10), .val (.int x11), .val (.int x12), .val (.int x13), .val (.int x14), .val (.ref b1), .val (.ref b7), .val (.ref b13), .val (.ref b18), .val (.ref b23), .val (.ref b60), .val (.ref b101), .val (.long (own_at x102_f x12 (((x13 * (3 : Int32)) + x14) + (1 : Int32)))), .second, .val (.long (own_e1 x12 x13 x14 x4 x5 x6 x10)), .second] [(.int x11), (.long (own_e1 x12 x13 x14 x4 x5 x6 x10))]))
        refine oS (fun t k => XS.i2l X103.here hx rfl (hb hby at_303) rfl k) ?_
        refine oS (fun t k => XS.ladd X103.here hx rfl (hb hby at_304) rfl k) ?_
        refine oS (fun t k => XS.lstore X103.here hx rfl (hb hby at_305) rfl (l' := #[.val (.int p1), .val (.int p2), .val (.int p3), .val (.int p4), .val (.int x4), .val (.int x5), .val (.int x6), .val (.int x7), .val (.int x8), .val (.int x9), .val (.int x10), .val (.int x11), .val (.int x12), .val (.int x13), .val (.int x14), .val (.ref b1), .val (.ref b7), .val (.ref b13), .val (.ref b18), .val (.ref b23), .val (.ref b60), .val (.ref b101), .val (.long (own_at x102_f x12 (((x13 * (3 : Int32)) + x14) + (1 : Int32)))), .second, .val (.long ((own_e1 x12 x13 x14 x4 x5 x6 x10) + (x11.toInt64))), .second]) rfl k) ?_
        refine oS (fun t k => XS.lload X103.here hx rfl (hb hby at_307) rfl k) ?_
        refine oS (fun t k => XS.lload X103.here hx rfl (hb hby at_309) rfl k) ?_
        refine oS (fun t k => XS.lcmp X103.here hx rfl (hb hby at_311) rfl k) ?_
        refine oS (fun t k => XS.ifNo X103.here hx rfl (hb hby at_312) rfl ((if0 _ _).trans (teq ((lw_eq (own_at x102_f x12 (((x13 * (3 : Int32)) + x14) + (1 : Int32))) ((own_e1 x12 x13 x14 x4 x5 x6 x10) + (x11.toInt64))).mpr ((own_fin P102_5 hb12 hb13 hb14 hb4 hb5 hb6 hb7 hb8 hb9).trans (by rw [if_pos ⟨hc282, hc289, hc296⟩])))).2) k) ?_
        show oG _ _ _ _ _ _ _ (T103.setTop (mkF m 315 #[.val (.int p1), .val (.int p2), .val (.int p3), .val (.int p4), .val (.int x4), .val (.int x5), .val (.int x6), .val (.int x7), .val (.int x8), .val (.int x9), .val (.int x10), .val (.int x11), .val (.int x12), .val (.int x13), .val (.int x14), .val (.ref b1), .val (.ref b7), .val (.ref b13), .val (.ref b18), .val (.ref b23), .val (.ref b60), .val (.ref b101), .val (.long (own_at x102_f x12 (((x13 * (3 : Int32)) + x14) + (1 : Int32)))), .second, .val (.long ((own_e1 x12 x13 x14 x4 x5 x6 x10) + (x11.toInt64))), .second] []))
        refine oS (fun t k => oIc li_1 X103.here hx rfl (hb hby at_315) k) ?_
        refine oS (fun t k => XS.goto X103.here hx rfl (pc0 := 316) (pc' := 320) rfl (hb hby at_316) (by decide) (by decide) k) ?_
        exact own_ret (v := some (.int 1)) X103 (fun h => by rw [Bd.returns] at h; cases h) Bd.notSynchronized (fun fs hr => retN X103 hx (t := .boolean) Bd.returns (by simp) (hb hby at_320) hr) (by rw [e103]; exact ⟨rfl, N103⟩) (by decide) (by decide)
      · refine oS (fun t k => XS.icmpYes X103.here hx rfl (pc0 := 296) (pc' := 307) rfl (hb hby at_296) rfl (feq hc296).2 (by decide) (by decide) k) ?_
        refine oS (fun t k => XS.lload X103.here hx rfl (hb hby at_307) rfl k) ?_
        refine oS (fun t k => XS.lload X103.here hx rfl (hb hby at_309) rfl k) ?_
        show oG _ _ _ _ _ _ _ (T103.setTop (mkF m 311 #[.val (.int p1), .val (.int p2), .val (.int p3), .val (.int p4), .val (.int x4), .val (.int x5), .val (.int x6), .val (.int x7), .val (.int x8), .val (.int x9), .val (.int x10), .val (.int x11), .val (.int x12), .val (.int x13), .val (.int x14), .val (.ref b1), .val (.ref b7), .val (.ref b13), .val (.ref b18), .val (.ref b23), .val (.ref b60), .val (.ref b101), .val (.long (own_at x102_f x12 (((x13 * (3 : Int32)) + x14) + (1 : Int32)))), .second, .val (.long (own_e1 x12 x13 x14 x4 x5 x6 x10)), .second] [(.long (own_e1 x12 x13 x14 x4 x5 x6 x10)), (.long (own_at x102_f x12 (((x13 * (3 : Int32)) + x14) + (1 : Int32))))]))
        refine oS (fun t k => XS.lcmp X103.here hx rfl (hb hby at_311) rfl k) ?_
        refine oS (fun t k => XS.ifNo X103.here hx rfl (hb hby at_312) rfl ((if0 _ _).trans (teq ((lw_eq (own_at x102_f x12 (((x13 * (3 : Int32)) + x14) + (1 : Int32))) (own_e1 x12 x13 x14 x4 x5 x6 x10)).mpr ((own_fin P102_5 hb12 hb13 hb14 hb4 hb5 hb6 hb7 hb8 hb9).trans (by rw [if_neg (fun q => hc296 q.2.2)])))).2) k) ?_
        refine oS (fun t k => oIc li_1 X103.here hx rfl (hb hby at_315) k) ?_
        refine oS (fun t k => XS.goto X103.here hx rfl (pc0 := 316) (pc' := 320) rfl (hb hby at_316) (by decide) (by decide) k) ?_
        exact own_ret (v := some (.int 1)) X103 (fun h => by rw [Bd.returns] at h; cases h) Bd.notSynchronized (fun fs hr => retN X103 hx (t := .boolean) Bd.returns (by simp) (hb hby at_320) hr) (by rw [e103]; exact ⟨rfl, N103⟩) (by decide) (by decide)
    · refine oS (fun t k => XS.icmpYes X103.here hx rfl (pc0 := 289) (pc' := 307) rfl (hb hby at_289) rfl (feq hc289).2 (by decide) (by decide) k) ?_
      refine oS (fun t k => XS.lload X103.here hx rfl (hb hby at_307) rfl k) ?_
      refine oS (fun t k => XS.lload X103.here hx rfl (hb hby at_309) rfl k) ?_
      refine oS (fun t k => XS.lcmp X103.here hx rfl (hb hby at_311) rfl k) ?_
      refine oS (fun t k => XS.ifNo X103.here hx rfl (hb hby at_312) rfl ((if0 _ _).trans (teq ((lw_eq (own_at x102_f x12 (((x13 * (3 : Int32)) + x14) + (1 : Int32))) (own_e1 x12 x13 x14 x4 x5 x6 x10)).mpr ((own_fin P102_5 hb12 hb13 hb14 hb4 hb5 hb6 hb7 hb8 hb9).trans (by rw [if_neg (fun q => hc289 q.2.1)])))).2) k) ?_
      refine oS (fun t k => oIc li_1 X103.here hx rfl (hb hby at_315) k) ?_
      show oG _ _ _ _ _ _ _ (T103.setTop (mkF m 316 #[.val (.int p1), .val (.int p2), .val (.int p3), .val (.int p4), .val (.int x4), .val (.int x5), .val (.int x6), .val (.int x7), .val (.int x8), .val (.int x9), .val (.int x10), .val (.int x11), .val (.int x12), .val (.int x13), .val (.int x14), .val (.ref b1), .val (.ref b7), .val (.ref b13), .val (.ref b18), .val (.ref b23), .val (.ref b60), .val (.ref b101), .val (.long (own_at x102_f x12 (((x13 * (3 : Int32)) + x14) + (1 : Int32)))), .second, .val (.long (own_e1 x12 x13 x14 x4 x5 x6 x10)), .second] [(.int 1)]))
      refine oS (fun t k => XS.goto X103.here hx rfl (pc0 := 316) (pc' := 320) rfl (hb hby at_316) (by decide) (by decide) k) ?_
      exact own_ret (v := some (.int 1)) X103 (fun h => by rw [Bd.returns] at h; cases h) Bd.notSynchronized (fun fs hr => retN X103 hx (t := .boolean) Bd.returns (by simp) (hb hby at_320) hr) (by rw [e103]; exact ⟨rfl, N103⟩) (by decide) (by decide)
  · refine oS (fun t k => XS.icmpYes X103.here hx rfl (pc0 := 282) (pc' := 307) rfl (hb hby at_282) rfl (feq hc282).2 (by decide) (by decide) k) ?_
    refine oS (fun t k => XS.lload X103.here hx rfl (hb hby at_307) rfl k) ?_
    show oG _ _ _ _ _ _ _ (T103.setTop (mkF m 309 #[.val (.int p1), .val (.int p2), .val (.int p3), .val (.int p4), .val (.int x4), .val (.int x5), .val (.int x6), .val (.int x7), .val (.int x8), .val (.int x9), .val (.int x10), .val (.int x11), .val (.int x12), .val (.int x13), .val (.int x14), .val (.ref b1), .val (.ref b7), .val (.ref b13), .val (.ref b18), .val (.ref b23), .val (.ref b60), .val (.ref b101), .val (.long (own_at x102_f x12 (((x13 * (3 : Int32)) + x14) + (1 : Int32)))), .second, .val (.long (own_e1 x12 x13 x14 x4 x5 x6 x10)), .second] [(.long (own_at x102_f x12 (((x13 * (3 : Int32)) + x14) + (1 : Int32))))]))
    refine oS (fun t k => XS.lload X103.here hx rfl (hb hby at_309) rfl k) ?_
    refine oS (fun t k => XS.lcmp X103.here hx rfl (hb hby at_311) rfl k) ?_
    refine oS (fun t k => XS.ifNo X103.here hx rfl (hb hby at_312) rfl ((if0 _ _).trans (teq ((lw_eq (own_at x102_f x12 (((x13 * (3 : Int32)) + x14) + (1 : Int32))) (own_e1 x12 x13 x14 x4 x5 x6 x10)).mpr ((own_fin P102_5 hb12 hb13 hb14 hb4 hb5 hb6 hb7 hb8 hb9).trans (by rw [if_neg (fun q => hc282 q.1)])))).2) k) ?_
    refine oS (fun t k => oIc li_1 X103.here hx rfl (hb hby at_315) k) ?_
    refine oS (fun t k => XS.goto X103.here hx rfl (pc0 := 316) (pc' := 320) rfl (hb hby at_316) (by decide) (by decide) k) ?_
    exact own_ret (v := some (.int 1)) X103 (fun h => by rw [Bd.returns] at h; cases h) Bd.notSynchronized (fun fs hr => retN X103 hx (t := .boolean) Bd.returns (by simp) (hb hby at_320) hr) (by rw [e103]; exact ⟨rfl, N103⟩) (by decide) (by decide)
theorem comes_1 {Post : Tables → Env → Array Value → State → Outcome → State → Prop} (hpost : ∀ tb e args s v u, (limb_1_1.after args s (.returned v) u = true ∧ limb_1_2.after args s (.returned v) u = true ∧ True) → FrameEnd s (.returned v) u (Jvm.fieldLocs frame_1_writes args s ++ Jvm.arrayLocs frame_1_arrays args s ++ Jvm.staticLocs frame_1_statics s) 80 384 → Post tb e args s (.returned v) u) :
    ArmFor flags0 classFile x code maxLocals ret World_1 tables_1 room_1 Calls_1 rest_1 Pre_1 Post := by
  intro l hfl _ _ p e ha hc hk s m args below hf hA hF happ hP
  obtain ⟨hcalls, hrest, hpre⟩ := hP
  obtain ⟨-, -, -, hnamed, -, -, -, hat⟩ := (Spec.applies_iff hf).mp happ
  obtain ⟨hg, hn⟩ := and_e (Cond.before_iff.mp (show (Jvm.Cond.and given_1 narrow_1).before args s = true from hpre))
  obtain ⟨g0, g1⟩ := and_e hg
  obtain ⟨g2, g3⟩ := and_e g1
  obtain ⟨g4, g5⟩ := and_e g3
  obtain ⟨g6, g7⟩ := and_e g5
  obtain ⟨w0, w1, w2, w3, rfl⟩ : ∃ w0 w1 w2 w3 : Value, args = #[w0, w1, w2, w3] := by
    have hs : args.size = 4 := by simpa [Cond.value, given_1] using g0
    obtain ⟨L⟩ := args
    match L, hs with
    | [w0, w1, w2, w3], _ => exact ⟨w0, w1, w2, w3, rfl⟩
  have hw := fun d (hd : d ∈ tables_1) => atoms_spec (ws := Jvm.Cond.code x code maxLocals ret :: tables_1) hat d (List.mem_cons_of_mem _ hd)
  have hfit : Fit s := fun {y c} hc i hi => by
    obtain ⟨ha, rfl⟩ := Array.getElem?_eq_some_iff.mp hc
    have q := List.all_eq_true.mp ((Array.all_eq_true_iff_forall_mem.mp hF) _ (Array.getElem_mem ha)) i (List.mem_range.mpr hi)
    simpa [Array.getElem?_eq_getElem hi] using q
  obtain ⟨i0, ei0⟩ := is_v g2
  obtain rfl : w0 = (.int i0) := Option.some.inj ei0
  obtain ⟨i1, ei1⟩ := is_v g4
  obtain rfl : w1 = (.int i1) := Option.some.inj ei1
  obtain ⟨i2, ei2⟩ := is_v g6
  obtain rfl : w2 = (.int i2) := Option.some.inj ei2
  obtain ⟨i3, ei3⟩ := is_v g7
  obtain rfl : w3 = (.int i3) := Option.some.inj ei3
  obtain ⟨hsets, hown0⟩ := atoms_of _ (rest_1_c_eq ▸ (show rest_1_c.before _ s = true from hrest))
  have hr0 := Cond.before_iff.mp hown0
  obtain ⟨w, W⟩ := own_world hw hfit  hcalls.1  hsets hn
  obtain ⟨n, o, h1, h2, h3, _, L, rfl, ⟨rfl, N⟩, hq⟩ := rm_law l s _ hw tables_1 i0 i1 i2 i3 w s.heap s.heap.size (Old.start s) W  p e ha hc hk s m _ below hf ((Spec.applies_iff_loose hf).mp happ).1 ⟨rfl, State.Warmed39.refl s, rfl⟩ trivial
  refine ⟨n, _, h1, h2, h3, hpost _ _ _ _ _ _ ⟨Cond.after_iff.mpr rfl, Cond.after_iff.mpr (eq_i res_at (Term.int_eval (1)) rfl), trivial⟩ ⟨hq.1, hq.2.1, (hq.2.2.sift fun y hy => Or.inr (N y hy)).mono (by decide) (by decide)⟩⟩
theorem main_1_1 : Claimed_1_1 := comes_1 fun _ _ _ _ _ _ h hF => ⟨h.1, hF⟩
theorem main_1_2 : Claimed_1_2 := comes_1 fun _ _ _ _ _ _ h hF => ⟨h.2.1, hF⟩
end Jvm.Pilot.@@N@@
namespace Jvm.Pilot.@@N@@
open Jvm Jvm.ClassFile Sem Op Lib Jvm.Free Jvm.Stand Jvm.Pilot.@@N@@.Jvm.D
/-! MADE BY PROGRAM (witnessworld.py) out of the Statement's table words and the real class files: 43 classes; the members and pool entries that the words name. The judged class is class 1, her method 1. -/
namespace start1
open Jvm.ClassFile
def u (s : String) : CpInfo := .utf8 (stringToUtf16 s)
/-- a pool by its gaps: so many unusable entries, then the entry; so many at the end -/
def gap : Nat → List CpInfo → List CpInfo
  | 0, r => r
  | n + 1, r => .unusable :: gap n r
def poolList (es : List (Nat × CpInfo)) (last : Nat) : List CpInfo := es.foldr (fun e r => gap e.1 (e.2 :: r)) (gap last [])
def pool (es : List (Nat × CpInfo)) (last : Nat) : Array CpInfo := ⟨poolList es last⟩
def fileOf (pool : Array CpInfo) (this : Nat) (attrs : Array Attribute := #[]) (ms : Array MethodInfo := #[]) (fl : Nat := 33) (sup : Nat := 0) (ifs : Array Nat := #[]) (fds : Array FieldInfo := #[]) : ClassFile where
  minorVersion := 0
  majorVersion := 65
  constantPool := pool
  accessFlags := fl
  thisClass := this
  superClass := sup
  interfaces := ifs
  fields := fds
  methods := ms
  attributes := attrs
def plain (name : String) (sup : Option ClassId) : Class where
  name := name
  kind := .ordinary
  loader := none
  accessFlags := 33
  super := sup
  interfaces := #[]
  cf := none
  fields := #[]
  methods := #[]
  instanceTypes := #[]
  staticTypes := #[]
  resolved := #[]
  callSites := []
  init := .initialized
  statics := none
  mirror := none

def pool0 : Array CpInfo := pool [(5, u "<init>"), (0, u "()V"), (1, .class_ 10), (1, u "java/lang/Object"), (0, u "getClass"), (0, u "()Ljava/lang/Class;")] 111

def k0c0 : Code := { maxStack := 0, maxLocals := 1, code := object_method_1_code, exceptionTable := #[], attributes := #[] }
def k0m0 : Method := { name := "<init>", desc := "()V", sig := { parameters := [], returnType := none }, accessFlags := 1, code := some k0c0 }
def k0m1 : Method := { name := "getClass", desc := "()Ljava/lang/Class;", sig := { parameters := [], returnType := some (.object "java/lang/Class") }, accessFlags := 273, code := none }
/-- java/lang/Object -/
def k0 : Class := { plain "java/lang/Object" none with
  accessFlags := 33
  interfaces := #[]
  cf := some (fileOf pool0 8 #[] #[{ accessFlags := 1, nameIndex := 5, descriptorIndex := 6, attributes := #[] }, { accessFlags := 273, nameIndex := 11, descriptorIndex := 12, attributes := #[] }] 33 0 #[] #[])
  fields := #[]
  methods := #[k0m0, k0m1]
  instanceTypes := #[]
  staticTypes := #[]
  resolved := Array.replicate 124 none
  statics := none }

def pool1 : Array CpInfo := pool [(2, .class_ 4), (0, .nameAndType 5 6), (0, u "java/lang/Object"), (0, u "<init>"), (0, u "()V"), (0, .integer 2147483647), (0, .class_ 9), (0, u "java/util/ArrayList"), (0, .methodref 8 3), (0, .methodref 12 13), (0, .class_ 14), (0, .nameAndType 15 16), (0, u "java/lang/Integer"), (0, u "valueOf"), (0, u "(I)Ljava/lang/Integer;"), (0, .methodref 8 18), (0, .nameAndType 19 20), (0, u "add"), (0, u "(Ljava/lang/Object;)Z"), (0, .class_ 22), (0, u "com/example/shiftweave/shiftweave/rostering/ShiftRequest"), (0, .methodref 21 24), (0, .nameAndType 5 25), (0, u "(IIII)V"), (0, .class_ 27), (0, u "com/example/shiftweave/shiftweave/rostering/Ward"), (0, .methodref 26 29), (0, .nameAndType 5 30), (0, u "(ILjava/util/List;Ljava/util/List;Ljava/util/List;Ljava/util/List;Ljava/util/List;)V"), (0, .class_ 32), (0, u "com/example/shiftweave/shiftweave/rostering/Penalties"), (0, .methodref 31 34), (0, .nameAndType 5 35), (0, u "(Lcom/example/shiftweave/shiftweave/rostering/Ward;)V"), (0, .methodref 31 37), (0, .nameAndType 38 39), (0, u "requests"), (0, u "(III)J"), (0, .class_ 41), (0, u "com/example/shiftweave/shiftweave/rostering/PenaltiesRequestsPinLaw"), (2, u "law"), (0, u "(IIII)Z")] 3

def k1m0 : Method := { name := "<init>", desc := "()V", sig := { parameters := [], returnType := none }, accessFlags := 2, code := none }
def k1c1 : Code := { maxStack := 8, maxLocals := 26, code := code, exceptionTable := #[], attributes := #[] }
def k1m1 : Method := { name := "law", desc := "(IIII)Z", sig := { parameters := [.int, .int, .int, .int], returnType := some .boolean }, accessFlags := 9, code := some k1c1 }
/-- com/example/shiftweave/shiftweave/rostering/PenaltiesRequestsPinLaw -/
def k1 : Class := { plain "com/example/shiftweave/shiftweave/rostering/PenaltiesRequestsPinLaw" (some 0) with
  accessFlags := 49
  interfaces := #[]
  cf := some (fileOf pool1 40 #[] #[{ accessFlags := 2, nameIndex := 5, descriptorIndex := 6, attributes := #[] }, { accessFlags := 9, nameIndex := 44, descriptorIndex := 45, attributes := #[] }] 49 2 #[] #[])
  fields := #[]
  methods := #[k1m0, k1m1]
  instanceTypes := #[]
  staticTypes := #[]
  resolved := Array.replicate 49 none
  statics := none }

def pool2 : Array CpInfo := pool [(8, .class_ 10), (1, u "java/lang/Iterable"), (24, .class_ 36), (0, u "java/lang/Object")] 25

/-- java/lang/Iterable -/
def k2 : Class := { plain "java/lang/Iterable" (some 0) with
  accessFlags := 1537
  interfaces := #[]
  cf := some (fileOf pool2 8 #[] #[] 1537 35 #[] #[])
  fields := #[]
  methods := #[]
  instanceTypes := #[]
  staticTypes := #[]
  resolved := Array.replicate 62 none
  statics := none }

def pool3 : Array CpInfo := pool [(10, .class_ 12), (1, u "java/util/Collection"), (0, u "toArray"), (16, u "()Z"), (29, .class_ 61), (0, u "java/lang/Object"), (0, .class_ 63), (0, u "java/lang/Iterable"), (2, u "isEmpty"), (3, u "()[Ljava/lang/Object;")] 44

def k3m0 : Method := { name := "isEmpty", desc := "()Z", sig := { parameters := [], returnType := some .boolean }, accessFlags := 1025, code := none }
def k3m1 : Method := { name := "toArray", desc := "()[Ljava/lang/Object;", sig := { parameters := [], returnType := some (.array (.object "java/lang/Object")) }, accessFlags := 1025, code := none }
/-- java/util/Collection -/
def k3 : Class := { plain "java/util/Collection" (some 0) with
  accessFlags := 1537
  interfaces := #[2]
  cf := some (fileOf pool3 10 #[] #[{ accessFlags := 1025, nameIndex := 66, descriptorIndex := 30, attributes := #[] }, { accessFlags := 1025, nameIndex := 13, descriptorIndex := 70, attributes := #[] }] 1537 60 #[62] #[])
  fields := #[]
  methods := #[k3m0, k3m1]
  instanceTypes := #[]
  staticTypes := #[]
  resolved := Array.replicate 115 none
  statics := none }

def pool4 : Array CpInfo := pool [(1, .methodref 2 3), (0, .class_ 4), (0, .nameAndType 5 6), (0, u "java/lang/Object"), (0, u "<init>"), (0, u "()V"), (1, .class_ 10), (1, u "java/util/AbstractCollection"), (0, u "size"), (0, u "()I"), (64, .class_ 78), (0, u "java/util/Collection")] 81

def k4c0 : Code := { maxStack := 1, maxLocals := 1, code := jdk_22_method_1_code, exceptionTable := #[], attributes := #[] }
def k4m0 : Method := { name := "<init>", desc := "()V", sig := { parameters := [], returnType := none }, accessFlags := 4, code := some k4c0 }
def k4m1 : Method := { name := "size", desc := "()I", sig := { parameters := [], returnType := some .int }, accessFlags := 1025, code := none }
/-- java/util/AbstractCollection -/
def k4 : Class := { plain "java/util/AbstractCollection" (some 0) with
  accessFlags := 1057
  interfaces := #[3]
  cf := some (fileOf pool4 8 #[] #[{ accessFlags := 4, nameIndex := 5, descriptorIndex := 6, attributes := #[] }, { accessFlags := 1025, nameIndex := 11, descriptorIndex := 12, attributes := #[] }] 1057 2 #[77] #[])
  fields := #[]
  methods := #[k4m0, k4m1]
  instanceTypes := #[]
  staticTypes := #[]
  resolved := Array.replicate 160 none
  statics := none }

def pool5 : Array CpInfo := pool [(8, .class_ 10), (1, u "java/util/SequencedCollection"), (15, .class_ 27), (0, u "java/lang/Object"), (0, .class_ 29), (0, u "java/util/Collection")] 27

/-- java/util/SequencedCollection -/
def k5 : Class := { plain "java/util/SequencedCollection" (some 0) with
  accessFlags := 1537
  interfaces := #[3]
  cf := some (fileOf pool5 8 #[] #[] 1537 26 #[28] #[])
  fields := #[]
  methods := #[]
  instanceTypes := #[]
  staticTypes := #[]
  resolved := Array.replicate 57 none
  statics := none }

def pool6 : Array CpInfo := pool [(8, .class_ 10), (1, u "java/util/List"), (20, u "(Ljava/lang/Object;)V"), (16, u "<init>"), (26, u "get"), (0, u "(I)Ljava/lang/Object;"), (2, u "size"), (0, u "()I"), (7, u "of"), (1, .fieldref 91 92), (0, .class_ 93), (0, .nameAndType 94 95), (0, u "java/util/ImmutableCollections"), (0, u "EMPTY_LIST"), (0, u "Ljava/util/ImmutableCollections$ListN;"), (0, .class_ 97), (0, u "java/util/ImmutableCollections$List12"), (0, .methodref 96 99), (0, .nameAndType 48 31), (0, .methodref 96 101), (0, .nameAndType 48 102), (0, u "(Ljava/lang/Object;Ljava/lang/Object;)V"), (0, .class_ 104), (0, u "java/lang/Object"), (3, u "([Ljava/lang/Object;)Ljava/util/List;"), (3, .methodref 91 113), (0, .nameAndType 114 115), (0, u "listCopy"), (0, u "(Ljava/util/Collection;)Ljava/util/List;"), (3, u "()Ljava/util/List;"), (0, .class_ 121), (0, u "java/util/SequencedCollection"), (1, u "iterator"), (0, u "()Ljava/util/Iterator;"), (109, u "copyOf")] 16

def k6m0 : Method := { name := "size", desc := "()I", sig := { parameters := [], returnType := some .int }, accessFlags := 1025, code := none }
def k6m1 : Method := { name := "iterator", desc := "()Ljava/util/Iterator;", sig := { parameters := [], returnType := some (.object "java/util/Iterator") }, accessFlags := 1025, code := none }
def k6m2 : Method := { name := "get", desc := "(I)Ljava/lang/Object;", sig := { parameters := [.int], returnType := some (.object "java/lang/Object") }, accessFlags := 1025, code := none }
def k6c3 : Code := { maxStack := 1, maxLocals := 0, code := jdk_40_method_36_code, exceptionTable := #[], attributes := #[] }
def k6m3 : Method := { name := "of", desc := "()Ljava/util/List;", sig := { parameters := [], returnType := some (.object "java/util/List") }, accessFlags := 9, code := some k6c3 }
def k6c4 : Code := { maxStack := 5, maxLocals := 2, code := jdk_40_method_47_code, exceptionTable := #[], attributes := #[] }
def k6m4 : Method := { name := "of", desc := "([Ljava/lang/Object;)Ljava/util/List;", sig := { parameters := [(.array (.object "java/lang/Object"))], returnType := some (.object "java/util/List") }, accessFlags := 137, code := some k6c4 }
def k6c5 : Code := { maxStack := 1, maxLocals := 1, code := jdk_40_method_48_code, exceptionTable := #[], attributes := #[] }
def k6m5 : Method := { name := "copyOf", desc := "(Ljava/util/Collection;)Ljava/util/List;", sig := { parameters := [(.object "java/util/Collection")], returnType := some (.object "java/util/List") }, accessFlags := 9, code := some k6c5 }
/-- java/util/List -/
def k6 : Class := { plain "java/util/List" (some 0) with
  accessFlags := 1537
  interfaces := #[5]
  cf := some (fileOf pool6 8 #[] #[{ accessFlags := 1025, nameIndex := 79, descriptorIndex := 80, attributes := #[] }, { accessFlags := 1025, nameIndex := 123, descriptorIndex := 124, attributes := #[] }, { accessFlags := 1025, nameIndex := 75, descriptorIndex := 76, attributes := #[] }, { accessFlags := 9, nameIndex := 88, descriptorIndex := 119, attributes := #[] }, { accessFlags := 137, nameIndex := 88, descriptorIndex := 108, attributes := #[] }, { accessFlags := 9, nameIndex := 234, descriptorIndex := 115, attributes := #[] }] 1537 103 #[120] #[])
  fields := #[]
  methods := #[k6m0, k6m1, k6m2, k6m3, k6m4, k6m5]
  instanceTypes := #[]
  staticTypes := #[]
  resolved := Array.replicate 251 none
  statics := none }

def pool7 : Array CpInfo := pool [(1, .methodref 2 3), (0, .class_ 4), (0, .nameAndType 5 6), (0, u "java/util/AbstractCollection"), (0, u "<init>"), (0, u "()V"), (0, .fieldref 8 9), (0, .class_ 10), (0, .nameAndType 11 12), (0, u "java/util/AbstractList"), (0, u "modCount"), (0, u "I"), (64, .class_ 78), (0, u "java/util/AbstractList$Itr"), (3, .class_ 83), (0, u "java/util/AbstractList$ListItr"), (9, .class_ 94), (0, u "java/util/AbstractList$RandomAccessSubList"), (3, .class_ 99), (0, u "java/util/AbstractList$SubList"), (33, .class_ 134), (0, u "java/util/List"), (73, .class_ 209), (0, u "java/util/AbstractList$SubList$1"), (0, .class_ 211), (0, u "java/util/AbstractList$RandomAccessSpliterator")] 6

def k7c0 : Code := { maxStack := 2, maxLocals := 1, code := jdk_39_method_1_code, exceptionTable := #[], attributes := #[] }
def k7m0 : Method := { name := "<init>", desc := "()V", sig := { parameters := [], returnType := none }, accessFlags := 4, code := some k7c0 }
/-- java/util/AbstractList -/
def k7 : Class := { plain "java/util/AbstractList" (some 4) with
  accessFlags := 1057
  interfaces := #[6]
  cf := some (fileOf pool7 8 #[.nestMembers #[93, 98, 208, 210, 82, 77]] #[{ accessFlags := 4, nameIndex := 5, descriptorIndex := 6, attributes := #[] }] 1057 2 #[133] #[{ accessFlags := 132, nameIndex := 11, descriptorIndex := 12, attributes := #[] }])
  fields := #[{ name := "modCount", type := .int, accessFlags := 132, slot := 0, constantValue := 0 }]
  methods := #[k7m0]
  instanceTypes := #[.int]
  staticTypes := #[]
  resolved := Array.replicate 218 none
  statics := none }

def pool8 : Array CpInfo := pool [(1, .class_ 2), (0, u "java/util/RandomAccess"), (0, .class_ 4), (0, u "java/lang/Object")] 2

/-- java/util/RandomAccess -/
def k8 : Class := { plain "java/util/RandomAccess" (some 0) with
  accessFlags := 1537
  interfaces := #[]
  cf := some (fileOf pool8 1 #[] #[] 1537 3 #[] #[])
  fields := #[]
  methods := #[]
  instanceTypes := #[]
  staticTypes := #[]
  resolved := Array.replicate 7 none
  statics := none }

def pool9 : Array CpInfo := pool [(1, .class_ 2), (0, u "java/lang/Cloneable"), (0, .class_ 4), (0, u "java/lang/Object")] 2

/-- java/lang/Cloneable -/
def k9 : Class := { plain "java/lang/Cloneable" (some 0) with
  accessFlags := 1537
  interfaces := #[]
  cf := some (fileOf pool9 1 #[] #[] 1537 3 #[] #[])
  fields := #[]
  methods := #[]
  instanceTypes := #[]
  staticTypes := #[]
  resolved := Array.replicate 7 none
  statics := none }

def pool10 : Array CpInfo := pool [(1, .class_ 2), (0, u "java/io/Serializable"), (0, .class_ 4), (0, u "java/lang/Object")] 2

/-- java/io/Serializable -/
def k10 : Class := { plain "java/io/Serializable" (some 0) with
  accessFlags := 1537
  interfaces := #[]
  cf := some (fileOf pool10 1 #[] #[] 1537 3 #[] #[])
  fields := #[]
  methods := #[]
  instanceTypes := #[]
  staticTypes := #[]
  resolved := Array.replicate 7 none
  statics := none }

def pool11 : Array CpInfo := pool [(1, .methodref 2 3), (0, .class_ 4), (0, .nameAndType 5 6), (0, u "java/util/AbstractList"), (0, u "<init>"), (0, u "()V"), (0, .class_ 8), (0, u "java/lang/Object"), (0, .fieldref 10 11), (0, .class_ 12), (0, .nameAndType 13 14), (0, u "java/util/ArrayList"), (0, u "elementData"), (0, u "[Ljava/lang/Object;"), (2, u "EMPTY_ELEMENTDATA"), (21, .fieldref 10 40), (0, .nameAndType 41 14), (0, u "DEFAULTCAPACITY_EMPTY_ELEMENTDATA"), (4, u "toArray"), (0, u "()[Ljava/lang/Object;"), (0, .fieldref 10 49), (0, .nameAndType 50 51), (0, u "size"), (0, u "I"), (6, .class_ 60), (1, u "java/util/Arrays"), (0, u "copyOf"), (1, .fieldref 10 64), (0, .nameAndType 65 51), (0, u "modCount"), (0, .methodref 58 67), (0, .nameAndType 61 68), (0, u "([Ljava/lang/Object;I)[Ljava/lang/Object;"), (0, .methodref 10 70), (0, .nameAndType 71 72), (0, u "grow"), (0, u "(I)[Ljava/lang/Object;"), (6, .methodref 80 81), (0, .class_ 82), (0, .nameAndType 83 84), (0, u "java/lang/Math"), (0, u "max"), (0, u "(II)I"), (11, u "(Ljava/lang/Object;)Z"), (32, .methodref 10 130), (0, .nameAndType 71 47), (0, .methodref 10 132), (0, .nameAndType 133 134), (0, u "add"), (0, u "(Ljava/lang/Object;[Ljava/lang/Object;I)V"), (13, .class_ 149), (0, u "java/util/List"), (23, u "()Z"), (88, .class_ 263), (0, u "java/util/ArrayList$ListItr"), (3, .class_ 268), (0, u "java/util/ArrayList$Itr"), (7, .class_ 277), (0, u "java/util/ArrayList$SubList"), (12, .class_ 291), (0, u "java/util/ArrayList$ArrayListSpliterator"), (37, .class_ 330), (0, u "java/util/RandomAccess"), (0, .class_ 332), (0, u "java/lang/Cloneable"), (0, .class_ 334), (0, u "java/io/Serializable"), (0, u "serialVersionUID"), (0, u "J"), (3, u "DEFAULT_CAPACITY"), (22, u "isEmpty"), (136, .class_ 501), (0, u "java/util/ArrayList$SubList$2"), (0, .class_ 503), (0, u "java/util/ArrayList$SubList$1")] 5

def k11c0 : Code := { maxStack := 2, maxLocals := 1, code := jdk_38_method_2_code, exceptionTable := #[], attributes := #[] }
def k11m0 : Method := { name := "<init>", desc := "()V", sig := { parameters := [], returnType := none }, accessFlags := 1, code := some k11c0 }
def k11c1 : Code := { maxStack := 4, maxLocals := 4, code := jdk_38_method_6_code, exceptionTable := #[], attributes := #[] }
def k11m1 : Method := { name := "grow", desc := "(I)[Ljava/lang/Object;", sig := { parameters := [.int], returnType := some (.array (.object "java/lang/Object")) }, accessFlags := 2, code := some k11c1 }
def k11c2 : Code := { maxStack := 3, maxLocals := 1, code := jdk_38_method_7_code, exceptionTable := #[], attributes := #[] }
def k11m2 : Method := { name := "grow", desc := "()[Ljava/lang/Object;", sig := { parameters := [], returnType := some (.array (.object "java/lang/Object")) }, accessFlags := 2, code := some k11c2 }
def k11c3 : Code := { maxStack := 1, maxLocals := 1, code := jdk_38_method_9_code, exceptionTable := #[], attributes := #[] }
def k11m3 : Method := { name := "isEmpty", desc := "()Z", sig := { parameters := [], returnType := some .boolean }, accessFlags := 1, code := some k11c3 }
def k11c4 : Code := { maxStack := 2, maxLocals := 1, code := jdk_38_method_16_code, exceptionTable := #[], attributes := #[] }
def k11m4 : Method := { name := "toArray", desc := "()[Ljava/lang/Object;", sig := { parameters := [], returnType := some (.array (.object "java/lang/Object")) }, accessFlags := 1, code := some k11c4 }
def k11c5 : Code := { maxStack := 3, maxLocals := 4, code := jdk_38_method_24_code, exceptionTable := #[], attributes := #[] }
def k11m5 : Method := { name := "add", desc := "(Ljava/lang/Object;[Ljava/lang/Object;I)V", sig := { parameters := [(.object "java/lang/Object"), (.array (.object "java/lang/Object")), .int], returnType := none }, accessFlags := 2, code := some k11c5 }
def k11c6 : Code := { maxStack := 4, maxLocals := 2, code := jdk_38_method_25_code, exceptionTable := #[], attributes := #[] }
def k11m6 : Method := { name := "add", desc := "(Ljava/lang/Object;)Z", sig := { parameters := [(.object "java/lang/Object")], returnType := some .boolean }, accessFlags := 1, code := some k11c6 }
/-- java/util/ArrayList -/
def k11 : Class := { plain "java/util/ArrayList" (some 7) with
  accessFlags := 33
  interfaces := #[6, 8, 9, 10]
  cf := some (fileOf pool11 10 #[.nestMembers #[290, 276, 500, 502, 262, 267]] #[{ accessFlags := 1, nameIndex := 5, descriptorIndex := 6, attributes := #[] }, { accessFlags := 2, nameIndex := 71, descriptorIndex := 72, attributes := #[] }, { accessFlags := 2, nameIndex := 71, descriptorIndex := 47, attributes := #[] }, { accessFlags := 1, nameIndex := 363, descriptorIndex := 173, attributes := #[] }, { accessFlags := 1, nameIndex := 46, descriptorIndex := 47, attributes := #[] }, { accessFlags := 2, nameIndex := 133, descriptorIndex := 134, attributes := #[] }, { accessFlags := 1, nameIndex := 133, descriptorIndex := 96, attributes := #[] }] 33 2 #[148, 329, 331, 333] #[{ accessFlags := 26, nameIndex := 335, descriptorIndex := 336, attributes := #[] }, { accessFlags := 26, nameIndex := 340, descriptorIndex := 51, attributes := #[] }, { accessFlags := 26, nameIndex := 17, descriptorIndex := 14, attributes := #[] }, { accessFlags := 26, nameIndex := 41, descriptorIndex := 14, attributes := #[] }, { accessFlags := 128, nameIndex := 13, descriptorIndex := 14, attributes := #[] }, { accessFlags := 2, nameIndex := 50, descriptorIndex := 51, attributes := #[] }])
  fields := #[{ name := "serialVersionUID", type := .long, accessFlags := 26, slot := 0, constantValue := 0 }, { name := "DEFAULT_CAPACITY", type := .int, accessFlags := 26, slot := 1, constantValue := 0 }, { name := "EMPTY_ELEMENTDATA", type := (.array (.object "java/lang/Object")), accessFlags := 26, slot := 2, constantValue := 0 }, { name := "DEFAULTCAPACITY_EMPTY_ELEMENTDATA", type := (.array (.object "java/lang/Object")), accessFlags := 26, slot := 3, constantValue := 0 }, { name := "elementData", type := (.array (.object "java/lang/Object")), accessFlags := 128, slot := 1, constantValue := 0 }, { name := "size", type := .int, accessFlags := 2, slot := 2, constantValue := 0 }]
  methods := #[k11m0, k11m1, k11m2, k11m3, k11m4, k11m5, k11m6]
  instanceTypes := #[.int, (.array (.object "java/lang/Object")), .int]
  staticTypes := #[.long, .int, (.array (.object "java/lang/Object")), (.array (.object "java/lang/Object"))]
  resolved := Array.replicate 509 none
  statics := some 0 }

def pool12 : Array CpInfo := pool [(2, .class_ 4), (1, u "java/lang/Object"), (0, u "<init>"), (0, u "()V"), (1, .class_ 10), (1, u "java/lang/Number"), (2, .class_ 14), (0, u "java/io/Serializable"), (0, u "serialVersionUID"), (0, u "J")] 20

def k12m0 : Method := { name := "<init>", desc := "()V", sig := { parameters := [], returnType := none }, accessFlags := 1, code := none }
/-- java/lang/Number -/
def k12 : Class := { plain "java/lang/Number" (some 0) with
  accessFlags := 1057
  interfaces := #[10]
  cf := some (fileOf pool12 8 #[] #[{ accessFlags := 1, nameIndex := 5, descriptorIndex := 6, attributes := #[] }] 1057 2 #[13] #[{ accessFlags := 26, nameIndex := 15, descriptorIndex := 16, attributes := #[] }])
  fields := #[{ name := "serialVersionUID", type := .long, accessFlags := 26, slot := 0, constantValue := 0 }]
  methods := #[k12m0]
  instanceTypes := #[]
  staticTypes := #[.long]
  resolved := Array.replicate 37 none
  statics := none }

def pool13 : Array CpInfo := pool [(1, .class_ 2), (0, u "java/lang/Comparable"), (0, .class_ 4), (0, u "java/lang/Object")] 7

/-- java/lang/Comparable -/
def k13 : Class := { plain "java/lang/Comparable" (some 0) with
  accessFlags := 1537
  interfaces := #[]
  cf := some (fileOf pool13 1 #[] #[] 1537 3 #[] #[])
  fields := #[]
  methods := #[]
  instanceTypes := #[]
  staticTypes := #[]
  resolved := Array.replicate 12 none
  statics := none }

def pool14 : Array CpInfo := pool [(1, .class_ 2), (0, u "java/lang/constant/Constable"), (0, .class_ 4), (0, u "java/lang/Object")] 6

/-- java/lang/constant/Constable -/
def k14 : Class := { plain "java/lang/constant/Constable" (some 0) with
  accessFlags := 1537
  interfaces := #[]
  cf := some (fileOf pool14 1 #[] #[] 1537 3 #[] #[])
  fields := #[]
  methods := #[]
  instanceTypes := #[]
  staticTypes := #[]
  resolved := Array.replicate 11 none
  statics := none }

def pool15 : Array CpInfo := pool [(1, .class_ 2), (0, u "java/lang/constant/ConstantDesc"), (0, .class_ 4), (0, u "java/lang/Object")] 32

/-- java/lang/constant/ConstantDesc -/
def k15 : Class := { plain "java/lang/constant/ConstantDesc" (some 0) with
  accessFlags := 1537
  interfaces := #[]
  cf := some (fileOf pool15 1 #[] #[] 1537 3 #[] #[])
  fields := #[]
  methods := #[]
  instanceTypes := #[]
  staticTypes := #[]
  resolved := Array.replicate 37 none
  statics := none }

def pool16 : Array CpInfo := pool [(1, .class_ 2), (0, u "java/lang/Integer"), (16, u "digits"), (0, u "[C"), (64, u "DigitOnes"), (0, u "[B"), (2, u "DigitTens"), (97, u "valueOf"), (0, u "(I)Ljava/lang/Integer;"), (0, .class_ 190), (0, u "java/lang/Integer$IntegerCache"), (0, .fieldref 189 192), (0, .nameAndType 193 194), (0, u "high"), (0, u "I"), (0, .fieldref 189 196), (0, .nameAndType 197 198), (0, u "cache"), (0, u "[Ljava/lang/Integer;"), (4, .class_ 204), (0, u "java/lang/Number"), (2, u "value"), (94, u "TYPE"), (0, u "Ljava/lang/Class;"), (0, .class_ 305), (0, u "java/lang/Comparable"), (0, .class_ 307), (0, u "java/lang/constant/Constable"), (0, .class_ 309), (0, u "java/lang/constant/ConstantDesc"), (0, u "MIN_VALUE"), (1, u "MAX_VALUE"), (3, u "SIZE"), (1, u "BYTES"), (1, u "serialVersionUID"), (0, u "J")] 131

def k16c0 : Code := { maxStack := 3, maxLocals := 1, code := jdk_33_method_22_code, exceptionTable := #[], attributes := #[] }
def k16m0 : Method := { name := "valueOf", desc := "(I)Ljava/lang/Integer;", sig := { parameters := [.int], returnType := some (.object "java/lang/Integer") }, accessFlags := 9, code := some k16c0 }
/-- java/lang/Integer -/
def k16 : Class := { plain "java/lang/Integer" (some 12) with
  accessFlags := 49
  interfaces := #[13, 14, 15]
  cf := some (fileOf pool16 1 #[.nestMembers #[189]] #[{ accessFlags := 9, nameIndex := 187, descriptorIndex := 188, attributes := #[] }] 49 203 #[304, 306, 308] #[{ accessFlags := 25, nameIndex := 310, descriptorIndex := 194, attributes := #[] }, { accessFlags := 25, nameIndex := 312, descriptorIndex := 194, attributes := #[] }, { accessFlags := 25, nameIndex := 302, descriptorIndex := 303, attributes := #[] }, { accessFlags := 24, nameIndex := 19, descriptorIndex := 20, attributes := #[] }, { accessFlags := 24, nameIndex := 89, descriptorIndex := 86, attributes := #[] }, { accessFlags := 24, nameIndex := 85, descriptorIndex := 86, attributes := #[] }, { accessFlags := 18, nameIndex := 207, descriptorIndex := 194, attributes := #[] }, { accessFlags := 25, nameIndex := 316, descriptorIndex := 194, attributes := #[] }, { accessFlags := 25, nameIndex := 318, descriptorIndex := 194, attributes := #[] }, { accessFlags := 26, nameIndex := 320, descriptorIndex := 321, attributes := #[] }])
  fields := #[{ name := "MIN_VALUE", type := .int, accessFlags := 25, slot := 0, constantValue := 0 }, { name := "MAX_VALUE", type := .int, accessFlags := 25, slot := 1, constantValue := 0 }, { name := "TYPE", type := (.object "java/lang/Class"), accessFlags := 25, slot := 2, constantValue := 0 }, { name := "digits", type := (.array .char), accessFlags := 24, slot := 3, constantValue := 0 }, { name := "DigitTens", type := (.array .byte), accessFlags := 24, slot := 4, constantValue := 0 }, { name := "DigitOnes", type := (.array .byte), accessFlags := 24, slot := 5, constantValue := 0 }, { name := "value", type := .int, accessFlags := 18, slot := 0, constantValue := 0 }, { name := "SIZE", type := .int, accessFlags := 25, slot := 6, constantValue := 0 }, { name := "BYTES", type := .int, accessFlags := 25, slot := 7, constantValue := 0 }, { name := "serialVersionUID", type := .long, accessFlags := 26, slot := 8, constantValue := 0 }]
  methods := #[k16m0]
  instanceTypes := #[.int]
  staticTypes := #[.int, .int, (.object "java/lang/Class"), (.array .char), (.array .byte), (.array .byte), .int, .int, .long]
  resolved := Array.replicate 453 none
  statics := none }

def pool17 : Array CpInfo := pool [(2, .class_ 4), (1, u "java/lang/Object"), (0, u "<init>"), (0, u "()V"), (0, .class_ 8), (0, u "java/lang/Integer"), (7, .class_ 18), (1, u "java/lang/Integer$IntegerCache"), (0, u "$assertionsDisabled"), (0, u "Z"), (26, u "high"), (0, u "I"), (8, u "archivedCache"), (0, u "[Ljava/lang/Integer;"), (12, u "cache"), (0, u "low")] 27

def k17m0 : Method := { name := "<init>", desc := "()V", sig := { parameters := [], returnType := none }, accessFlags := 2, code := none }
/-- java/lang/Integer$IntegerCache -/
def k17 : Class := { plain "java/lang/Integer$IntegerCache" (some 0) with
  accessFlags := 48
  interfaces := #[]
  cf := some (fileOf pool17 16 #[.nestHost 7] #[{ accessFlags := 2, nameIndex := 5, descriptorIndex := 6, attributes := #[] }] 48 2 #[] #[{ accessFlags := 24, nameIndex := 72, descriptorIndex := 48, attributes := #[] }, { accessFlags := 24, nameIndex := 47, descriptorIndex := 48, attributes := #[] }, { accessFlags := 24, nameIndex := 71, descriptorIndex := 58, attributes := #[] }, { accessFlags := 8, nameIndex := 57, descriptorIndex := 58, attributes := #[] }, { accessFlags := 4120, nameIndex := 19, descriptorIndex := 20, attributes := #[] }])
  fields := #[{ name := "low", type := .int, accessFlags := 24, slot := 0, constantValue := 0 }, { name := "high", type := .int, accessFlags := 24, slot := 1, constantValue := 0 }, { name := "cache", type := (.array (.object "java/lang/Integer")), accessFlags := 24, slot := 2, constantValue := 0 }, { name := "archivedCache", type := (.array (.object "java/lang/Integer")), accessFlags := 8, slot := 3, constantValue := 0 }, { name := "$assertionsDisabled", type := .boolean, accessFlags := 4120, slot := 4, constantValue := 0 }]
  methods := #[k17m0]
  instanceTypes := #[]
  staticTypes := #[.int, .int, (.array (.object "java/lang/Integer")), (.array (.object "java/lang/Integer")), .boolean]
  resolved := Array.replicate 100 none
  statics := some 1 }

def pool18 : Array CpInfo := pool [(1, .class_ 2), (0, u "java/lang/Math"), (1, .class_ 6), (1, u "java/lang/Object"), (0, u "<init>"), (0, u "()V"), (89, .class_ 100), (1, u "java/lang/Math$RandomNumberGeneratorHolder"), (20, u "(JJ)J"), (50, u "negativeZeroFloatBits"), (0, u "J"), (2, u "negativeZeroDoubleBits"), (21, u "max"), (2, u "min"), (43, u "$assertionsDisabled"), (0, u "Z"), (88, u "(II)I"), (2, u "twoToTheDoubleScaleDown"), (0, u "D"), (4, u "twoToTheDoubleScaleUp"), (9, u "E"), (3, u "PI"), (2, u "TAU"), (2, u "DEGREES_TO_RADIANS"), (0, u "RADIANS_TO_DEGREES")] 94

def k18m0 : Method := { name := "<init>", desc := "()V", sig := { parameters := [], returnType := none }, accessFlags := 2, code := none }
def k18c1 : Code := { maxStack := 2, maxLocals := 2, code := jdk_29_method_65_code, exceptionTable := #[], attributes := #[] }
def k18m1 : Method := { name := "max", desc := "(II)I", sig := { parameters := [.int, .int], returnType := some .int }, accessFlags := 9, code := some k18c1 }
def k18c2 : Code := { maxStack := 4, maxLocals := 4, code := jdk_29_method_66_code, exceptionTable := #[], attributes := #[] }
def k18m2 : Method := { name := "max", desc := "(JJ)J", sig := { parameters := [.long, .long], returnType := some .long }, accessFlags := 9, code := some k18c2 }
def k18c3 : Code := { maxStack := 2, maxLocals := 2, code := jdk_29_method_69_code, exceptionTable := #[], attributes := #[] }
def k18m3 : Method := { name := "min", desc := "(II)I", sig := { parameters := [.int, .int], returnType := some .int }, accessFlags := 9, code := some k18c3 }
/-- java/lang/Math -/
def k18 : Class := { plain "java/lang/Math" (some 0) with
  accessFlags := 49
  interfaces := #[]
  cf := some (fileOf pool18 1 #[.nestMembers #[98]] #[{ accessFlags := 2, nameIndex := 7, descriptorIndex := 8, attributes := #[] }, { accessFlags := 9, nameIndex := 198, descriptorIndex := 335, attributes := #[] }, { accessFlags := 9, nameIndex := 198, descriptorIndex := 121, attributes := #[] }, { accessFlags := 9, nameIndex := 201, descriptorIndex := 335, attributes := #[] }] 49 4 #[] #[{ accessFlags := 25, nameIndex := 354, descriptorIndex := 339, attributes := #[] }, { accessFlags := 25, nameIndex := 358, descriptorIndex := 339, attributes := #[] }, { accessFlags := 25, nameIndex := 361, descriptorIndex := 339, attributes := #[] }, { accessFlags := 26, nameIndex := 364, descriptorIndex := 339, attributes := #[] }, { accessFlags := 26, nameIndex := 365, descriptorIndex := 339, attributes := #[] }, { accessFlags := 26, nameIndex := 172, descriptorIndex := 173, attributes := #[] }, { accessFlags := 26, nameIndex := 176, descriptorIndex := 173, attributes := #[] }, { accessFlags := 8, nameIndex := 344, descriptorIndex := 339, attributes := #[] }, { accessFlags := 8, nameIndex := 338, descriptorIndex := 339, attributes := #[] }, { accessFlags := 4120, nameIndex := 245, descriptorIndex := 246, attributes := #[] }])
  fields := #[{ name := "E", type := .double, accessFlags := 25, slot := 0, constantValue := 0 }, { name := "PI", type := .double, accessFlags := 25, slot := 1, constantValue := 0 }, { name := "TAU", type := .double, accessFlags := 25, slot := 2, constantValue := 0 }, { name := "DEGREES_TO_RADIANS", type := .double, accessFlags := 26, slot := 3, constantValue := 0 }, { name := "RADIANS_TO_DEGREES", type := .double, accessFlags := 26, slot := 4, constantValue := 0 }, { name := "negativeZeroFloatBits", type := .long, accessFlags := 26, slot := 5, constantValue := 0 }, { name := "negativeZeroDoubleBits", type := .long, accessFlags := 26, slot := 6, constantValue := 0 }, { name := "twoToTheDoubleScaleUp", type := .double, accessFlags := 8, slot := 7, constantValue := 0 }, { name := "twoToTheDoubleScaleDown", type := .double, accessFlags := 8, slot := 8, constantValue := 0 }, { name := "$assertionsDisabled", type := .boolean, accessFlags := 4120, slot := 9, constantValue := 0 }]
  methods := #[k18m0, k18m1, k18m2, k18m3]
  instanceTypes := #[]
  staticTypes := #[.double, .double, .double, .double, .double, .long, .long, .double, .double, .boolean]
  resolved := Array.replicate 460 none
  statics := none }

def pool19 : Array CpInfo := pool [(1, .methodref 2 3), (0, .class_ 4), (0, .nameAndType 5 6), (0, u "java/lang/Object"), (0, u "<init>"), (0, u "()V"), (0, .class_ 8), (0, u "java/lang/Record")] 13

def k19c0 : Code := { maxStack := 1, maxLocals := 1, code := jdk_30_method_1_code, exceptionTable := #[], attributes := #[] }
def k19m0 : Method := { name := "<init>", desc := "()V", sig := { parameters := [], returnType := none }, accessFlags := 4, code := some k19c0 }
/-- java/lang/Record -/
def k19 : Class := { plain "java/lang/Record" (some 0) with
  accessFlags := 1057
  interfaces := #[]
  cf := some (fileOf pool19 7 #[] #[{ accessFlags := 4, nameIndex := 5, descriptorIndex := 6, attributes := #[] }] 1057 2 #[] #[])
  fields := #[]
  methods := #[k19m0]
  instanceTypes := #[]
  staticTypes := #[]
  resolved := Array.replicate 22 none
  statics := none }

def pool20 : Array CpInfo := pool [(1, .methodref 2 3), (0, .class_ 4), (0, .nameAndType 5 6), (0, u "java/lang/Record"), (0, u "<init>"), (0, u "()V"), (0, .fieldref 8 9), (0, .class_ 10), (0, .nameAndType 11 12), (0, u "com/example/shiftweave/shiftweave/rostering/ShiftRequest"), (0, u "staff"), (0, u "I"), (0, .fieldref 8 14), (0, .nameAndType 15 12), (0, u "day"), (0, .fieldref 8 17), (0, .nameAndType 18 12), (0, u "shift"), (0, .fieldref 8 20), (0, .nameAndType 21 12), (0, u "weight"), (12, u "(IIII)V"), (4, u "()I")] 24

def k20c0 : Code := { maxStack := 2, maxLocals := 5, code := prog_77_method_1_code, exceptionTable := #[], attributes := #[] }
def k20m0 : Method := { name := "<init>", desc := "(IIII)V", sig := { parameters := [.int, .int, .int, .int], returnType := none }, accessFlags := 1, code := some k20c0 }
def k20c1 : Code := { maxStack := 1, maxLocals := 1, code := prog_77_method_5_code, exceptionTable := #[], attributes := #[] }
def k20m1 : Method := { name := "staff", desc := "()I", sig := { parameters := [], returnType := some .int }, accessFlags := 1, code := some k20c1 }
def k20c2 : Code := { maxStack := 1, maxLocals := 1, code := prog_77_method_6_code, exceptionTable := #[], attributes := #[] }
def k20m2 : Method := { name := "day", desc := "()I", sig := { parameters := [], returnType := some .int }, accessFlags := 1, code := some k20c2 }
def k20c3 : Code := { maxStack := 1, maxLocals := 1, code := prog_77_method_7_code, exceptionTable := #[], attributes := #[] }
def k20m3 : Method := { name := "shift", desc := "()I", sig := { parameters := [], returnType := some .int }, accessFlags := 1, code := some k20c3 }
def k20c4 : Code := { maxStack := 1, maxLocals := 1, code := prog_77_method_8_code, exceptionTable := #[], attributes := #[] }
def k20m4 : Method := { name := "weight", desc := "()I", sig := { parameters := [], returnType := some .int }, accessFlags := 1, code := some k20c4 }
/-- com/example/shiftweave/shiftweave/rostering/ShiftRequest -/
def k20 : Class := { plain "com/example/shiftweave/shiftweave/rostering/ShiftRequest" (some 19) with
  accessFlags := 49
  interfaces := #[]
  cf := some (fileOf pool20 8 #[] #[{ accessFlags := 1, nameIndex := 5, descriptorIndex := 34, attributes := #[] }, { accessFlags := 1, nameIndex := 11, descriptorIndex := 39, attributes := #[] }, { accessFlags := 1, nameIndex := 15, descriptorIndex := 39, attributes := #[] }, { accessFlags := 1, nameIndex := 18, descriptorIndex := 39, attributes := #[] }, { accessFlags := 1, nameIndex := 21, descriptorIndex := 39, attributes := #[] }] 49 2 #[] #[{ accessFlags := 18, nameIndex := 11, descriptorIndex := 12, attributes := #[] }, { accessFlags := 18, nameIndex := 15, descriptorIndex := 12, attributes := #[] }, { accessFlags := 18, nameIndex := 18, descriptorIndex := 12, attributes := #[] }, { accessFlags := 18, nameIndex := 21, descriptorIndex := 12, attributes := #[] }])
  fields := #[{ name := "staff", type := .int, accessFlags := 18, slot := 0, constantValue := 0 }, { name := "day", type := .int, accessFlags := 18, slot := 1, constantValue := 0 }, { name := "shift", type := .int, accessFlags := 18, slot := 2, constantValue := 0 }, { name := "weight", type := .int, accessFlags := 18, slot := 3, constantValue := 0 }]
  methods := #[k20m0, k20m1, k20m2, k20m3, k20m4]
  instanceTypes := #[.int, .int, .int, .int]
  staticTypes := #[]
  resolved := Array.replicate 64 none
  statics := none }

def pool21 : Array CpInfo := pool [(1, .methodref 2 3), (0, .class_ 4), (0, .nameAndType 5 6), (0, u "java/lang/Record"), (0, u "<init>"), (0, u "()V"), (0, .interfaceMethodref 8 9), (0, .class_ 10), (0, .nameAndType 11 12), (0, u "java/util/List"), (0, u "copyOf"), (0, u "(Ljava/util/Collection;)Ljava/util/List;"), (0, .fieldref 14 15), (0, .class_ 16), (0, .nameAndType 17 18), (0, u "com/example/shiftweave/shiftweave/rostering/Ward"), (0, u "days"), (0, u "I"), (0, .fieldref 14 20), (0, .nameAndType 21 22), (0, u "shifts"), (0, u "Ljava/util/List;"), (0, .fieldref 14 24), (0, .nameAndType 25 22), (0, u "staff"), (0, .fieldref 14 27), (0, .nameAndType 28 22), (0, u "onRequests"), (0, .fieldref 14 30), (0, .nameAndType 31 22), (0, u "offRequests"), (0, .fieldref 14 33), (0, .nameAndType 34 22), (0, u "cover"), (32, u "WEEK"), (2, u "SATURDAY"), (1, u "(ILjava/util/List;Ljava/util/List;Ljava/util/List;Ljava/util/List;Ljava/util/List;)V"), (9, u "()I"), (2, u "()Ljava/util/List;")] 29

def k21c0 : Code := { maxStack := 2, maxLocals := 7, code := prog_83_method_1_code, exceptionTable := #[], attributes := #[] }
def k21m0 : Method := { name := "<init>", desc := "(ILjava/util/List;Ljava/util/List;Ljava/util/List;Ljava/util/List;Ljava/util/List;)V", sig := { parameters := [.int, (.object "java/util/List"), (.object "java/util/List"), (.object "java/util/List"), (.object "java/util/List"), (.object "java/util/List")], returnType := none }, accessFlags := 1, code := some k21c0 }
def k21c1 : Code := { maxStack := 1, maxLocals := 1, code := prog_83_method_7_code, exceptionTable := #[], attributes := #[] }
def k21m1 : Method := { name := "days", desc := "()I", sig := { parameters := [], returnType := some .int }, accessFlags := 1, code := some k21c1 }
def k21c2 : Code := { maxStack := 1, maxLocals := 1, code := prog_83_method_8_code, exceptionTable := #[], attributes := #[] }
def k21m2 : Method := { name := "shifts", desc := "()Ljava/util/List;", sig := { parameters := [], returnType := some (.object "java/util/List") }, accessFlags := 1, code := some k21c2 }
def k21c3 : Code := { maxStack := 1, maxLocals := 1, code := prog_83_method_9_code, exceptionTable := #[], attributes := #[] }
def k21m3 : Method := { name := "staff", desc := "()Ljava/util/List;", sig := { parameters := [], returnType := some (.object "java/util/List") }, accessFlags := 1, code := some k21c3 }
def k21c4 : Code := { maxStack := 1, maxLocals := 1, code := prog_83_method_10_code, exceptionTable := #[], attributes := #[] }
def k21m4 : Method := { name := "onRequests", desc := "()Ljava/util/List;", sig := { parameters := [], returnType := some (.object "java/util/List") }, accessFlags := 1, code := some k21c4 }
def k21c5 : Code := { maxStack := 1, maxLocals := 1, code := prog_83_method_11_code, exceptionTable := #[], attributes := #[] }
def k21m5 : Method := { name := "offRequests", desc := "()Ljava/util/List;", sig := { parameters := [], returnType := some (.object "java/util/List") }, accessFlags := 1, code := some k21c5 }
def k21c6 : Code := { maxStack := 1, maxLocals := 1, code := prog_83_method_12_code, exceptionTable := #[], attributes := #[] }
def k21m6 : Method := { name := "cover", desc := "()Ljava/util/List;", sig := { parameters := [], returnType := some (.object "java/util/List") }, accessFlags := 1, code := some k21c6 }
/-- com/example/shiftweave/shiftweave/rostering/Ward -/
def k21 : Class := { plain "com/example/shiftweave/shiftweave/rostering/Ward" (some 19) with
  accessFlags := 49
  interfaces := #[]
  cf := some (fileOf pool21 14 #[] #[{ accessFlags := 1, nameIndex := 5, descriptorIndex := 72, attributes := #[] }, { accessFlags := 1, nameIndex := 17, descriptorIndex := 82, attributes := #[] }, { accessFlags := 1, nameIndex := 21, descriptorIndex := 85, attributes := #[] }, { accessFlags := 1, nameIndex := 25, descriptorIndex := 85, attributes := #[] }, { accessFlags := 1, nameIndex := 28, descriptorIndex := 85, attributes := #[] }, { accessFlags := 1, nameIndex := 31, descriptorIndex := 85, attributes := #[] }, { accessFlags := 1, nameIndex := 34, descriptorIndex := 85, attributes := #[] }] 49 2 #[] #[{ accessFlags := 18, nameIndex := 17, descriptorIndex := 18, attributes := #[] }, { accessFlags := 18, nameIndex := 21, descriptorIndex := 22, attributes := #[] }, { accessFlags := 18, nameIndex := 25, descriptorIndex := 22, attributes := #[] }, { accessFlags := 18, nameIndex := 28, descriptorIndex := 22, attributes := #[] }, { accessFlags := 18, nameIndex := 31, descriptorIndex := 22, attributes := #[] }, { accessFlags := 18, nameIndex := 34, descriptorIndex := 22, attributes := #[] }, { accessFlags := 25, nameIndex := 67, descriptorIndex := 18, attributes := #[] }, { accessFlags := 25, nameIndex := 70, descriptorIndex := 18, attributes := #[] }])
  fields := #[{ name := "days", type := .int, accessFlags := 18, slot := 0, constantValue := 0 }, { name := "shifts", type := (.object "java/util/List"), accessFlags := 18, slot := 1, constantValue := 0 }, { name := "staff", type := (.object "java/util/List"), accessFlags := 18, slot := 2, constantValue := 0 }, { name := "onRequests", type := (.object "java/util/List"), accessFlags := 18, slot := 3, constantValue := 0 }, { name := "offRequests", type := (.object "java/util/List"), accessFlags := 18, slot := 4, constantValue := 0 }, { name := "cover", type := (.object "java/util/List"), accessFlags := 18, slot := 5, constantValue := 0 }, { name := "WEEK", type := .int, accessFlags := 25, slot := 0, constantValue := 0 }, { name := "SATURDAY", type := .int, accessFlags := 25, slot := 1, constantValue := 0 }]
  methods := #[k21m0, k21m1, k21m2, k21m3, k21m4, k21m5, k21m6]
  instanceTypes := #[.int, (.object "java/util/List"), (.object "java/util/List"), (.object "java/util/List"), (.object "java/util/List"), (.object "java/util/List")]
  staticTypes := #[.int, .int]
  resolved := Array.replicate 115 none
  statics := none }

def pool22 : Array CpInfo := pool [(2, .class_ 4), (1, u "java/lang/Object"), (0, u "<init>"), (0, u "()V"), (3, .class_ 11), (0, u "java/util/ImmutableCollections$List12"), (0, .class_ 13), (0, u "java/util/ImmutableCollections$ListN"), (3, u "Z"), (0, .class_ 19), (0, u "java/util/List"), (0, .interfaceMethodref 21 22), (0, .class_ 23), (0, .nameAndType 24 25), (0, u "java/util/Collection"), (0, u "isEmpty"), (0, u "()Z"), (0, .interfaceMethodref 18 27), (0, .nameAndType 28 29), (0, u "of"), (0, u "()Ljava/util/List;"), (0, .interfaceMethodref 21 31), (0, .nameAndType 32 33), (0, u "toArray"), (0, u "()[Ljava/lang/Object;"), (0, .interfaceMethodref 18 35), (0, .nameAndType 28 36), (0, u "([Ljava/lang/Object;)Ljava/util/List;"), (10, .class_ 49), (1, u "java/util/ImmutableCollections"), (0, u "$assertionsDisabled"), (5, u "[Ljava/lang/Object;"), (5, u "EMPTY_LIST"), (0, u "Ljava/util/ImmutableCollections$ListN;"), (8, u "EMPTY_LIST_NULLS"), (22, u "SALT32L"), (0, u "J"), (2, u "REVERSE"), (6, u "archivedObjects"), (2, u "EMPTY"), (0, u "Ljava/lang/Object;"), (0, .class_ 112), (0, u "java/util/ImmutableCollections$SetN"), (5, u "EMPTY_SET"), (0, u "Ljava/util/ImmutableCollections$SetN;"), (0, .class_ 121), (0, u "java/util/ImmutableCollections$MapN"), (3, u "EMPTY_MAP"), (0, u "Ljava/util/ImmutableCollections$MapN;"), (4, u "EXPAND_FACTOR"), (0, u "I"), (9, u "listCopy"), (0, u "(Ljava/util/Collection;)Ljava/util/List;"), (25, .class_ 170), (0, u "java/util/ImmutableCollections$MapN$MapNIterator"), (0, .class_ 172), (0, u "java/util/ImmutableCollections$MapN$1"), (0, .class_ 174), (0, u "java/util/ImmutableCollections$Map1"), (0, .class_ 176), (0, u "java/util/ImmutableCollections$AbstractImmutableMap"), (0, .class_ 178), (0, u "java/util/ImmutableCollections$SetN$SetNIterator"), (0, .class_ 180), (0, u "java/util/ImmutableCollections$Set12"), (0, .class_ 182), (0, u "java/util/ImmutableCollections$Set12$1"), (0, .class_ 184), (0, u "java/util/ImmutableCollections$AbstractImmutableSet"), (0, .class_ 186), (0, u "java/util/ImmutableCollections$SubList"), (0, .class_ 188), (0, u "java/util/ImmutableCollections$ListItr"), (0, .class_ 190), (0, u "java/util/ImmutableCollections$AbstractImmutableList"), (0, .class_ 192), (0, u "java/util/ImmutableCollections$AbstractImmutableCollection"), (0, .class_ 194), (0, u "java/util/ImmutableCollections$Access"), (0, .class_ 196), (0, u "java/util/ImmutableCollections$Access$1")] 16

def k22m0 : Method := { name := "<init>", desc := "()V", sig := { parameters := [], returnType := none }, accessFlags := 2, code := none }
def k22c1 : Code := { maxStack := 1, maxLocals := 2, code := jdk_56_method_3_code, exceptionTable := #[], attributes := #[] }
def k22m1 : Method := { name := "listCopy", desc := "(Ljava/util/Collection;)Ljava/util/List;", sig := { parameters := [(.object "java/util/Collection")], returnType := some (.object "java/util/List") }, accessFlags := 8, code := some k22c1 }
/-- java/util/ImmutableCollections -/
def k22 : Class := { plain "java/util/ImmutableCollections" (some 0) with
  accessFlags := 32
  interfaces := #[]
  cf := some (fileOf pool22 47 #[.nestMembers #[120, 169, 171, 173, 175, 111, 177, 179, 181, 183, 12, 10, 185, 187, 189, 191, 193, 195]] #[{ accessFlags := 2, nameIndex := 5, descriptorIndex := 6, attributes := #[] }, { accessFlags := 8, nameIndex := 142, descriptorIndex := 143, attributes := #[] }] 32 2 #[] #[{ accessFlags := 26, nameIndex := 95, descriptorIndex := 96, attributes := #[] }, { accessFlags := 26, nameIndex := 99, descriptorIndex := 17, attributes := #[] }, { accessFlags := 10, nameIndex := 106, descriptorIndex := 56, attributes := #[] }, { accessFlags := 26, nameIndex := 109, descriptorIndex := 110, attributes := #[] }, { accessFlags := 24, nameIndex := 62, descriptorIndex := 63, attributes := #[] }, { accessFlags := 24, nameIndex := 72, descriptorIndex := 63, attributes := #[] }, { accessFlags := 24, nameIndex := 118, descriptorIndex := 119, attributes := #[] }, { accessFlags := 24, nameIndex := 125, descriptorIndex := 126, attributes := #[] }, { accessFlags := 24, nameIndex := 131, descriptorIndex := 132, attributes := #[] }, { accessFlags := 4120, nameIndex := 50, descriptorIndex := 17, attributes := #[] }])
  fields := #[{ name := "SALT32L", type := .long, accessFlags := 26, slot := 0, constantValue := 0 }, { name := "REVERSE", type := .boolean, accessFlags := 26, slot := 1, constantValue := 0 }, { name := "archivedObjects", type := (.array (.object "java/lang/Object")), accessFlags := 10, slot := 2, constantValue := 0 }, { name := "EMPTY", type := (.object "java/lang/Object"), accessFlags := 26, slot := 3, constantValue := 0 }, { name := "EMPTY_LIST", type := (.object "java/util/ImmutableCollections$ListN"), accessFlags := 24, slot := 4, constantValue := 0 }, { name := "EMPTY_LIST_NULLS", type := (.object "java/util/ImmutableCollections$ListN"), accessFlags := 24, slot := 5, constantValue := 0 }, { name := "EMPTY_SET", type := (.object "java/util/ImmutableCollections$SetN"), accessFlags := 24, slot := 6, constantValue := 0 }, { name := "EMPTY_MAP", type := (.object "java/util/ImmutableCollections$MapN"), accessFlags := 24, slot := 7, constantValue := 0 }, { name := "EXPAND_FACTOR", type := .int, accessFlags := 24, slot := 8, constantValue := 0 }, { name := "$assertionsDisabled", type := .boolean, accessFlags := 4120, slot := 9, constantValue := 0 }]
  methods := #[k22m0, k22m1]
  instanceTypes := #[]
  staticTypes := #[.long, .boolean, (.array (.object "java/lang/Object")), (.object "java/lang/Object"), (.object "java/util/ImmutableCollections$ListN"), (.object "java/util/ImmutableCollections$ListN"), (.object "java/util/ImmutableCollections$SetN"), (.object "java/util/ImmutableCollections$MapN"), .int, .boolean]
  resolved := Array.replicate 213 none
  statics := some 2 }

def pool23 : Array CpInfo := pool [(1, .methodref 2 3), (0, .class_ 4), (0, .nameAndType 5 6), (0, u "java/util/AbstractCollection"), (0, u "<init>"), (0, u "()V"), (1, .class_ 10), (1, u "java/util/ImmutableCollections"), (2, .class_ 14), (0, u "java/util/ImmutableCollections$AbstractImmutableCollection")] 41

def k23c0 : Code := { maxStack := 1, maxLocals := 1, code := jdk_47_method_1_code, exceptionTable := #[], attributes := #[] }
def k23m0 : Method := { name := "<init>", desc := "()V", sig := { parameters := [], returnType := none }, accessFlags := 0, code := some k23c0 }
/-- java/util/ImmutableCollections$AbstractImmutableCollection -/
def k23 : Class := { plain "java/util/ImmutableCollections$AbstractImmutableCollection" (some 4) with
  accessFlags := 1056
  interfaces := #[]
  cf := some (fileOf pool23 13 #[.nestHost 8] #[{ accessFlags := 0, nameIndex := 5, descriptorIndex := 6, attributes := #[] }] 1056 2 #[] #[])
  fields := #[]
  methods := #[k23m0]
  instanceTypes := #[]
  staticTypes := #[]
  resolved := Array.replicate 56 none
  statics := none }

def pool24 : Array CpInfo := pool [(1, .methodref 2 3), (0, .class_ 4), (0, .nameAndType 5 6), (0, u "java/util/ImmutableCollections$AbstractImmutableCollection"), (0, u "<init>"), (0, u "()V"), (1, .class_ 10), (1, u "java/util/ImmutableCollections"), (2, .methodref 14 15), (0, .class_ 16), (0, .nameAndType 17 18), (0, u "java/util/ImmutableCollections$AbstractImmutableList"), (0, u "size"), (0, u "()I"), (42, .class_ 62), (0, u "java/util/ImmutableCollections$ListItr"), (0, .methodref 61 64), (0, .nameAndType 5 65), (0, u "(Ljava/util/List;I)V"), (11, .class_ 78), (0, u "java/util/List"), (2, u "iterator"), (0, u "()Ljava/util/Iterator;"), (41, .class_ 125), (0, u "java/util/RandomAccess")] 70

def k24c0 : Code := { maxStack := 1, maxLocals := 1, code := jdk_46_method_1_code, exceptionTable := #[], attributes := #[] }
def k24m0 : Method := { name := "<init>", desc := "()V", sig := { parameters := [], returnType := none }, accessFlags := 0, code := some k24c0 }
def k24c1 : Code := { maxStack := 4, maxLocals := 1, code := jdk_46_method_10_code, exceptionTable := #[], attributes := #[] }
def k24m1 : Method := { name := "iterator", desc := "()Ljava/util/Iterator;", sig := { parameters := [], returnType := some (.object "java/util/Iterator") }, accessFlags := 1, code := some k24c1 }
/-- java/util/ImmutableCollections$AbstractImmutableList -/
def k24 : Class := { plain "java/util/ImmutableCollections$AbstractImmutableList" (some 23) with
  accessFlags := 1056
  interfaces := #[6, 8]
  cf := some (fileOf pool24 14 #[.nestHost 8] #[{ accessFlags := 0, nameIndex := 5, descriptorIndex := 6, attributes := #[] }, { accessFlags := 1, nameIndex := 81, descriptorIndex := 82, attributes := #[] }] 1056 2 #[77, 124] #[])
  fields := #[]
  methods := #[k24m0, k24m1]
  instanceTypes := #[]
  staticTypes := #[]
  resolved := Array.replicate 196 none
  statics := none }

def pool25 : Array CpInfo := pool [(1, .methodref 2 3), (0, .class_ 4), (0, .nameAndType 5 6), (0, u "java/util/ImmutableCollections$AbstractImmutableList"), (0, u "<init>"), (0, u "()V"), (0, .methodref 8 9), (0, .class_ 10), (0, .nameAndType 11 12), (0, u "java/util/Objects"), (0, u "requireNonNull"), (0, u "(Ljava/lang/Object;)Ljava/lang/Object;"), (0, .fieldref 14 15), (0, .class_ 16), (0, .nameAndType 17 18), (0, u "java/util/ImmutableCollections$List12"), (0, u "e0"), (0, u "Ljava/lang/Object;"), (0, .fieldref 20 21), (0, .class_ 22), (0, .nameAndType 23 18), (0, u "java/util/ImmutableCollections"), (0, u "EMPTY"), (0, .fieldref 14 25), (0, .nameAndType 26 18), (0, u "e1"), (24, u "size"), (0, u "()I"), (17, .class_ 71), (0, u "java/io/Serializable"), (4, u "(Ljava/lang/Object;)V"), (8, u "(Ljava/lang/Object;Ljava/lang/Object;)V"), (4, u "get"), (0, u "(I)Ljava/lang/Object;")] 33

def k25c0 : Code := { maxStack := 2, maxLocals := 2, code := jdk_44_method_1_code, exceptionTable := #[], attributes := #[] }
def k25m0 : Method := { name := "<init>", desc := "(Ljava/lang/Object;)V", sig := { parameters := [(.object "java/lang/Object")], returnType := none }, accessFlags := 0, code := some k25c0 }
def k25c1 : Code := { maxStack := 2, maxLocals := 3, code := jdk_44_method_2_code, exceptionTable := #[], attributes := #[] }
def k25m1 : Method := { name := "<init>", desc := "(Ljava/lang/Object;Ljava/lang/Object;)V", sig := { parameters := [(.object "java/lang/Object"), (.object "java/lang/Object")], returnType := none }, accessFlags := 0, code := some k25c1 }
def k25c2 : Code := { maxStack := 2, maxLocals := 1, code := jdk_44_method_3_code, exceptionTable := #[], attributes := #[] }
def k25m2 : Method := { name := "size", desc := "()I", sig := { parameters := [], returnType := some .int }, accessFlags := 1, code := some k25c2 }
def k25c3 : Code := { maxStack := 2, maxLocals := 2, code := jdk_44_method_5_code, exceptionTable := #[], attributes := #[] }
def k25m3 : Method := { name := "get", desc := "(I)Ljava/lang/Object;", sig := { parameters := [.int], returnType := some (.object "java/lang/Object") }, accessFlags := 1, code := some k25c3 }
/-- java/util/ImmutableCollections$List12 -/
def k25 : Class := { plain "java/util/ImmutableCollections$List12" (some 24) with
  accessFlags := 48
  interfaces := #[10]
  cf := some (fileOf pool25 14 #[.nestHost 20] #[{ accessFlags := 0, nameIndex := 5, descriptorIndex := 76, attributes := #[] }, { accessFlags := 0, nameIndex := 5, descriptorIndex := 85, attributes := #[] }, { accessFlags := 1, nameIndex := 51, descriptorIndex := 52, attributes := #[] }, { accessFlags := 1, nameIndex := 90, descriptorIndex := 91, attributes := #[] }] 48 2 #[70] #[{ accessFlags := 18, nameIndex := 17, descriptorIndex := 18, attributes := #[] }, { accessFlags := 18, nameIndex := 26, descriptorIndex := 18, attributes := #[] }])
  fields := #[{ name := "e0", type := (.object "java/lang/Object"), accessFlags := 18, slot := 0, constantValue := 0 }, { name := "e1", type := (.object "java/lang/Object"), accessFlags := 18, slot := 1, constantValue := 0 }]
  methods := #[k25m0, k25m1, k25m2, k25m3]
  instanceTypes := #[(.object "java/lang/Object"), (.object "java/lang/Object")]
  staticTypes := #[]
  resolved := Array.replicate 125 none
  statics := none }

def pool26 : Array CpInfo := pool [(2, .class_ 4), (1, u "java/util/ImmutableCollections$AbstractImmutableList"), (2, .fieldref 8 9), (0, .class_ 10), (0, .nameAndType 11 12), (0, u "java/util/ImmutableCollections$ListN"), (0, u "elements"), (0, u "[Ljava/lang/Object;"), (2, u "allowNulls"), (0, u "Z"), (42, .class_ 60), (0, u "java/io/Serializable"), (16, u "size"), (0, u "()I"), (35, .class_ 115), (0, u "java/util/ImmutableCollections")] 3

def k26c0 : Code := { maxStack := 1, maxLocals := 1, code := jdk_45_method_3_code, exceptionTable := #[], attributes := #[] }
def k26m0 : Method := { name := "size", desc := "()I", sig := { parameters := [], returnType := some .int }, accessFlags := 1, code := some k26c0 }
/-- java/util/ImmutableCollections$ListN -/
def k26 : Class := { plain "java/util/ImmutableCollections$ListN" (some 24) with
  accessFlags := 48
  interfaces := #[10]
  cf := some (fileOf pool26 8 #[.nestHost 114] #[{ accessFlags := 1, nameIndex := 77, descriptorIndex := 78, attributes := #[] }] 48 2 #[59] #[{ accessFlags := 18, nameIndex := 11, descriptorIndex := 12, attributes := #[] }, { accessFlags := 18, nameIndex := 15, descriptorIndex := 16, attributes := #[] }])
  fields := #[{ name := "elements", type := (.array (.object "java/lang/Object")), accessFlags := 18, slot := 0, constantValue := 0 }, { name := "allowNulls", type := .boolean, accessFlags := 18, slot := 1, constantValue := 0 }]
  methods := #[k26m0]
  instanceTypes := #[(.array (.object "java/lang/Object")), .boolean]
  staticTypes := #[]
  resolved := Array.replicate 119 none
  statics := none }

def pool27 : Array CpInfo := pool [(2, .class_ 4), (1, u "java/lang/Object"), (0, u "<init>"), (0, u "()V"), (7, .class_ 16), (1, u "java/util/Arrays"), (57, .class_ 76), (1, u "java/util/Arrays$NaturalOrder"), (9, .methodref 2 87), (0, .nameAndType 88 89), (0, u "getClass"), (0, u "()Ljava/lang/Class;"), (20, .class_ 111), (0, u "[Ljava/lang/Object;"), (1, .class_ 115), (1, u "java/util/Arrays$LegacyMergeSort"), (1, u "Z"), (32, .methodref 151 152), (0, .class_ 153), (0, .nameAndType 154 155), (0, u "java/lang/System"), (0, u "arraycopy"), (0, u "(Ljava/lang/Object;ILjava/lang/Object;II)V"), (144, .methodref 14 301), (0, .nameAndType 302 303), (0, u "copyOf"), (0, u "([Ljava/lang/Object;ILjava/lang/Class;)[Ljava/lang/Object;"), (0, .methodref 305 306), (0, .class_ 307), (0, .nameAndType 308 309), (0, u "java/lang/Math"), (0, u "min"), (0, u "(II)I"), (65, .class_ 376), (0, u "java/util/Arrays$ArrayList"), (68, u "$assertionsDisabled"), (269, u "MIN_ARRAY_SORT_GRAN"), (0, u "I"), (2, u "INSERTIONSORT_THRESHOLD"), (120, u "fill"), (17, u "([Ljava/lang/Object;Ljava/lang/Object;)V"), (1, u "([Ljava/lang/Object;I)[Ljava/lang/Object;"), (114, .class_ 976), (0, u "java/util/Arrays$ArrayItr")] 52

def k27m0 : Method := { name := "<init>", desc := "()V", sig := { parameters := [], returnType := none }, accessFlags := 2, code := none }
def k27c1 : Code := { maxStack := 3, maxLocals := 4, code := jdk_65_method_117_code, exceptionTable := #[], attributes := #[] }
def k27m1 : Method := { name := "fill", desc := "([Ljava/lang/Object;Ljava/lang/Object;)V", sig := { parameters := [(.array (.object "java/lang/Object")), (.object "java/lang/Object")], returnType := none }, accessFlags := 9, code := some k27c1 }
def k27c2 : Code := { maxStack := 3, maxLocals := 2, code := jdk_65_method_119_code, exceptionTable := #[], attributes := #[] }
def k27m2 : Method := { name := "copyOf", desc := "([Ljava/lang/Object;I)[Ljava/lang/Object;", sig := { parameters := [(.array (.object "java/lang/Object")), .int], returnType := some (.array (.object "java/lang/Object")) }, accessFlags := 9, code := some k27c2 }
def k27c3 : Code := { maxStack := 6, maxLocals := 4, code := jdk_65_method_120_code, exceptionTable := #[], attributes := #[] }
def k27m3 : Method := { name := "copyOf", desc := "([Ljava/lang/Object;ILjava/lang/Class;)[Ljava/lang/Object;", sig := { parameters := [(.array (.object "java/lang/Object")), .int, (.object "java/lang/Class")], returnType := some (.array (.object "java/lang/Object")) }, accessFlags := 9, code := some k27c3 }
/-- java/util/Arrays -/
def k27 : Class := { plain "java/util/Arrays" (some 0) with
  accessFlags := 49
  interfaces := #[]
  cf := some (fileOf pool27 14 #[.nestMembers #[975, 375, 113, 74]] #[{ accessFlags := 2, nameIndex := 5, descriptorIndex := 6, attributes := #[] }, { accessFlags := 9, nameIndex := 840, descriptorIndex := 858, attributes := #[] }, { accessFlags := 9, nameIndex := 302, descriptorIndex := 860, attributes := #[] }, { accessFlags := 9, nameIndex := 302, descriptorIndex := 303, attributes := #[] }] 49 2 #[] #[{ accessFlags := 26, nameIndex := 715, descriptorIndex := 716, attributes := #[] }, { accessFlags := 26, nameIndex := 719, descriptorIndex := 716, attributes := #[] }, { accessFlags := 4120, nameIndex := 445, descriptorIndex := 117, attributes := #[] }])
  fields := #[{ name := "MIN_ARRAY_SORT_GRAN", type := .int, accessFlags := 26, slot := 0, constantValue := 0 }, { name := "INSERTIONSORT_THRESHOLD", type := .int, accessFlags := 26, slot := 1, constantValue := 0 }, { name := "$assertionsDisabled", type := .boolean, accessFlags := 4120, slot := 2, constantValue := 0 }]
  methods := #[k27m0, k27m1, k27m2, k27m3]
  instanceTypes := #[]
  staticTypes := #[.int, .int, .boolean]
  resolved := Array.replicate 1029 none
  statics := none }

def pool28 : Array CpInfo := pool [(2, .class_ 4), (1, u "java/lang/Object"), (0, u "<init>"), (0, u "()V"), (1, .class_ 10), (1, u "java/lang/System"), (0, u "allowSecurityManager"), (0, u "I"), (16, u "cons"), (0, u "Ljava/io/Console;"), (77, .class_ 110), (1, u "java/lang/System$CallersHolder"), (43, u "initialErrStream"), (0, u "Ljava/io/PrintStream;"), (19, u "security"), (0, u "Ljava/lang/SecurityManager;"), (31, .class_ 209), (0, u "java/lang/System$1"), (7, u "props"), (0, u "Ljava/util/Properties;"), (2, u "lineSeparator"), (0, u "Ljava/lang/String;"), (96, .class_ 321), (1, u "java/lang/System$LoggerFinder"), (5, .class_ 328), (0, u "java/lang/System$Logger"), (67, u "err"), (2, u "out"), (91, u "notSupportedJnuEncoding"), (15, u "in"), (17, u "initialIn"), (0, u "Ljava/io/InputStream;"), (35, u "bootLayer"), (0, u "Ljava/lang/ModuleLayer;"), (99, .class_ 664), (0, u "java/lang/System$2"), (9, u "NEVER"), (2, u "MAYBE"), (49, u "arraycopy"), (0, u "(Ljava/lang/Object;ILjava/lang/Object;II)V"), (72, .class_ 802), (0, u "java/lang/System$Logger$Level")] 31

def k28m0 : Method := { name := "<init>", desc := "()V", sig := { parameters := [], returnType := none }, accessFlags := 2, code := none }
def k28m1 : Method := { name := "arraycopy", desc := "(Ljava/lang/Object;ILjava/lang/Object;II)V", sig := { parameters := [(.object "java/lang/Object"), .int, (.object "java/lang/Object"), .int, .int], returnType := none }, accessFlags := 265, code := none }
/-- java/lang/System -/
def k28 : Class := { plain "java/lang/System" (some 0) with
  accessFlags := 49
  interfaces := #[]
  cf := some (fileOf pool28 8 #[.nestMembers #[319, 327, 801, 108, 663, 208]] #[{ accessFlags := 2, nameIndex := 5, descriptorIndex := 6, attributes := #[] }, { accessFlags := 265, nameIndex := 727, descriptorIndex := 728, attributes := #[] }] 49 2 #[] #[{ accessFlags := 25, nameIndex := 507, descriptorIndex := 526, attributes := #[] }, { accessFlags := 25, nameIndex := 399, descriptorIndex := 155, attributes := #[] }, { accessFlags := 25, nameIndex := 396, descriptorIndex := 155, attributes := #[] }, { accessFlags := 10, nameIndex := 525, descriptorIndex := 526, attributes := #[] }, { accessFlags := 26, nameIndex := 674, descriptorIndex := 12, attributes := #[] }, { accessFlags := 26, nameIndex := 677, descriptorIndex := 12, attributes := #[] }, { accessFlags := 10, nameIndex := 11, descriptorIndex := 12, attributes := #[] }, { accessFlags := 74, nameIndex := 175, descriptorIndex := 176, attributes := #[] }, { accessFlags := 10, nameIndex := 491, descriptorIndex := 222, attributes := #[] }, { accessFlags := 74, nameIndex := 29, descriptorIndex := 30, attributes := #[] }, { accessFlags := 74, nameIndex := 154, descriptorIndex := 155, attributes := #[] }, { accessFlags := 10, nameIndex := 217, descriptorIndex := 218, attributes := #[] }, { accessFlags := 10, nameIndex := 221, descriptorIndex := 222, attributes := #[] }, { accessFlags := 8, nameIndex := 562, descriptorIndex := 563, attributes := #[] }])
  fields := #[{ name := "in", type := (.object "java/io/InputStream"), accessFlags := 25, slot := 0, constantValue := 0 }, { name := "out", type := (.object "java/io/PrintStream"), accessFlags := 25, slot := 1, constantValue := 0 }, { name := "err", type := (.object "java/io/PrintStream"), accessFlags := 25, slot := 2, constantValue := 0 }, { name := "initialIn", type := (.object "java/io/InputStream"), accessFlags := 10, slot := 3, constantValue := 0 }, { name := "NEVER", type := .int, accessFlags := 26, slot := 4, constantValue := 0 }, { name := "MAYBE", type := .int, accessFlags := 26, slot := 5, constantValue := 0 }, { name := "allowSecurityManager", type := .int, accessFlags := 10, slot := 6, constantValue := 0 }, { name := "security", type := (.object "java/lang/SecurityManager"), accessFlags := 74, slot := 7, constantValue := 0 }, { name := "notSupportedJnuEncoding", type := (.object "java/lang/String"), accessFlags := 10, slot := 8, constantValue := 0 }, { name := "cons", type := (.object "java/io/Console"), accessFlags := 74, slot := 9, constantValue := 0 }, { name := "initialErrStream", type := (.object "java/io/PrintStream"), accessFlags := 74, slot := 10, constantValue := 0 }, { name := "props", type := (.object "java/util/Properties"), accessFlags := 10, slot := 11, constantValue := 0 }, { name := "lineSeparator", type := (.object "java/lang/String"), accessFlags := 10, slot := 12, constantValue := 0 }, { name := "bootLayer", type := (.object "java/lang/ModuleLayer"), accessFlags := 8, slot := 13, constantValue := 0 }]
  methods := #[k28m0, k28m1]
  instanceTypes := #[]
  staticTypes := #[(.object "java/io/InputStream"), (.object "java/io/PrintStream"), (.object "java/io/PrintStream"), (.object "java/io/InputStream"), .int, .int, .int, (.object "java/lang/SecurityManager"), (.object "java/lang/String"), (.object "java/io/Console"), (.object "java/io/PrintStream"), (.object "java/util/Properties"), (.object "java/lang/String"), (.object "java/lang/ModuleLayer")]
  resolved := Array.replicate 834 none
  statics := none }

def pool29 : Array CpInfo := pool [(2, .class_ 4), (1, u "java/lang/Object"), (0, u "<init>"), (0, u "()V"), (35, .class_ 44), (1, u "java/util/Objects"), (0, u "requireNonNull"), (0, u "(Ljava/lang/Object;)Ljava/lang/Object;")] 137

def k29m0 : Method := { name := "<init>", desc := "()V", sig := { parameters := [], returnType := none }, accessFlags := 2, code := none }
def k29c1 : Code := { maxStack := 2, maxLocals := 1, code := jdk_31_method_10_code, exceptionTable := #[], attributes := #[] }
def k29m1 : Method := { name := "requireNonNull", desc := "(Ljava/lang/Object;)Ljava/lang/Object;", sig := { parameters := [(.object "java/lang/Object")], returnType := some (.object "java/lang/Object") }, accessFlags := 9, code := some k29c1 }
/-- java/util/Objects -/
def k29 : Class := { plain "java/util/Objects" (some 0) with
  accessFlags := 49
  interfaces := #[]
  cf := some (fileOf pool29 42 #[] #[{ accessFlags := 2, nameIndex := 5, descriptorIndex := 6, attributes := #[] }, { accessFlags := 9, nameIndex := 45, descriptorIndex := 46, attributes := #[] }] 49 2 #[] #[])
  fields := #[]
  methods := #[k29m0, k29m1]
  instanceTypes := #[]
  staticTypes := #[]
  resolved := Array.replicate 184 none
  statics := none }

def pool30 : Array CpInfo := pool [(1, .methodref 2 3), (0, .class_ 4), (0, .nameAndType 5 6), (0, u "java/lang/Object"), (0, u "<init>"), (0, u "()V"), (0, .methodref 8 9), (0, .class_ 10), (0, .nameAndType 11 12), (0, u "com/example/shiftweave/shiftweave/rostering/Ward"), (0, u "shifts"), (0, u "()Ljava/util/List;"), (0, .interfaceMethodref 14 15), (0, .class_ 16), (0, .nameAndType 17 18), (0, u "java/util/List"), (0, u "size"), (0, u "()I"), (0, .methodref 8 20), (0, .nameAndType 21 12), (0, u "staff"), (0, .fieldref 23 24), (0, .class_ 25), (0, .nameAndType 26 27), (0, u "com/example/shiftweave/shiftweave/rostering/Penalties"), (0, u "choices"), (0, u "I"), (0, .methodref 8 29), (0, .nameAndType 30 18), (0, u "days"), (0, .class_ 32), (0, u "[[[J"), (0, .fieldref 23 34), (0, .nameAndType 35 32), (0, u "cover"), (0, .methodref 37 38), (0, .class_ 39), (0, .nameAndType 40 41), (0, u "java/util/Arrays"), (0, u "fill"), (0, u "([Ljava/lang/Object;Ljava/lang/Object;)V"), (0, .class_ 43), (0, u "[[J"), (0, .methodref 8 45), (0, .nameAndType 35 12), (0, .interfaceMethodref 14 47), (0, .nameAndType 48 49), (0, u "iterator"), (0, u "()Ljava/util/Iterator;"), (0, .interfaceMethodref 51 52), (0, .class_ 53), (0, .nameAndType 54 55), (0, u "java/util/Iterator"), (0, u "hasNext"), (0, u "()Z"), (0, .interfaceMethodref 51 57), (0, .nameAndType 58 59), (0, u "next"), (0, u "()Ljava/lang/Object;"), (3, .nameAndType 64 18), (0, u "day"), (1, .nameAndType 67 18), (0, u "shift"), (3, .methodref 72 73), (0, .class_ 74), (0, .nameAndType 75 76), (0, u "java/lang/Math"), (0, u "max"), (0, u "(II)I"), (6, .methodref 72 84), (0, .nameAndType 75 85), (0, u "(JJ)J"), (0, .fieldref 23 87), (0, .nameAndType 88 43), (0, u "requests"), (0, .methodref 8 90), (0, .nameAndType 91 12), (0, u "onRequests"), (0, .class_ 93), (0, u "com/example/shiftweave/shiftweave/rostering/ShiftRequest"), (0, .methodref 92 66), (0, .methodref 92 96), (0, .nameAndType 21 18), (0, .methodref 92 63), (0, .methodref 92 99), (0, .nameAndType 100 18), (0, u "weight"), (0, .methodref 8 102), (0, .nameAndType 103 12), (0, u "offRequests"), (0, .long 2), (1, .fieldref 23 107), (0, .nameAndType 108 109), (0, u "mostCoverChange"), (0, u "J"), (0, .fieldref 23 111), (0, .nameAndType 112 109), (0, u "mostRequestChange"), (0, u "(Lcom/example/shiftweave/shiftweave/rostering/Ward;)V"), (5, u "(III)J")] 3

def k30c0 : Code := { maxStack := 10, maxLocals := 19, code := prog_56_method_1_code, exceptionTable := #[], attributes := #[] }
def k30m0 : Method := { name := "<init>", desc := "(Lcom/example/shiftweave/shiftweave/rostering/Ward;)V", sig := { parameters := [(.object "com/example/shiftweave/shiftweave/rostering/Ward")], returnType := none }, accessFlags := 0, code := some k30c0 }
def k30c1 : Code := { maxStack := 3, maxLocals := 4, code := prog_56_method_3_code, exceptionTable := #[], attributes := #[] }
def k30m1 : Method := { name := "requests", desc := "(III)J", sig := { parameters := [.int, .int, .int], returnType := some .long }, accessFlags := 0, code := some k30c1 }
/-- com/example/shiftweave/shiftweave/rostering/Penalties -/
def k30 : Class := { plain "com/example/shiftweave/shiftweave/rostering/Penalties" (some 0) with
  accessFlags := 48
  interfaces := #[]
  cf := some (fileOf pool30 23 #[] #[{ accessFlags := 0, nameIndex := 5, descriptorIndex := 113, attributes := #[] }, { accessFlags := 0, nameIndex := 88, descriptorIndex := 119, attributes := #[] }] 48 2 #[] #[{ accessFlags := 18, nameIndex := 26, descriptorIndex := 27, attributes := #[] }, { accessFlags := 18, nameIndex := 35, descriptorIndex := 32, attributes := #[] }, { accessFlags := 18, nameIndex := 88, descriptorIndex := 43, attributes := #[] }, { accessFlags := 18, nameIndex := 108, descriptorIndex := 109, attributes := #[] }, { accessFlags := 18, nameIndex := 112, descriptorIndex := 109, attributes := #[] }])
  fields := #[{ name := "choices", type := .int, accessFlags := 18, slot := 0, constantValue := 0 }, { name := "cover", type := (.array (.array (.array .long))), accessFlags := 18, slot := 1, constantValue := 0 }, { name := "requests", type := (.array (.array .long)), accessFlags := 18, slot := 2, constantValue := 0 }, { name := "mostCoverChange", type := .long, accessFlags := 18, slot := 3, constantValue := 0 }, { name := "mostRequestChange", type := .long, accessFlags := 18, slot := 4, constantValue := 0 }]
  methods := #[k30m0, k30m1]
  instanceTypes := #[.int, (.array (.array (.array .long))), (.array (.array .long)), .long, .long]
  staticTypes := #[]
  resolved := Array.replicate 123 none
  statics := none }

def pool31 : Array CpInfo := pool [(16, .class_ 18), (1, u "java/util/Iterator"), (0, u "hasNext"), (0, u "()Z"), (2, u "next"), (0, u "()Ljava/lang/Object;"), (6, .class_ 32), (0, u "java/lang/Object")] 20

def k31m0 : Method := { name := "hasNext", desc := "()Z", sig := { parameters := [], returnType := some .boolean }, accessFlags := 1025, code := none }
def k31m1 : Method := { name := "next", desc := "()Ljava/lang/Object;", sig := { parameters := [], returnType := some (.object "java/lang/Object") }, accessFlags := 1025, code := none }
/-- java/util/Iterator -/
def k31 : Class := { plain "java/util/Iterator" (some 0) with
  accessFlags := 1537
  interfaces := #[]
  cf := some (fileOf pool31 16 #[] #[{ accessFlags := 1025, nameIndex := 19, descriptorIndex := 20, attributes := #[] }, { accessFlags := 1025, nameIndex := 23, descriptorIndex := 24, attributes := #[] }] 1537 31 #[] #[])
  fields := #[]
  methods := #[k31m0, k31m1]
  instanceTypes := #[]
  staticTypes := #[]
  resolved := Array.replicate 53 none
  statics := none }

def pool32 : Array CpInfo := pool [(1, .class_ 2), (0, u "java/util/ListIterator"), (0, .class_ 4), (0, u "java/lang/Object"), (0, .class_ 6), (0, u "java/util/Iterator")] 20

/-- java/util/ListIterator -/
def k32 : Class := { plain "java/util/ListIterator" (some 0) with
  accessFlags := 1537
  interfaces := #[31]
  cf := some (fileOf pool32 1 #[] #[] 1537 3 #[5] #[])
  fields := #[]
  methods := #[]
  instanceTypes := #[]
  staticTypes := #[]
  resolved := Array.replicate 27 none
  statics := none }

def pool33 : Array CpInfo := pool [(1, .methodref 2 3), (0, .class_ 4), (0, .nameAndType 5 6), (0, u "java/lang/Object"), (0, u "<init>"), (0, u "()V"), (0, .fieldref 8 9), (0, .class_ 10), (0, .nameAndType 11 12), (0, u "java/util/ImmutableCollections$ListItr"), (0, u "list"), (0, u "Ljava/util/List;"), (0, .fieldref 8 14), (0, .nameAndType 15 16), (0, u "size"), (0, u "I"), (0, .fieldref 8 18), (0, .nameAndType 19 16), (0, u "cursor"), (0, .fieldref 8 21), (0, .nameAndType 22 23), (0, u "isListIterator"), (0, u "Z"), (0, .interfaceMethodref 25 26), (0, .class_ 27), (0, .nameAndType 28 29), (0, u "java/util/List"), (0, u "get"), (0, u "(I)Ljava/lang/Object;"), (6, .class_ 38), (1, u "java/util/ImmutableCollections"), (2, .class_ 42), (0, u "java/util/ListIterator"), (4, u "(Ljava/util/List;I)V"), (11, u "hasNext"), (0, u "()Z"), (1, u "next"), (0, u "()Ljava/lang/Object;")] 22

def k33c0 : Code := { maxStack := 2, maxLocals := 3, code := jdk_53_method_1_code, exceptionTable := #[], attributes := #[] }
def k33m0 : Method := { name := "<init>", desc := "(Ljava/util/List;I)V", sig := { parameters := [(.object "java/util/List"), .int], returnType := none }, accessFlags := 0, code := some k33c0 }
def k33c1 : Code := { maxStack := 2, maxLocals := 1, code := jdk_53_method_3_code, exceptionTable := #[], attributes := #[] }
def k33m1 : Method := { name := "hasNext", desc := "()Z", sig := { parameters := [], returnType := some .boolean }, accessFlags := 1, code := some k33c1 }
def k33c2 : Code := { maxStack := 3, maxLocals := 3, code := jdk_53_method_4_code, exceptionTable := #[{ startPc := 0, endPc := 24, handlerPc := 25, catchType := 30 }], attributes := #[] }
def k33m2 : Method := { name := "next", desc := "()Ljava/lang/Object;", sig := { parameters := [], returnType := some (.object "java/lang/Object") }, accessFlags := 1, code := some k33c2 }
/-- java/util/ImmutableCollections$ListItr -/
def k33 : Class := { plain "java/util/ImmutableCollections$ListItr" (some 0) with
  accessFlags := 48
  interfaces := #[32]
  cf := some (fileOf pool33 8 #[.nestHost 36] #[{ accessFlags := 0, nameIndex := 5, descriptorIndex := 47, attributes := #[] }, { accessFlags := 1, nameIndex := 59, descriptorIndex := 60, attributes := #[] }, { accessFlags := 1, nameIndex := 62, descriptorIndex := 63, attributes := #[] }] 48 2 #[41] #[{ accessFlags := 18, nameIndex := 11, descriptorIndex := 12, attributes := #[] }, { accessFlags := 18, nameIndex := 15, descriptorIndex := 16, attributes := #[] }, { accessFlags := 18, nameIndex := 22, descriptorIndex := 23, attributes := #[] }, { accessFlags := 2, nameIndex := 19, descriptorIndex := 16, attributes := #[] }])
  fields := #[{ name := "list", type := (.object "java/util/List"), accessFlags := 18, slot := 0, constantValue := 0 }, { name := "size", type := .int, accessFlags := 18, slot := 1, constantValue := 0 }, { name := "isListIterator", type := .boolean, accessFlags := 18, slot := 2, constantValue := 0 }, { name := "cursor", type := .int, accessFlags := 2, slot := 3, constantValue := 0 }]
  methods := #[k33m0, k33m1, k33m2]
  instanceTypes := #[(.object "java/util/List"), .int, .boolean, .int]
  staticTypes := #[]
  resolved := Array.replicate 86 none
  statics := none }

def pool34 : Array CpInfo := pool [(1, u "java/lang/Class"), (0, .class_ 1), (0, u "java/lang/Object"), (0, .class_ 3)] 0

/-- java/lang/Class -/
def k34 : Class := { plain "java/lang/Class" (some 0) with
  accessFlags := 49
  interfaces := #[]
  cf := some (fileOf pool34 2 #[] #[] 49 4 #[] #[])
  fields := #[]
  methods := #[]
  instanceTypes := #[]
  staticTypes := #[]
  resolved := Array.replicate 5 none
  statics := none }

/-- the primitive byte -/
def k35 : Class := { plain "byte" none with kind := .primitive 'B', accessFlags := 0x411 }
/-- [B -/
def k36 : Class := { plain "[B" (some 0) with kind := .array 35 .byte, interfaces := #[9, 10], accessFlags := 1041 }

/-- the primitive int -/
def k37 : Class := { plain "int" none with kind := .primitive 'I', accessFlags := 0x411 }
/-- [I -/
def k38 : Class := { plain "[I" (some 0) with kind := .array 37 .int, interfaces := #[9, 10], accessFlags := 1041 }

/-- the primitive long -/
def k39 : Class := { plain "long" none with kind := .primitive 'J', accessFlags := 0x411 }
/-- [J -/
def k40 : Class := { plain "[J" (some 0) with kind := .array 39 .long, interfaces := #[9, 10], accessFlags := 1041 }

/-- [Ljava/lang/Integer; -/
def k41 : Class := { plain "[Ljava/lang/Integer;" (some 0) with kind := .array 16 (.object "java/lang/Integer"), interfaces := #[9, 10], accessFlags := 1041 }

/-- [Ljava/lang/Object; -/
def k42 : Class := { plain "[Ljava/lang/Object;" (some 0) with kind := .array 0 (.object "java/lang/Object"), interfaces := #[9, 10], accessFlags := 1041, mirror := some 3 }

def heap : Heap := #[{ cls := 11, slots := #[.long 0, .int 0, .ref 4, .ref 5], vm := .statics 11 },
  { cls := 17, slots := #[.int 0, .int 127, .ref 6, .null, .int 0], vm := .statics 17 },
  { cls := 22, slots := #[.long 0, .int 0, .null, .ref 8, .ref 9, .null, .null, .null, .int 0, .int 1], vm := .statics 22 },
  { cls := 34, slots := #[], vm := .mirror 42 },
  { cls := 42, slots := #[], vm := .none },
  { cls := 42, slots := #[], vm := .none },
  { cls := 41, slots := #[.ref 10, .ref 11, .ref 12, .ref 13, .ref 14, .ref 15, .ref 16, .ref 17, .ref 18, .ref 19, .ref 20, .ref 21, .ref 22, .ref 23, .ref 24, .ref 25, .ref 26, .ref 27, .ref 28, .ref 29, .ref 30, .ref 31, .ref 32, .ref 33, .ref 34, .ref 35, .ref 36, .ref 37, .ref 38, .ref 39, .ref 40, .ref 41, .ref 42, .ref 43, .ref 44, .ref 45, .ref 46, .ref 47, .ref 48, .ref 49, .ref 50, .ref 51, .ref 52, .ref 53, .ref 54, .ref 55, .ref 56, .ref 57, .ref 58, .ref 59, .ref 60, .ref 61, .ref 62, .ref 63, .ref 64, .ref 65, .ref 66, .ref 67, .ref 68, .ref 69, .ref 70, .ref 71, .ref 72, .ref 73, .ref 74, .ref 75, .ref 76, .ref 77, .ref 78, .ref 79, .ref 80, .ref 81, .ref 82, .ref 83, .ref 84, .ref 85, .ref 86, .ref 87, .ref 88, .ref 89, .ref 90, .ref 91, .ref 92, .ref 93, .ref 94, .ref 95, .ref 96, .ref 97, .ref 98, .ref 99, .ref 100, .ref 101, .ref 102, .ref 103, .ref 104, .ref 105, .ref 106, .ref 107, .ref 108, .ref 109, .ref 110, .ref 111, .ref 112, .ref 113, .ref 114, .ref 115, .ref 116, .ref 117, .ref 118, .ref 119, .ref 120, .ref 121, .ref 122, .ref 123, .ref 124, .ref 125, .ref 126, .ref 127, .ref 128, .ref 129, .ref 130, .ref 131, .ref 132, .ref 133, .ref 134, .ref 135, .ref 136, .ref 137, .ref 138, .ref 139, .ref 140, .ref 141, .ref 142, .ref 143, .ref 144, .ref 145, .ref 146, .ref 147, .ref 148, .ref 149, .ref 150, .ref 151, .ref 152, .ref 153, .ref 154, .ref 155, .ref 156, .ref 157, .ref 158, .ref 159, .ref 160, .ref 161, .ref 162, .ref 163, .ref 164, .ref 165, .ref 166, .ref 167, .ref 168, .ref 169, .ref 170, .ref 171, .ref 172, .ref 173, .ref 174, .ref 175, .ref 176, .ref 177, .ref 178, .ref 179, .ref 180, .ref 181, .ref 182, .ref 183, .ref 184, .ref 185, .ref 186, .ref 187, .ref 188, .ref 189, .ref 190, .ref 191, .ref 192, .ref 193, .ref 194, .ref 195, .ref 196, .ref 197, .ref 198, .ref 199, .ref 200, .ref 201, .ref 202, .ref 203, .ref 204, .ref 205, .ref 206, .ref 207, .ref 208, .ref 209, .ref 210, .ref 211, .ref 212, .ref 213, .ref 214, .ref 215, .ref 216, .ref 217, .ref 218, .ref 219, .ref 220, .ref 221, .ref 222, .ref 223, .ref 224, .ref 225, .ref 226, .ref 227, .ref 228, .ref 229, .ref 230, .ref 231, .ref 232, .ref 233, .ref 234, .ref 235, .ref 236, .ref 237, .ref 238, .ref 239, .ref 240, .ref 241, .ref 242, .ref 243, .ref 244, .ref 245, .ref 246, .ref 247, .ref 248, .ref 249, .ref 250, .ref 251, .ref 252, .ref 253, .ref 254, .ref 255, .ref 256, .ref 257, .ref 258, .ref 259, .ref 260, .ref 261, .ref 262, .ref 263, .ref 264, .ref 265], vm := .none },
  { cls := 42, slots := #[], vm := .none },
  { cls := 0, slots := #[], vm := .none },
  { cls := 26, slots := #[.ref 7, .int 0], vm := .none },
  { cls := 16, slots := #[.int (-128)], vm := .none },
  { cls := 16, slots := #[.int (-127)], vm := .none },
  { cls := 16, slots := #[.int (-126)], vm := .none },
  { cls := 16, slots := #[.int (-125)], vm := .none },
  { cls := 16, slots := #[.int (-124)], vm := .none },
  { cls := 16, slots := #[.int (-123)], vm := .none },
  { cls := 16, slots := #[.int (-122)], vm := .none },
  { cls := 16, slots := #[.int (-121)], vm := .none },
  { cls := 16, slots := #[.int (-120)], vm := .none },
  { cls := 16, slots := #[.int (-119)], vm := .none },
  { cls := 16, slots := #[.int (-118)], vm := .none },
  { cls := 16, slots := #[.int (-117)], vm := .none },
  { cls := 16, slots := #[.int (-116)], vm := .none },
  { cls := 16, slots := #[.int (-115)], vm := .none },
  { cls := 16, slots := #[.int (-114)], vm := .none },
  { cls := 16, slots := #[.int (-113)], vm := .none },
  { cls := 16, slots := #[.int (-112)], vm := .none },
  { cls := 16, slots := #[.int (-111)], vm := .none },
  { cls := 16, slots := #[.int (-110)], vm := .none },
  { cls := 16, slots := #[.int (-109)], vm := .none },
  { cls := 16, slots := #[.int (-108)], vm := .none },
  { cls := 16, slots := #[.int (-107)], vm := .none },
  { cls := 16, slots := #[.int (-106)], vm := .none },
  { cls := 16, slots := #[.int (-105)], vm := .none },
  { cls := 16, slots := #[.int (-104)], vm := .none },
  { cls := 16, slots := #[.int (-103)], vm := .none },
  { cls := 16, slots := #[.int (-102)], vm := .none },
  { cls := 16, slots := #[.int (-101)], vm := .none },
  { cls := 16, slots := #[.int (-100)], vm := .none },
  { cls := 16, slots := #[.int (-99)], vm := .none },
  { cls := 16, slots := #[.int (-98)], vm := .none },
  { cls := 16, slots := #[.int (-97)], vm := .none },
  { cls := 16, slots := #[.int (-96)], vm := .none },
  { cls := 16, slots := #[.int (-95)], vm := .none },
  { cls := 16, slots := #[.int (-94)], vm := .none },
  { cls := 16, slots := #[.int (-93)], vm := .none },
  { cls := 16, slots := #[.int (-92)], vm := .none },
  { cls := 16, slots := #[.int (-91)], vm := .none },
  { cls := 16, slots := #[.int (-90)], vm := .none },
  { cls := 16, slots := #[.int (-89)], vm := .none },
  { cls := 16, slots := #[.int (-88)], vm := .none },
  { cls := 16, slots := #[.int (-87)], vm := .none },
  { cls := 16, slots := #[.int (-86)], vm := .none },
  { cls := 16, slots := #[.int (-85)], vm := .none },
  { cls := 16, slots := #[.int (-84)], vm := .none },
  { cls := 16, slots := #[.int (-83)], vm := .none },
  { cls := 16, slots := #[.int (-82)], vm := .none },
  { cls := 16, slots := #[.int (-81)], vm := .none },
  { cls := 16, slots := #[.int (-80)], vm := .none },
  { cls := 16, slots := #[.int (-79)], vm := .none },
  { cls := 16, slots := #[.int (-78)], vm := .none },
  { cls := 16, slots := #[.int (-77)], vm := .none },
  { cls := 16, slots := #[.int (-76)], vm := .none },
  { cls := 16, slots := #[.int (-75)], vm := .none },
  { cls := 16, slots := #[.int (-74)], vm := .none },
  { cls := 16, slots := #[.int (-73)], vm := .none },
  { cls := 16, slots := #[.int (-72)], vm := .none },
  { cls := 16, slots := #[.int (-71)], vm := .none },
  { cls := 16, slots := #[.int (-70)], vm := .none },
  { cls := 16, slots := #[.int (-69)], vm := .none },
  { cls := 16, slots := #[.int (-68)], vm := .none },
  { cls := 16, slots := #[.int (-67)], vm := .none },
  { cls := 16, slots := #[.int (-66)], vm := .none },
  { cls := 16, slots := #[.int (-65)], vm := .none },
  { cls := 16, slots := #[.int (-64)], vm := .none },
  { cls := 16, slots := #[.int (-63)], vm := .none },
  { cls := 16, slots := #[.int (-62)], vm := .none },
  { cls := 16, slots := #[.int (-61)], vm := .none },
  { cls := 16, slots := #[.int (-60)], vm := .none },
  { cls := 16, slots := #[.int (-59)], vm := .none },
  { cls := 16, slots := #[.int (-58)], vm := .none },
  { cls := 16, slots := #[.int (-57)], vm := .none },
  { cls := 16, slots := #[.int (-56)], vm := .none },
  { cls := 16, slots := #[.int (-55)], vm := .none },
  { cls := 16, slots := #[.int (-54)], vm := .none },
  { cls := 16, slots := #[.int (-53)], vm := .none },
  { cls := 16, slots := #[.int (-52)], vm := .none },
  { cls := 16, slots := #[.int (-51)], vm := .none },
  { cls := 16, slots := #[.int (-50)], vm := .none },
  { cls := 16, slots := #[.int (-49)], vm := .none },
  { cls := 16, slots := #[.int (-48)], vm := .none },
  { cls := 16, slots := #[.int (-47)], vm := .none },
  { cls := 16, slots := #[.int (-46)], vm := .none },
  { cls := 16, slots := #[.int (-45)], vm := .none },
  { cls := 16, slots := #[.int (-44)], vm := .none },
  { cls := 16, slots := #[.int (-43)], vm := .none },
  { cls := 16, slots := #[.int (-42)], vm := .none },
  { cls := 16, slots := #[.int (-41)], vm := .none },
  { cls := 16, slots := #[.int (-40)], vm := .none },
  { cls := 16, slots := #[.int (-39)], vm := .none },
  { cls := 16, slots := #[.int (-38)], vm := .none },
  { cls := 16, slots := #[.int (-37)], vm := .none },
  { cls := 16, slots := #[.int (-36)], vm := .none },
  { cls := 16, slots := #[.int (-35)], vm := .none },
  { cls := 16, slots := #[.int (-34)], vm := .none },
  { cls := 16, slots := #[.int (-33)], vm := .none },
  { cls := 16, slots := #[.int (-32)], vm := .none },
  { cls := 16, slots := #[.int (-31)], vm := .none },
  { cls := 16, slots := #[.int (-30)], vm := .none },
  { cls := 16, slots := #[.int (-29)], vm := .none },
  { cls := 16, slots := #[.int (-28)], vm := .none },
  { cls := 16, slots := #[.int (-27)], vm := .none },
  { cls := 16, slots := #[.int (-26)], vm := .none },
  { cls := 16, slots := #[.int (-25)], vm := .none },
  { cls := 16, slots := #[.int (-24)], vm := .none },
  { cls := 16, slots := #[.int (-23)], vm := .none },
  { cls := 16, slots := #[.int (-22)], vm := .none },
  { cls := 16, slots := #[.int (-21)], vm := .none },
  { cls := 16, slots := #[.int (-20)], vm := .none },
  { cls := 16, slots := #[.int (-19)], vm := .none },
  { cls := 16, slots := #[.int (-18)], vm := .none },
  { cls := 16, slots := #[.int (-17)], vm := .none },
  { cls := 16, slots := #[.int (-16)], vm := .none },
  { cls := 16, slots := #[.int (-15)], vm := .none },
  { cls := 16, slots := #[.int (-14)], vm := .none },
  { cls := 16, slots := #[.int (-13)], vm := .none },
  { cls := 16, slots := #[.int (-12)], vm := .none },
  { cls := 16, slots := #[.int (-11)], vm := .none },
  { cls := 16, slots := #[.int (-10)], vm := .none },
  { cls := 16, slots := #[.int (-9)], vm := .none },
  { cls := 16, slots := #[.int (-8)], vm := .none },
  { cls := 16, slots := #[.int (-7)], vm := .none },
  { cls := 16, slots := #[.int (-6)], vm := .none },
  { cls := 16, slots := #[.int (-5)], vm := .none },
  { cls := 16, slots := #[.int (-4)], vm := .none },
  { cls := 16, slots := #[.int (-3)], vm := .none },
  { cls := 16, slots := #[.int (-2)], vm := .none },
  { cls := 16, slots := #[.int (-1)], vm := .none },
  { cls := 16, slots := #[.int 0], vm := .none },
  { cls := 16, slots := #[.int 1], vm := .none },
  { cls := 16, slots := #[.int 2], vm := .none },
  { cls := 16, slots := #[.int 3], vm := .none },
  { cls := 16, slots := #[.int 4], vm := .none },
  { cls := 16, slots := #[.int 5], vm := .none },
  { cls := 16, slots := #[.int 6], vm := .none },
  { cls := 16, slots := #[.int 7], vm := .none },
  { cls := 16, slots := #[.int 8], vm := .none },
  { cls := 16, slots := #[.int 9], vm := .none },
  { cls := 16, slots := #[.int 10], vm := .none },
  { cls := 16, slots := #[.int 11], vm := .none },
  { cls := 16, slots := #[.int 12], vm := .none },
  { cls := 16, slots := #[.int 13], vm := .none },
  { cls := 16, slots := #[.int 14], vm := .none },
  { cls := 16, slots := #[.int 15], vm := .none },
  { cls := 16, slots := #[.int 16], vm := .none },
  { cls := 16, slots := #[.int 17], vm := .none },
  { cls := 16, slots := #[.int 18], vm := .none },
  { cls := 16, slots := #[.int 19], vm := .none },
  { cls := 16, slots := #[.int 20], vm := .none },
  { cls := 16, slots := #[.int 21], vm := .none },
  { cls := 16, slots := #[.int 22], vm := .none },
  { cls := 16, slots := #[.int 23], vm := .none },
  { cls := 16, slots := #[.int 24], vm := .none },
  { cls := 16, slots := #[.int 25], vm := .none },
  { cls := 16, slots := #[.int 26], vm := .none },
  { cls := 16, slots := #[.int 27], vm := .none },
  { cls := 16, slots := #[.int 28], vm := .none },
  { cls := 16, slots := #[.int 29], vm := .none },
  { cls := 16, slots := #[.int 30], vm := .none },
  { cls := 16, slots := #[.int 31], vm := .none },
  { cls := 16, slots := #[.int 32], vm := .none },
  { cls := 16, slots := #[.int 33], vm := .none },
  { cls := 16, slots := #[.int 34], vm := .none },
  { cls := 16, slots := #[.int 35], vm := .none },
  { cls := 16, slots := #[.int 36], vm := .none },
  { cls := 16, slots := #[.int 37], vm := .none },
  { cls := 16, slots := #[.int 38], vm := .none },
  { cls := 16, slots := #[.int 39], vm := .none },
  { cls := 16, slots := #[.int 40], vm := .none },
  { cls := 16, slots := #[.int 41], vm := .none },
  { cls := 16, slots := #[.int 42], vm := .none },
  { cls := 16, slots := #[.int 43], vm := .none },
  { cls := 16, slots := #[.int 44], vm := .none },
  { cls := 16, slots := #[.int 45], vm := .none },
  { cls := 16, slots := #[.int 46], vm := .none },
  { cls := 16, slots := #[.int 47], vm := .none },
  { cls := 16, slots := #[.int 48], vm := .none },
  { cls := 16, slots := #[.int 49], vm := .none },
  { cls := 16, slots := #[.int 50], vm := .none },
  { cls := 16, slots := #[.int 51], vm := .none },
  { cls := 16, slots := #[.int 52], vm := .none },
  { cls := 16, slots := #[.int 53], vm := .none },
  { cls := 16, slots := #[.int 54], vm := .none },
  { cls := 16, slots := #[.int 55], vm := .none },
  { cls := 16, slots := #[.int 56], vm := .none },
  { cls := 16, slots := #[.int 57], vm := .none },
  { cls := 16, slots := #[.int 58], vm := .none },
  { cls := 16, slots := #[.int 59], vm := .none },
  { cls := 16, slots := #[.int 60], vm := .none },
  { cls := 16, slots := #[.int 61], vm := .none },
  { cls := 16, slots := #[.int 62], vm := .none },
  { cls := 16, slots := #[.int 63], vm := .none },
  { cls := 16, slots := #[.int 64], vm := .none },
  { cls := 16, slots := #[.int 65], vm := .none },
  { cls := 16, slots := #[.int 66], vm := .none },
  { cls := 16, slots := #[.int 67], vm := .none },
  { cls := 16, slots := #[.int 68], vm := .none },
  { cls := 16, slots := #[.int 69], vm := .none },
  { cls := 16, slots := #[.int 70], vm := .none },
  { cls := 16, slots := #[.int 71], vm := .none },
  { cls := 16, slots := #[.int 72], vm := .none },
  { cls := 16, slots := #[.int 73], vm := .none },
  { cls := 16, slots := #[.int 74], vm := .none },
  { cls := 16, slots := #[.int 75], vm := .none },
  { cls := 16, slots := #[.int 76], vm := .none },
  { cls := 16, slots := #[.int 77], vm := .none },
  { cls := 16, slots := #[.int 78], vm := .none },
  { cls := 16, slots := #[.int 79], vm := .none },
  { cls := 16, slots := #[.int 80], vm := .none },
  { cls := 16, slots := #[.int 81], vm := .none },
  { cls := 16, slots := #[.int 82], vm := .none },
  { cls := 16, slots := #[.int 83], vm := .none },
  { cls := 16, slots := #[.int 84], vm := .none },
  { cls := 16, slots := #[.int 85], vm := .none },
  { cls := 16, slots := #[.int 86], vm := .none },
  { cls := 16, slots := #[.int 87], vm := .none },
  { cls := 16, slots := #[.int 88], vm := .none },
  { cls := 16, slots := #[.int 89], vm := .none },
  { cls := 16, slots := #[.int 90], vm := .none },
  { cls := 16, slots := #[.int 91], vm := .none },
  { cls := 16, slots := #[.int 92], vm := .none },
  { cls := 16, slots := #[.int 93], vm := .none },
  { cls := 16, slots := #[.int 94], vm := .none },
  { cls := 16, slots := #[.int 95], vm := .none },
  { cls := 16, slots := #[.int 96], vm := .none },
  { cls := 16, slots := #[.int 97], vm := .none },
  { cls := 16, slots := #[.int 98], vm := .none },
  { cls := 16, slots := #[.int 99], vm := .none },
  { cls := 16, slots := #[.int 100], vm := .none },
  { cls := 16, slots := #[.int 101], vm := .none },
  { cls := 16, slots := #[.int 102], vm := .none },
  { cls := 16, slots := #[.int 103], vm := .none },
  { cls := 16, slots := #[.int 104], vm := .none },
  { cls := 16, slots := #[.int 105], vm := .none },
  { cls := 16, slots := #[.int 106], vm := .none },
  { cls := 16, slots := #[.int 107], vm := .none },
  { cls := 16, slots := #[.int 108], vm := .none },
  { cls := 16, slots := #[.int 109], vm := .none },
  { cls := 16, slots := #[.int 110], vm := .none },
  { cls := 16, slots := #[.int 111], vm := .none },
  { cls := 16, slots := #[.int 112], vm := .none },
  { cls := 16, slots := #[.int 113], vm := .none },
  { cls := 16, slots := #[.int 114], vm := .none },
  { cls := 16, slots := #[.int 115], vm := .none },
  { cls := 16, slots := #[.int 116], vm := .none },
  { cls := 16, slots := #[.int 117], vm := .none },
  { cls := 16, slots := #[.int 118], vm := .none },
  { cls := 16, slots := #[.int 119], vm := .none },
  { cls := 16, slots := #[.int 120], vm := .none },
  { cls := 16, slots := #[.int 121], vm := .none },
  { cls := 16, slots := #[.int 122], vm := .none },
  { cls := 16, slots := #[.int 123], vm := .none },
  { cls := 16, slots := #[.int 124], vm := .none },
  { cls := 16, slots := #[.int 125], vm := .none },
  { cls := 16, slots := #[.int 126], vm := .none },
  { cls := 16, slots := #[.int 127], vm := .none }]
def k43 : Class := { plain "[[J" (some 0) with kind := .array 40 (.array .long), interfaces := #[9, 10], accessFlags := 1041 }
def k44 : Class := { plain "[[[J" (some 0) with kind := .array 43 (.array (.array .long)), interfaces := #[9, 10], accessFlags := 1041 }
def classes : Array Class := #[k0, k1, k2, k3, k4, k5, k6, k7, k8, k9, k10, k11, k12, k13, k14, k15, k16, k17, k18, k19, k20, k21, k22, k23, k24, k25, k26, k27, k28, k29, k30, k31, k32, k33, k34, k35, k36, k37, k38, k39, k40, k41, k42, k43, k44]
def interned : List (Array UInt16 × Addr) := []
def slotsUsed : Nat := 533
def theMethod : MethodId := ⟨1, 1⟩
def args0 : Array Value := #[.int 5, .int 7, .int 9, .int 6]
def aboutOver (below : List Frame) : State where
  vm := { classes := classes, interned := interned.toArray }
  heap := heap
  slotsUsed := slotsUsed
  threads := #[{ frames := .invoking theMethod args0 :: below }]
def below0 : List Frame := [.native { method := ⟨0, 0⟩, args := #[] }]
def about1 : State := aboutOver below0
def p0 : Program := .bare "" "" ""
def e0 : Env := launch0.env 0 0 0
theorem w_frames : about1.frames = Frame.invoking theMethod args0 :: below0 := rfl
set_option maxRecDepth 65536 in
theorem w_args : argsFit about1.vm theMethod args0 = true := by decide +kernel
set_option maxRecDepth 65536 in
theorem w_heap : heapFits about1 = true := by decide +kernel
set_option maxRecDepth 65536 in
theorem w_runnable : about1.curStatus? = some .runnable := by decide +kernel
set_option maxRecDepth 65536 in
theorem w_alone : about1.alone = true := by decide +kernel
set_option maxRecDepth 65536 in
theorem w_named : about1.methodNamed? x = some theMethod := by decide +kernel
set_option maxRecDepth 65536 in
theorem w_hears : about1.hears theMethod below0 = true := by decide +kernel
set_option maxRecDepth 65536 in
theorem w_ripe : about1.ripe theMethod args0 below0 = true := by decide +kernel
theorem w_running : about1.status = .running := rfl
set_option maxRecDepth 65536 in
theorem w_room : about1.hasRoom e0.platform room_1 = true :=
  launch0.hasRoom_least _ room_1 (by decide +kernel) (by decide +kernel) (by decide +kernel) (by decide +kernel) (by decide +kernel) (by decide +kernel)
theorem allAtoms_all (ts : List Jvm.Cond) (a : Array Jvm.Value) (st : Jvm.State) : (allAtoms ts).before a st = ts.all (fun c => c.before a st) := by
  induction ts with
  | nil => rfl
  | cons c t ih =>
    show (Jvm.Cond.and c (allAtoms t)).before a st = _
    rw [Jvm.Cond.before_and, ih, List.all_cons]
def words1 : List Jvm.Cond := Jvm.Cond.code x code maxLocals ret :: tables_1
/-- a 'code' word, met by the world's own term for the bytes: nothing is compared byte by byte -/
theorem code_word {y : MethodName} {bytes : ByteArray} {mx : Nat} {rt : Option FieldType} {a : Array Value} {s : State} {m : MethodId} {meth : Method} {c : Code} (h1 : s.methodNamed? y = some m) (h2 : s.vm.method? m = some meth) (h3 : meth.code = some c) (h4 : c.code = bytes)
    (h5 : (c.maxLocals == mx && c.exceptionTable.isEmpty && decide (c.maxStack ≤ mostOperands) && decide (meth.sig.returnType = rt) && !meth.locks && decide (parseMethodDescriptor y.desc = some meth.sig)) = true) : (Jvm.Cond.code y bytes mx rt).before a s = true := by
  simp only [Bool.and_eq_true, beq_iff_eq, Bool.not_eq_true', decide_eq_true_eq] at h5
  obtain ⟨⟨⟨⟨⟨g1, g2⟩, g3⟩, g4⟩, g5⟩, g6⟩ := h5
  simp [Cond.before, Cond.holds, Cond.value, h1, h2, h3, h4, g1, g2, g3, g4, g5, g6]
def isCode : Jvm.Cond → Bool
  | .code _ _ _ _ => true
  | _ => false
theorem all_split {L : List Jvm.Cond} {P : Jvm.Cond → Bool} (h1 : L.all (fun c => isCode c || P c) = true) (h2 : ∀ c ∈ L.filter isCode, P c = true) : L.all P = true := by
  refine List.all_eq_true.mpr fun c hc => ?_
  have h := List.all_eq_true.mp h1 c hc
  rcases Bool.eq_false_or_eq_true (isCode c) with hi | hi
  · exact h2 c (List.mem_filter.mpr ⟨hc, hi⟩)
  · simpa [hi] using h
set_option maxRecDepth 65536 in
theorem w_c0 : (Jvm.Cond.code x code maxLocals ret).before args0 about1 = true := code_word (m := ⟨1, 1⟩) (meth := k1m1) (c := k1c1) (by decide +kernel) rfl rfl rfl (by decide +kernel)
set_option maxRecDepth 65536 in
theorem w_c1 : (Jvm.Cond.code ({ cls := "java/util/ArrayList", name := "<init>", desc := "()V" } : Jvm.MethodName) jdk_38_method_2_code (1 : Nat) (Option.none : Option Jvm.ClassFile.FieldType)).before args0 about1 = true := code_word (m := ⟨11, 0⟩) (meth := k11m0) (c := k11c0) (by decide +kernel) rfl rfl rfl (by decide +kernel)
set_option maxRecDepth 65536 in
theorem w_c2 : (Jvm.Cond.code ({ cls := "java/util/AbstractList", name := "<init>", desc := "()V" } : Jvm.MethodName) jdk_39_method_1_code (1 : Nat) (Option.none : Option Jvm.ClassFile.FieldType)).before args0 about1 = true := code_word (m := ⟨7, 0⟩) (meth := k7m0) (c := k7c0) (by decide +kernel) rfl rfl rfl (by decide +kernel)
set_option maxRecDepth 65536 in
theorem w_c3 : (Jvm.Cond.code ({ cls := "java/util/AbstractCollection", name := "<init>", desc := "()V" } : Jvm.MethodName) jdk_22_method_1_code (1 : Nat) (Option.none : Option Jvm.ClassFile.FieldType)).before args0 about1 = true := code_word (m := ⟨4, 0⟩) (meth := k4m0) (c := k4c0) (by decide +kernel) rfl rfl rfl (by decide +kernel)
set_option maxRecDepth 65536 in
theorem w_c4 : (Jvm.Cond.code ({ cls := "java/lang/Object", name := "<init>", desc := "()V" } : Jvm.MethodName) object_method_1_code (1 : Nat) (Option.none : Option Jvm.ClassFile.FieldType)).before args0 about1 = true := code_word (m := ⟨0, 0⟩) (meth := k0m0) (c := k0c0) (by decide +kernel) rfl rfl rfl (by decide +kernel)
set_option maxRecDepth 65536 in
theorem w_c5 : (Jvm.Cond.code ({ cls := "java/lang/Integer", name := "valueOf", desc := "(I)Ljava/lang/Integer;" } : Jvm.MethodName) jdk_33_method_22_code (1 : Nat) (Option.some (Jvm.ClassFile.FieldType.object "java/lang/Integer"))).before args0 about1 = true := code_word (m := ⟨16, 0⟩) (meth := k16m0) (c := k16c0) (by decide +kernel) rfl rfl rfl (by decide +kernel)
set_option maxRecDepth 65536 in
theorem w_c6 : (Jvm.Cond.code ({ cls := "java/util/ArrayList", name := "add", desc := "(Ljava/lang/Object;)Z" } : Jvm.MethodName) jdk_38_method_25_code (2 : Nat) (Option.some Jvm.ClassFile.FieldType.boolean)).before args0 about1 = true := code_word (m := ⟨11, 6⟩) (meth := k11m6) (c := k11c6) (by decide +kernel) rfl rfl rfl (by decide +kernel)
set_option maxRecDepth 65536 in
theorem w_c7 : (Jvm.Cond.code ({ cls := "java/util/ArrayList", name := "add", desc := "(Ljava/lang/Object;[Ljava/lang/Object;I)V" } : Jvm.MethodName) jdk_38_method_24_code (4 : Nat) (Option.none : Option Jvm.ClassFile.FieldType)).before args0 about1 = true := code_word (m := ⟨11, 5⟩) (meth := k11m5) (c := k11c5) (by decide +kernel) rfl rfl rfl (by decide +kernel)
set_option maxRecDepth 65536 in
theorem w_c8 : (Jvm.Cond.code ({ cls := "java/util/ArrayList", name := "grow", desc := "()[Ljava/lang/Object;" } : Jvm.MethodName) jdk_38_method_7_code (1 : Nat) (Option.some (Jvm.ClassFile.FieldType.array (Jvm.ClassFile.FieldType.object "java/lang/Object")))).before args0 about1 = true := code_word (m := ⟨11, 2⟩) (meth := k11m2) (c := k11c2) (by decide +kernel) rfl rfl rfl (by decide +kernel)
set_option maxRecDepth 65536 in
theorem w_c9 : (Jvm.Cond.code ({ cls := "java/util/ArrayList", name := "grow", desc := "(I)[Ljava/lang/Object;" } : Jvm.MethodName) jdk_38_method_6_code (4 : Nat) (Option.some (Jvm.ClassFile.FieldType.array (Jvm.ClassFile.FieldType.object "java/lang/Object")))).before args0 about1 = true := code_word (m := ⟨11, 1⟩) (meth := k11m1) (c := k11c1) (by decide +kernel) rfl rfl rfl (by decide +kernel)
set_option maxRecDepth 65536 in
theorem w_c10 : (Jvm.Cond.code ({ cls := "java/lang/Math", name := "max", desc := "(II)I" } : Jvm.MethodName) jdk_29_method_65_code (2 : Nat) (Option.some Jvm.ClassFile.FieldType.int)).before args0 about1 = true := code_word (m := ⟨18, 1⟩) (meth := k18m1) (c := k18c1) (by decide +kernel) rfl rfl rfl (by decide +kernel)
set_option maxRecDepth 65536 in
theorem w_c11 : (Jvm.Cond.code ({ cls := "com/example/shiftweave/shiftweave/rostering/ShiftRequest", name := "<init>", desc := "(IIII)V" } : Jvm.MethodName) prog_77_method_1_code (5 : Nat) (Option.none : Option Jvm.ClassFile.FieldType)).before args0 about1 = true := code_word (m := ⟨20, 0⟩) (meth := k20m0) (c := k20c0) (by decide +kernel) rfl rfl rfl (by decide +kernel)
set_option maxRecDepth 65536 in
theorem w_c12 : (Jvm.Cond.code ({ cls := "java/lang/Record", name := "<init>", desc := "()V" } : Jvm.MethodName) jdk_30_method_1_code (1 : Nat) (Option.none : Option Jvm.ClassFile.FieldType)).before args0 about1 = true := code_word (m := ⟨19, 0⟩) (meth := k19m0) (c := k19c0) (by decide +kernel) rfl rfl rfl (by decide +kernel)
set_option maxRecDepth 65536 in
theorem w_c13 : (Jvm.Cond.code ({ cls := "com/example/shiftweave/shiftweave/rostering/Ward", name := "<init>", desc := "(ILjava/util/List;Ljava/util/List;Ljava/util/List;Ljava/util/List;Ljava/util/List;)V" } : Jvm.MethodName) prog_83_method_1_code (7 : Nat) (Option.none : Option Jvm.ClassFile.FieldType)).before args0 about1 = true := code_word (m := ⟨21, 0⟩) (meth := k21m0) (c := k21c0) (by decide +kernel) rfl rfl rfl (by decide +kernel)
set_option maxRecDepth 65536 in
theorem w_c14 : (Jvm.Cond.code ({ cls := "java/util/List", name := "copyOf", desc := "(Ljava/util/Collection;)Ljava/util/List;" } : Jvm.MethodName) jdk_40_method_48_code (1 : Nat) (Option.some (Jvm.ClassFile.FieldType.object "java/util/List"))).before args0 about1 = true := code_word (m := ⟨6, 5⟩) (meth := k6m5) (c := k6c5) (by decide +kernel) rfl rfl rfl (by decide +kernel)
set_option maxRecDepth 65536 in
theorem w_c15 : (Jvm.Cond.code ({ cls := "java/util/ImmutableCollections", name := "listCopy", desc := "(Ljava/util/Collection;)Ljava/util/List;" } : Jvm.MethodName) jdk_56_method_3_code (2 : Nat) (Option.some (Jvm.ClassFile.FieldType.object "java/util/List"))).before args0 about1 = true := code_word (m := ⟨22, 1⟩) (meth := k22m1) (c := k22c1) (by decide +kernel) rfl rfl rfl (by decide +kernel)
set_option maxRecDepth 65536 in
theorem w_c16 : (Jvm.Cond.code ({ cls := "java/util/ArrayList", name := "isEmpty", desc := "()Z" } : Jvm.MethodName) jdk_38_method_9_code (1 : Nat) (Option.some Jvm.ClassFile.FieldType.boolean)).before args0 about1 = true := code_word (m := ⟨11, 3⟩) (meth := k11m3) (c := k11c3) (by decide +kernel) rfl rfl rfl (by decide +kernel)
set_option maxRecDepth 65536 in
theorem w_c17 : (Jvm.Cond.code ({ cls := "java/util/ArrayList", name := "toArray", desc := "()[Ljava/lang/Object;" } : Jvm.MethodName) jdk_38_method_16_code (1 : Nat) (Option.some (Jvm.ClassFile.FieldType.array (Jvm.ClassFile.FieldType.object "java/lang/Object")))).before args0 about1 = true := code_word (m := ⟨11, 4⟩) (meth := k11m4) (c := k11c4) (by decide +kernel) rfl rfl rfl (by decide +kernel)
set_option maxRecDepth 65536 in
theorem w_c18 : (Jvm.Cond.code ({ cls := "java/util/Arrays", name := "copyOf", desc := "([Ljava/lang/Object;I)[Ljava/lang/Object;" } : Jvm.MethodName) jdk_65_method_119_code (2 : Nat) (Option.some (Jvm.ClassFile.FieldType.array (Jvm.ClassFile.FieldType.object "java/lang/Object")))).before args0 about1 = true := code_word (m := ⟨27, 2⟩) (meth := k27m2) (c := k27c2) (by decide +kernel) rfl rfl rfl (by decide +kernel)
set_option maxRecDepth 65536 in
theorem w_c19 : (Jvm.Cond.code ({ cls := "java/util/Arrays", name := "copyOf", desc := "([Ljava/lang/Object;ILjava/lang/Class;)[Ljava/lang/Object;" } : Jvm.MethodName) jdk_65_method_120_code (4 : Nat) (Option.some (Jvm.ClassFile.FieldType.array (Jvm.ClassFile.FieldType.object "java/lang/Object")))).before args0 about1 = true := code_word (m := ⟨27, 3⟩) (meth := k27m3) (c := k27c3) (by decide +kernel) rfl rfl rfl (by decide +kernel)
set_option maxRecDepth 65536 in
theorem w_c20 : (Jvm.Cond.code ({ cls := "java/lang/Math", name := "min", desc := "(II)I" } : Jvm.MethodName) jdk_29_method_69_code (2 : Nat) (Option.some Jvm.ClassFile.FieldType.int)).before args0 about1 = true := code_word (m := ⟨18, 3⟩) (meth := k18m3) (c := k18c3) (by decide +kernel) rfl rfl rfl (by decide +kernel)
set_option maxRecDepth 65536 in
theorem w_c21 : (Jvm.Cond.code ({ cls := "java/util/List", name := "of", desc := "([Ljava/lang/Object;)Ljava/util/List;" } : Jvm.MethodName) jdk_40_method_47_code (2 : Nat) (Option.some (Jvm.ClassFile.FieldType.object "java/util/List"))).before args0 about1 = true := code_word (m := ⟨6, 4⟩) (meth := k6m4) (c := k6c4) (by decide +kernel) rfl rfl rfl (by decide +kernel)
set_option maxRecDepth 65536 in
theorem w_c22 : (Jvm.Cond.code ({ cls := "java/util/ImmutableCollections$List12", name := "<init>", desc := "(Ljava/lang/Object;Ljava/lang/Object;)V" } : Jvm.MethodName) jdk_44_method_2_code (3 : Nat) (Option.none : Option Jvm.ClassFile.FieldType)).before args0 about1 = true := code_word (m := ⟨25, 1⟩) (meth := k25m1) (c := k25c1) (by decide +kernel) rfl rfl rfl (by decide +kernel)
set_option maxRecDepth 65536 in
theorem w_c23 : (Jvm.Cond.code ({ cls := "java/util/ImmutableCollections$AbstractImmutableList", name := "<init>", desc := "()V" } : Jvm.MethodName) jdk_46_method_1_code (1 : Nat) (Option.none : Option Jvm.ClassFile.FieldType)).before args0 about1 = true := code_word (m := ⟨24, 0⟩) (meth := k24m0) (c := k24c0) (by decide +kernel) rfl rfl rfl (by decide +kernel)
set_option maxRecDepth 65536 in
theorem w_c24 : (Jvm.Cond.code ({ cls := "java/util/ImmutableCollections$AbstractImmutableCollection", name := "<init>", desc := "()V" } : Jvm.MethodName) jdk_47_method_1_code (1 : Nat) (Option.none : Option Jvm.ClassFile.FieldType)).before args0 about1 = true := code_word (m := ⟨23, 0⟩) (meth := k23m0) (c := k23c0) (by decide +kernel) rfl rfl rfl (by decide +kernel)
set_option maxRecDepth 65536 in
theorem w_c25 : (Jvm.Cond.code ({ cls := "java/util/Objects", name := "requireNonNull", desc := "(Ljava/lang/Object;)Ljava/lang/Object;" } : Jvm.MethodName) jdk_31_method_10_code (1 : Nat) (Option.some (Jvm.ClassFile.FieldType.object "java/lang/Object"))).before args0 about1 = true := code_word (m := ⟨29, 1⟩) (meth := k29m1) (c := k29c1) (by decide +kernel) rfl rfl rfl (by decide +kernel)
set_option maxRecDepth 65536 in
theorem w_c26 : (Jvm.Cond.code ({ cls := "java/util/ImmutableCollections$List12", name := "<init>", desc := "(Ljava/lang/Object;)V" } : Jvm.MethodName) jdk_44_method_1_code (2 : Nat) (Option.none : Option Jvm.ClassFile.FieldType)).before args0 about1 = true := code_word (m := ⟨25, 0⟩) (meth := k25m0) (c := k25c0) (by decide +kernel) rfl rfl rfl (by decide +kernel)
set_option maxRecDepth 65536 in
theorem w_c27 : (Jvm.Cond.code ({ cls := "java/util/List", name := "of", desc := "()Ljava/util/List;" } : Jvm.MethodName) jdk_40_method_36_code (0 : Nat) (Option.some (Jvm.ClassFile.FieldType.object "java/util/List"))).before args0 about1 = true := code_word (m := ⟨6, 3⟩) (meth := k6m3) (c := k6c3) (by decide +kernel) rfl rfl rfl (by decide +kernel)
set_option maxRecDepth 65536 in
theorem w_c28 : (Jvm.Cond.code ({ cls := "com/example/shiftweave/shiftweave/rostering/Penalties", name := "<init>", desc := "(Lcom/example/shiftweave/shiftweave/rostering/Ward;)V" } : Jvm.MethodName) prog_56_method_1_code (19 : Nat) (Option.none : Option Jvm.ClassFile.FieldType)).before args0 about1 = true := code_word (m := ⟨30, 0⟩) (meth := k30m0) (c := k30c0) (by decide +kernel) rfl rfl rfl (by decide +kernel)
set_option maxRecDepth 65536 in
theorem w_c29 : (Jvm.Cond.code ({ cls := "com/example/shiftweave/shiftweave/rostering/Ward", name := "shifts", desc := "()Ljava/util/List;" } : Jvm.MethodName) prog_83_method_8_code (1 : Nat) (Option.some (Jvm.ClassFile.FieldType.object "java/util/List"))).before args0 about1 = true := code_word (m := ⟨21, 2⟩) (meth := k21m2) (c := k21c2) (by decide +kernel) rfl rfl rfl (by decide +kernel)
set_option maxRecDepth 65536 in
theorem w_c30 : (Jvm.Cond.code ({ cls := "java/util/ImmutableCollections$List12", name := "size", desc := "()I" } : Jvm.MethodName) jdk_44_method_3_code (1 : Nat) (Option.some Jvm.ClassFile.FieldType.int)).before args0 about1 = true := code_word (m := ⟨25, 2⟩) (meth := k25m2) (c := k25c2) (by decide +kernel) rfl rfl rfl (by decide +kernel)
set_option maxRecDepth 65536 in
theorem w_c31 : (Jvm.Cond.code ({ cls := "com/example/shiftweave/shiftweave/rostering/Ward", name := "staff", desc := "()Ljava/util/List;" } : Jvm.MethodName) prog_83_method_9_code (1 : Nat) (Option.some (Jvm.ClassFile.FieldType.object "java/util/List"))).before args0 about1 = true := code_word (m := ⟨21, 3⟩) (meth := k21m3) (c := k21c3) (by decide +kernel) rfl rfl rfl (by decide +kernel)
set_option maxRecDepth 65536 in
theorem w_c32 : (Jvm.Cond.code ({ cls := "com/example/shiftweave/shiftweave/rostering/Ward", name := "days", desc := "()I" } : Jvm.MethodName) prog_83_method_7_code (1 : Nat) (Option.some Jvm.ClassFile.FieldType.int)).before args0 about1 = true := code_word (m := ⟨21, 1⟩) (meth := k21m1) (c := k21c1) (by decide +kernel) rfl rfl rfl (by decide +kernel)
set_option maxRecDepth 65536 in
theorem w_c33 : (Jvm.Cond.code ({ cls := "java/util/Arrays", name := "fill", desc := "([Ljava/lang/Object;Ljava/lang/Object;)V" } : Jvm.MethodName) jdk_65_method_117_code (4 : Nat) (Option.none : Option Jvm.ClassFile.FieldType)).before args0 about1 = true := code_word (m := ⟨27, 1⟩) (meth := k27m1) (c := k27c1) (by decide +kernel) rfl rfl rfl (by decide +kernel)
set_option maxRecDepth 65536 in
theorem w_c34 : (Jvm.Cond.code ({ cls := "com/example/shiftweave/shiftweave/rostering/Ward", name := "cover", desc := "()Ljava/util/List;" } : Jvm.MethodName) prog_83_method_12_code (1 : Nat) (Option.some (Jvm.ClassFile.FieldType.object "java/util/List"))).before args0 about1 = true := code_word (m := ⟨21, 6⟩) (meth := k21m6) (c := k21c6) (by decide +kernel) rfl rfl rfl (by decide +kernel)
set_option maxRecDepth 65536 in
theorem w_c35 : (Jvm.Cond.code ({ cls := "java/util/ImmutableCollections$AbstractImmutableList", name := "iterator", desc := "()Ljava/util/Iterator;" } : Jvm.MethodName) jdk_46_method_10_code (1 : Nat) (Option.some (Jvm.ClassFile.FieldType.object "java/util/Iterator"))).before args0 about1 = true := code_word (m := ⟨24, 1⟩) (meth := k24m1) (c := k24c1) (by decide +kernel) rfl rfl rfl (by decide +kernel)
set_option maxRecDepth 65536 in
theorem w_c36 : (Jvm.Cond.code ({ cls := "java/util/ImmutableCollections$ListN", name := "size", desc := "()I" } : Jvm.MethodName) jdk_45_method_3_code (1 : Nat) (Option.some Jvm.ClassFile.FieldType.int)).before args0 about1 = true := code_word (m := ⟨26, 0⟩) (meth := k26m0) (c := k26c0) (by decide +kernel) rfl rfl rfl (by decide +kernel)
set_option maxRecDepth 65536 in
theorem w_c37 : (Jvm.Cond.code ({ cls := "java/util/ImmutableCollections$ListItr", name := "<init>", desc := "(Ljava/util/List;I)V" } : Jvm.MethodName) jdk_53_method_1_code (3 : Nat) (Option.none : Option Jvm.ClassFile.FieldType)).before args0 about1 = true := code_word (m := ⟨33, 0⟩) (meth := k33m0) (c := k33c0) (by decide +kernel) rfl rfl rfl (by decide +kernel)
set_option maxRecDepth 65536 in
theorem w_c38 : (Jvm.Cond.code ({ cls := "java/util/ImmutableCollections$ListItr", name := "hasNext", desc := "()Z" } : Jvm.MethodName) jdk_53_method_3_code (1 : Nat) (Option.some Jvm.ClassFile.FieldType.boolean)).before args0 about1 = true := code_word (m := ⟨33, 1⟩) (meth := k33m1) (c := k33c1) (by decide +kernel) rfl rfl rfl (by decide +kernel)
set_option maxRecDepth 65536 in
theorem w_c39 : (Jvm.Cond.code ({ cls := "java/lang/Math", name := "max", desc := "(JJ)J" } : Jvm.MethodName) jdk_29_method_66_code (4 : Nat) (Option.some Jvm.ClassFile.FieldType.long)).before args0 about1 = true := code_word (m := ⟨18, 2⟩) (meth := k18m2) (c := k18c2) (by decide +kernel) rfl rfl rfl (by decide +kernel)
set_option maxRecDepth 65536 in
theorem w_c40 : (Jvm.Cond.code ({ cls := "com/example/shiftweave/shiftweave/rostering/Ward", name := "onRequests", desc := "()Ljava/util/List;" } : Jvm.MethodName) prog_83_method_10_code (1 : Nat) (Option.some (Jvm.ClassFile.FieldType.object "java/util/List"))).before args0 about1 = true := code_word (m := ⟨21, 4⟩) (meth := k21m4) (c := k21c4) (by decide +kernel) rfl rfl rfl (by decide +kernel)
set_option maxRecDepth 65536 in
theorem w_c41 : (Jvm.Cond.code ({ cls := "java/util/ImmutableCollections$List12", name := "get", desc := "(I)Ljava/lang/Object;" } : Jvm.MethodName) jdk_44_method_5_code (2 : Nat) (Option.some (Jvm.ClassFile.FieldType.object "java/lang/Object"))).before args0 about1 = true := code_word (m := ⟨25, 3⟩) (meth := k25m3) (c := k25c3) (by decide +kernel) rfl rfl rfl (by decide +kernel)
set_option maxRecDepth 65536 in
theorem w_c42 : (Jvm.Cond.code ({ cls := "com/example/shiftweave/shiftweave/rostering/ShiftRequest", name := "shift", desc := "()I" } : Jvm.MethodName) prog_77_method_7_code (1 : Nat) (Option.some Jvm.ClassFile.FieldType.int)).before args0 about1 = true := code_word (m := ⟨20, 3⟩) (meth := k20m3) (c := k20c3) (by decide +kernel) rfl rfl rfl (by decide +kernel)
set_option maxRecDepth 65536 in
theorem w_c43 : (Jvm.Cond.code ({ cls := "com/example/shiftweave/shiftweave/rostering/ShiftRequest", name := "staff", desc := "()I" } : Jvm.MethodName) prog_77_method_5_code (1 : Nat) (Option.some Jvm.ClassFile.FieldType.int)).before args0 about1 = true := code_word (m := ⟨20, 1⟩) (meth := k20m1) (c := k20c1) (by decide +kernel) rfl rfl rfl (by decide +kernel)
set_option maxRecDepth 65536 in
theorem w_c44 : (Jvm.Cond.code ({ cls := "com/example/shiftweave/shiftweave/rostering/ShiftRequest", name := "day", desc := "()I" } : Jvm.MethodName) prog_77_method_6_code (1 : Nat) (Option.some Jvm.ClassFile.FieldType.int)).before args0 about1 = true := code_word (m := ⟨20, 2⟩) (meth := k20m2) (c := k20c2) (by decide +kernel) rfl rfl rfl (by decide +kernel)
set_option maxRecDepth 65536 in
theorem w_c45 : (Jvm.Cond.code ({ cls := "com/example/shiftweave/shiftweave/rostering/ShiftRequest", name := "weight", desc := "()I" } : Jvm.MethodName) prog_77_method_8_code (1 : Nat) (Option.some Jvm.ClassFile.FieldType.int)).before args0 about1 = true := code_word (m := ⟨20, 4⟩) (meth := k20m4) (c := k20c4) (by decide +kernel) rfl rfl rfl (by decide +kernel)
set_option maxRecDepth 65536 in
theorem w_c46 : (Jvm.Cond.code ({ cls := "com/example/shiftweave/shiftweave/rostering/Ward", name := "offRequests", desc := "()Ljava/util/List;" } : Jvm.MethodName) prog_83_method_11_code (1 : Nat) (Option.some (Jvm.ClassFile.FieldType.object "java/util/List"))).before args0 about1 = true := code_word (m := ⟨21, 5⟩) (meth := k21m5) (c := k21c5) (by decide +kernel) rfl rfl rfl (by decide +kernel)
set_option maxRecDepth 65536 in
theorem w_c47 : (Jvm.Cond.code ({ cls := "com/example/shiftweave/shiftweave/rostering/Penalties", name := "requests", desc := "(III)J" } : Jvm.MethodName) prog_56_method_3_code (4 : Nat) (Option.some Jvm.ClassFile.FieldType.long)).before args0 about1 = true := code_word (m := ⟨30, 1⟩) (meth := k30m1) (c := k30c1) (by decide +kernel) rfl rfl rfl (by decide +kernel)
def codes1 : List Jvm.Cond := [Jvm.Cond.code x code maxLocals ret, Jvm.Cond.code ({ cls := "java/util/ArrayList", name := "<init>", desc := "()V" } : Jvm.MethodName) jdk_38_method_2_code (1 : Nat) (Option.none : Option Jvm.ClassFile.FieldType), Jvm.Cond.code ({ cls := "java/util/AbstractList", name := "<init>", desc := "()V" } : Jvm.MethodName) jdk_39_method_1_code (1 : Nat) (Option.none : Option Jvm.ClassFile.FieldType), Jvm.Cond.code ({ cls := "java/util/AbstractCollection", name := "<init>", desc := "()V" } : Jvm.MethodName) jdk_22_method_1_code (1 : Nat) (Option.none : Option Jvm.ClassFile.FieldType), Jvm.Cond.code ({ cls := "java/lang/Object", name := "<init>", desc := "()V" } : Jvm.MethodName) object_method_1_code (1 : Nat) (Option.none : Option Jvm.ClassFile.FieldType), Jvm.Cond.code ({ cls := "java/lang/Integer", name := "valueOf", desc := "(I)Ljava/lang/Integer;" } : Jvm.MethodName) jdk_33_method_22_code (1 : Nat) (Option.some (Jvm.ClassFile.FieldType.object "java/lang/Integer")), Jvm.Cond.code ({ cls := "java/util/ArrayList", name := "add", desc := "(Ljava/lang/Object;)Z" } : Jvm.MethodName) jdk_38_method_25_code (2 : Nat) (Option.some Jvm.ClassFile.FieldType.boolean), Jvm.Cond.code ({ cls := "java/util/ArrayList", name := "add", desc := "(Ljava/lang/Object;[Ljava/lang/Object;I)V" } : Jvm.MethodName) jdk_38_method_24_code (4 : Nat) (Option.none : Option Jvm.ClassFile.FieldType), Jvm.Cond.code ({ cls := "java/util/ArrayList", name := "grow", desc := "()[Ljava/lang/Object;" } : Jvm.MethodName) jdk_38_method_7_code (1 : Nat) (Option.some (Jvm.ClassFile.FieldType.array (Jvm.ClassFile.FieldType.object "java/lang/Object"))), Jvm.Cond.code ({ cls := "java/util/ArrayList", name := "grow", desc := "(I)[Ljava/lang/Object;" } : Jvm.MethodName) jdk_38_method_6_code (4 : Nat) (Option.some (Jvm.ClassFile.FieldType.array (Jvm.ClassFile.FieldType.object "java/lang/Object"))), Jvm.Cond.code ({ cls := "java/lang/Math", name := "max", desc := "(II)I" } : Jvm.MethodName) jdk_29_method_65_code (2 : Nat) (Option.some Jvm.ClassFile.FieldType.int), Jvm.Cond.code ({ cls := "com/example/shiftweave/shiftweave/rostering/ShiftRequest", name := "<init>", desc := "(IIII)V" } : Jvm.MethodName) prog_77_method_1_code (5 : Nat) (Option.none : Option Jvm.ClassFile.FieldType), Jvm.Cond.code ({ cls := "java/lang/Record", name := "<init>", desc := "()V" } : Jvm.MethodName) jdk_30_method_1_code (1 : Nat) (Option.none : Option Jvm.ClassFile.FieldType), Jvm.Cond.code ({ cls := "com/example/shiftweave/shiftweave/rostering/Ward", name := "<init>", desc := "(ILjava/util/List;Ljava/util/List;Ljava/util/List;Ljava/util/List;Ljava/util/List;)V" } : Jvm.MethodName) prog_83_method_1_code (7 : Nat) (Option.none : Option Jvm.ClassFile.FieldType), Jvm.Cond.code ({ cls := "java/util/List", name := "copyOf", desc := "(Ljava/util/Collection;)Ljava/util/List;" } : Jvm.MethodName) jdk_40_method_48_code (1 : Nat) (Option.some (Jvm.ClassFile.FieldType.object "java/util/List")), Jvm.Cond.code ({ cls := "java/util/ImmutableCollections", name := "listCopy", desc := "(Ljava/util/Collection;)Ljava/util/List;" } : Jvm.MethodName) jdk_56_method_3_code (2 : Nat) (Option.some (Jvm.ClassFile.FieldType.object "java/util/List")), Jvm.Cond.code ({ cls := "java/util/ArrayList", name := "isEmpty", desc := "()Z" } : Jvm.MethodName) jdk_38_method_9_code (1 : Nat) (Option.some Jvm.ClassFile.FieldType.boolean), Jvm.Cond.code ({ cls := "java/util/ArrayList", name := "toArray", desc := "()[Ljava/lang/Object;" } : Jvm.MethodName) jdk_38_method_16_code (1 : Nat) (Option.some (Jvm.ClassFile.FieldType.array (Jvm.ClassFile.FieldType.object "java/lang/Object"))), Jvm.Cond.code ({ cls := "java/util/Arrays", name := "copyOf", desc := "([Ljava/lang/Object;I)[Ljava/lang/Object;" } : Jvm.MethodName) jdk_65_method_119_code (2 : Nat) (Option.some (Jvm.ClassFile.FieldType.array (Jvm.ClassFile.FieldType.object "java/lang/Object"))), Jvm.Cond.code ({ cls := "java/util/Arrays", name := "copyOf", desc := "([Ljava/lang/Object;ILjava/lang/Class;)[Ljava/lang/Object;" } : Jvm.MethodName) jdk_65_method_120_code (4 : Nat) (Option.some (Jvm.ClassFile.FieldType.array (Jvm.ClassFile.FieldType.object "java/lang/Object"))), Jvm.Cond.code ({ cls := "java/lang/Math", name := "min", desc := "(II)I" } : Jvm.MethodName) jdk_29_method_69_code (2 : Nat) (Option.some Jvm.ClassFile.FieldType.int), Jvm.Cond.code ({ cls := "java/util/List", name := "of", desc := "([Ljava/lang/Object;)Ljava/util/List;" } : Jvm.MethodName) jdk_40_method_47_code (2 : Nat) (Option.some (Jvm.ClassFile.FieldType.object "java/util/List")), Jvm.Cond.code ({ cls := "java/util/ImmutableCollections$List12", name := "<init>", desc := "(Ljava/lang/Object;Ljava/lang/Object;)V" } : Jvm.MethodName) jdk_44_method_2_code (3 : Nat) (Option.none : Option Jvm.ClassFile.FieldType), Jvm.Cond.code ({ cls := "java/util/ImmutableCollections$AbstractImmutableList", name := "<init>", desc := "()V" } : Jvm.MethodName) jdk_46_method_1_code (1 : Nat) (Option.none : Option Jvm.ClassFile.FieldType), Jvm.Cond.code ({ cls := "java/util/ImmutableCollections$AbstractImmutableCollection", name := "<init>", desc := "()V" } : Jvm.MethodName) jdk_47_method_1_code (1 : Nat) (Option.none : Option Jvm.ClassFile.FieldType), Jvm.Cond.code ({ cls := "java/util/Objects", name := "requireNonNull", desc := "(Ljava/lang/Object;)Ljava/lang/Object;" } : Jvm.MethodName) jdk_31_method_10_code (1 : Nat) (Option.some (Jvm.ClassFile.FieldType.object "java/lang/Object")), Jvm.Cond.code ({ cls := "java/util/ImmutableCollections$List12", name := "<init>", desc := "(Ljava/lang/Object;)V" } : Jvm.MethodName) jdk_44_method_1_code (2 : Nat) (Option.none : Option Jvm.ClassFile.FieldType), Jvm.Cond.code ({ cls := "java/util/List", name := "of", desc := "()Ljava/util/List;" } : Jvm.MethodName) jdk_40_method_36_code (0 : Nat) (Option.some (Jvm.ClassFile.FieldType.object "java/util/List")), Jvm.Cond.code ({ cls := "com/example/shiftweave/shiftweave/rostering/Penalties", name := "<init>", desc := "(Lcom/example/shiftweave/shiftweave/rostering/Ward;)V" } : Jvm.MethodName) prog_56_method_1_code (19 : Nat) (Option.none : Option Jvm.ClassFile.FieldType), Jvm.Cond.code ({ cls := "com/example/shiftweave/shiftweave/rostering/Ward", name := "shifts", desc := "()Ljava/util/List;" } : Jvm.MethodName) prog_83_method_8_code (1 : Nat) (Option.some (Jvm.ClassFile.FieldType.object "java/util/List")), Jvm.Cond.code ({ cls := "java/util/ImmutableCollections$List12", name := "size", desc := "()I" } : Jvm.MethodName) jdk_44_method_3_code (1 : Nat) (Option.some Jvm.ClassFile.FieldType.int), Jvm.Cond.code ({ cls := "com/example/shiftweave/shiftweave/rostering/Ward", name := "staff", desc := "()Ljava/util/List;" } : Jvm.MethodName) prog_83_method_9_code (1 : Nat) (Option.some (Jvm.ClassFile.FieldType.object "java/util/List")), Jvm.Cond.code ({ cls := "com/example/shiftweave/shiftweave/rostering/Ward", name := "days", desc := "()I" } : Jvm.MethodName) prog_83_method_7_code (1 : Nat) (Option.some Jvm.ClassFile.FieldType.int), Jvm.Cond.code ({ cls := "java/util/Arrays", name := "fill", desc := "([Ljava/lang/Object;Ljava/lang/Object;)V" } : Jvm.MethodName) jdk_65_method_117_code (4 : Nat) (Option.none : Option Jvm.ClassFile.FieldType), Jvm.Cond.code ({ cls := "com/example/shiftweave/shiftweave/rostering/Ward", name := "cover", desc := "()Ljava/util/List;" } : Jvm.MethodName) prog_83_method_12_code (1 : Nat) (Option.some (Jvm.ClassFile.FieldType.object "java/util/List")), Jvm.Cond.code ({ cls := "java/util/ImmutableCollections$AbstractImmutableList", name := "iterator", desc := "()Ljava/util/Iterator;" } : Jvm.MethodName) jdk_46_method_10_code (1 : Nat) (Option.some (Jvm.ClassFile.FieldType.object "java/util/Iterator")), Jvm.Cond.code ({ cls := "java/util/ImmutableCollections$ListN", name := "size", desc := "()I" } : Jvm.MethodName) jdk_45_method_3_code (1 : Nat) (Option.some Jvm.ClassFile.FieldType.int), Jvm.Cond.code ({ cls := "java/util/ImmutableCollections$ListItr", name := "<init>", desc := "(Ljava/util/List;I)V" } : Jvm.MethodName) jdk_53_method_1_code (3 : Nat) (Option.none : Option Jvm.ClassFile.FieldType), Jvm.Cond.code ({ cls := "java/util/ImmutableCollections$ListItr", name := "hasNext", desc := "()Z" } : Jvm.MethodName) jdk_53_method_3_code (1 : Nat) (Option.some Jvm.ClassFile.FieldType.boolean), Jvm.Cond.code ({ cls := "java/lang/Math", name := "max", desc := "(JJ)J" } : Jvm.MethodName) jdk_29_method_66_code (4 : Nat) (Option.some Jvm.ClassFile.FieldType.long), Jvm.Cond.code ({ cls := "com/example/shiftweave/shiftweave/rostering/Ward", name := "onRequests", desc := "()Ljava/util/List;" } : Jvm.MethodName) prog_83_method_10_code (1 : Nat) (Option.some (Jvm.ClassFile.FieldType.object "java/util/List")), Jvm.Cond.code ({ cls := "java/util/ImmutableCollections$List12", name := "get", desc := "(I)Ljava/lang/Object;" } : Jvm.MethodName) jdk_44_method_5_code (2 : Nat) (Option.some (Jvm.ClassFile.FieldType.object "java/lang/Object")), Jvm.Cond.code ({ cls := "com/example/shiftweave/shiftweave/rostering/ShiftRequest", name := "shift", desc := "()I" } : Jvm.MethodName) prog_77_method_7_code (1 : Nat) (Option.some Jvm.ClassFile.FieldType.int), Jvm.Cond.code ({ cls := "com/example/shiftweave/shiftweave/rostering/ShiftRequest", name := "staff", desc := "()I" } : Jvm.MethodName) prog_77_method_5_code (1 : Nat) (Option.some Jvm.ClassFile.FieldType.int), Jvm.Cond.code ({ cls := "com/example/shiftweave/shiftweave/rostering/ShiftRequest", name := "day", desc := "()I" } : Jvm.MethodName) prog_77_method_6_code (1 : Nat) (Option.some Jvm.ClassFile.FieldType.int), Jvm.Cond.code ({ cls := "com/example/shiftweave/shiftweave/rostering/ShiftRequest", name := "weight", desc := "()I" } : Jvm.MethodName) prog_77_method_8_code (1 : Nat) (Option.some Jvm.ClassFile.FieldType.int), Jvm.Cond.code ({ cls := "com/example/shiftweave/shiftweave/rostering/Ward", name := "offRequests", desc := "()Ljava/util/List;" } : Jvm.MethodName) prog_83_method_11_code (1 : Nat) (Option.some (Jvm.ClassFile.FieldType.object "java/util/List")), Jvm.Cond.code ({ cls := "com/example/shiftweave/shiftweave/rostering/Penalties", name := "requests", desc := "(III)J" } : Jvm.MethodName) prog_56_method_3_code (4 : Nat) (Option.some Jvm.ClassFile.FieldType.long)]
set_option maxRecDepth 65536 in
theorem codes_eq : words1.filter isCode = codes1 := rfl
theorem w_codes : ∀ c ∈ words1.filter isCode, c.before args0 about1 = true := by
  rw [codes_eq]
  intro c hc
  simp only [codes1, List.mem_cons, List.not_mem_nil, or_false] at hc
  rcases hc with rfl | rfl | rfl | rfl | rfl | rfl | rfl | rfl | rfl | rfl | rfl | rfl | rfl | rfl | rfl | rfl | rfl | rfl | rfl | rfl | rfl | rfl | rfl | rfl | rfl | rfl | rfl | rfl | rfl | rfl | rfl | rfl | rfl | rfl | rfl | rfl | rfl | rfl | rfl | rfl | rfl | rfl | rfl | rfl | rfl | rfl | rfl | rfl
  · exact w_c0
  · exact w_c1
  · exact w_c2
  · exact w_c3
  · exact w_c4
  · exact w_c5
  · exact w_c6
  · exact w_c7
  · exact w_c8
  · exact w_c9
  · exact w_c10
  · exact w_c11
  · exact w_c12
  · exact w_c13
  · exact w_c14
  · exact w_c15
  · exact w_c16
  · exact w_c17
  · exact w_c18
  · exact w_c19
  · exact w_c20
  · exact w_c21
  · exact w_c22
  · exact w_c23
  · exact w_c24
  · exact w_c25
  · exact w_c26
  · exact w_c27
  · exact w_c28
  · exact w_c29
  · exact w_c30
  · exact w_c31
  · exact w_c32
  · exact w_c33
  · exact w_c34
  · exact w_c35
  · exact w_c36
  · exact w_c37
  · exact w_c38
  · exact w_c39
  · exact w_c40
  · exact w_c41
  · exact w_c42
  · exact w_c43
  · exact w_c44
  · exact w_c45
  · exact w_c46
  · exact w_c47
set_option maxRecDepth 65536 in
theorem w_t1 : (words1.take 24).all (fun c => isCode c || c.before args0 about1) = true := by decide +kernel
set_option maxRecDepth 65536 in
theorem w_t2 : ((words1.drop 24).take 24).all (fun c => isCode c || c.before args0 about1) = true := by decide +kernel
set_option maxRecDepth 65536 in
theorem w_t3 : (((words1.drop 24).drop 24).take 24).all (fun c => isCode c || c.before args0 about1) = true := by decide +kernel
set_option maxRecDepth 65536 in
theorem w_t4 : ((((words1.drop 24).drop 24).drop 24).take 24).all (fun c => isCode c || c.before args0 about1) = true := by decide +kernel
set_option maxRecDepth 65536 in
theorem w_t5 : (((((words1.drop 24).drop 24).drop 24).drop 24).take 24).all (fun c => isCode c || c.before args0 about1) = true := by decide +kernel
set_option maxRecDepth 65536 in
theorem w_t6 : ((((((words1.drop 24).drop 24).drop 24).drop 24).drop 24).take 24).all (fun c => isCode c || c.before args0 about1) = true := by decide +kernel
set_option maxRecDepth 65536 in
theorem w_t7 : (((((((words1.drop 24).drop 24).drop 24).drop 24).drop 24).drop 24).take 24).all (fun c => isCode c || c.before args0 about1) = true := by decide +kernel
set_option maxRecDepth 65536 in
theorem w_t8 : ((((((((words1.drop 24).drop 24).drop 24).drop 24).drop 24).drop 24).drop 24).take 24).all (fun c => isCode c || c.before args0 about1) = true := by decide +kernel
set_option maxRecDepth 65536 in
theorem w_t9 : (((((((((words1.drop 24).drop 24).drop 24).drop 24).drop 24).drop 24).drop 24).drop 24).take 24).all (fun c => isCode c || c.before args0 about1) = true := by decide +kernel
set_option maxRecDepth 65536 in
theorem w_t10 : ((((((((((words1.drop 24).drop 24).drop 24).drop 24).drop 24).drop 24).drop 24).drop 24).drop 24).take 24).all (fun c => isCode c || c.before args0 about1) = true := by decide +kernel
set_option maxRecDepth 65536 in
theorem w_t11 : (((((((((((words1.drop 24).drop 24).drop 24).drop 24).drop 24).drop 24).drop 24).drop 24).drop 24).drop 24).take 24).all (fun c => isCode c || c.before args0 about1) = true := by decide +kernel
set_option maxRecDepth 65536 in
theorem w_t12 : ((((((((((((words1.drop 24).drop 24).drop 24).drop 24).drop 24).drop 24).drop 24).drop 24).drop 24).drop 24).drop 24).take 24).all (fun c => isCode c || c.before args0 about1) = true := by decide +kernel
set_option maxRecDepth 65536 in
theorem w_t13 : (((((((((((((words1.drop 24).drop 24).drop 24).drop 24).drop 24).drop 24).drop 24).drop 24).drop 24).drop 24).drop 24).drop 24).take 24).all (fun c => isCode c || c.before args0 about1) = true := by decide +kernel
set_option maxRecDepth 65536 in
theorem w_t14 : ((((((((((((((words1.drop 24).drop 24).drop 24).drop 24).drop 24).drop 24).drop 24).drop 24).drop 24).drop 24).drop 24).drop 24).drop 24).take 24).all (fun c => isCode c || c.before args0 about1) = true := by decide +kernel
set_option maxRecDepth 65536 in
theorem w_t15 : ((((((((((((((words1.drop 24).drop 24).drop 24).drop 24).drop 24).drop 24).drop 24).drop 24).drop 24).drop 24).drop 24).drop 24).drop 24).drop 24).all (fun c => isCode c || c.before args0 about1) = true := by decide +kernel
theorem w_tables : (allAtoms (Jvm.Cond.code x code maxLocals ret :: tables_1)).before args0 about1 = true := by
  rw [allAtoms_all]
  show words1.all (fun c => c.before args0 about1) = true
  refine all_split ?_ w_codes
  rw [← List.take_append_drop 24 words1, List.all_append, w_t1, ← List.take_append_drop 24 (words1.drop 24), List.all_append, w_t2, ← List.take_append_drop 24 ((words1.drop 24).drop 24), List.all_append, w_t3, ← List.take_append_drop 24 (((words1.drop 24).drop 24).drop 24), List.all_append, w_t4, ← List.take_append_drop 24 ((((words1.drop 24).drop 24).drop 24).drop 24), List.all_append, w_t5, ← List.take_append_drop 24 (((((words1.drop 24).drop 24).drop 24).drop 24).drop 24), List.all_append, w_t6, ← List.take_append_drop 24 ((((((words1.drop 24).drop 24).drop 24).drop 24).drop 24).drop 24), List.all_append, w_t7, ← List.take_append_drop 24 (((((((words1.drop 24).drop 24).drop 24).drop 24).drop 24).drop 24).drop 24), List.all_append, w_t8, ← List.take_append_drop 24 ((((((((words1.drop 24).drop 24).drop 24).drop 24).drop 24).drop 24).drop 24).drop 24), List.all_append, w_t9, ← List.take_append_drop 24 (((((((((words1.drop 24).drop 24).drop 24).drop 24).drop 24).drop 24).drop 24).drop 24).drop 24), List.all_append, w_t10, ← List.take_append_drop 24 ((((((((((words1.drop 24).drop 24).drop 24).drop 24).drop 24).drop 24).drop 24).drop 24).drop 24).drop 24), List.all_append, w_t11, ← List.take_append_drop 24 (((((((((((words1.drop 24).drop 24).drop 24).drop 24).drop 24).drop 24).drop 24).drop 24).drop 24).drop 24).drop 24), List.all_append, w_t12, ← List.take_append_drop 24 ((((((((((((words1.drop 24).drop 24).drop 24).drop 24).drop 24).drop 24).drop 24).drop 24).drop 24).drop 24).drop 24).drop 24), List.all_append, w_t13, ← List.take_append_drop 24 (((((((((((((words1.drop 24).drop 24).drop 24).drop 24).drop 24).drop 24).drop 24).drop 24).drop 24).drop 24).drop 24).drop 24).drop 24), List.all_append, w_t14, w_t15]
  rfl
set_option maxRecDepth 65536 in
theorem w_rest : rest_1_c.before args0 about1 = true := by decide +kernel
set_option maxRecDepth 65536 in
theorem w_case : (Jvm.Cond.and given_1 narrow_1).before args0 about1 = true := by decide +kernel
theorem w_applies : (headSpec (Jvm.Cond.code x code maxLocals ret :: tables_1) room_1).applies x e0.platform about1 = true :=
  (Spec.applies_iff w_frames).mpr ⟨w_running, w_runnable, w_alone, w_named, w_hears, w_ripe, w_room, w_tables⟩
set_option maxRecDepth 65536 in
theorem atStart : AtStart classFile x code maxLocals ret World_1 tables_1 room_1 Calls_1 rest_1 Pre_1 launch0 p0 e0 about1 theMethod args0 below0 :=
  ⟨lists_1, trivial, launch0.admits_env _ _ _, launch0.least_env, fairChoices_fair.cas, fairChoices_fair.clock, w_frames, w_args, w_heap, w_applies, ⟨⟨42, k42, 3, by decide +kernel, rfl, rfl, _, rfl, rfl⟩, trivial⟩, w_rest, w_case⟩
end start1
theorem witness_1 : WitnessClaimed_1 := ⟨start1.p0, start1.e0, start1.about1, start1.theMethod, start1.args0, start1.below0, start1.atStart⟩
end Jvm.Pilot.@@N@@
