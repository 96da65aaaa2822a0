import JvmDerived
import JvmDerived.Pilot.@@N@@Statement
import JvmDerived.Pilot.@@N@@Code
set_option linter.unusedVariables false
set_option linter.unusedSimpArgs false
namespace Jvm.Pilot.@@N@@
open Jvm Jvm.ClassFile Sem Op Lib Jvm.Free Jvm.Stand Jvm.LawKit Jvm.RoadKit Bundle Jvm.Pilot.@@N@@.Jvm.D
/-! what is left of a run: it comes to its end, and there Q holds -/
def oG (p : Program) (e : Env) (below : List Frame) (s : State) (Q : Option Value → Heap → List Loc → Prop) (rc rs : Nat) (S : State) : Prop :=
  ∃ s₂ o, Steps p.tables e below S s₂ ∧ s₂.status = .running ∧ Ended s₂ below o ∧ ∃ v L, o = .returned v ∧ Q v s₂.heap L ∧ FrameEnd s o s₂ L rc rs
theorem oS {p : Program} {e : Env} {below : List Frame} {s : State} {Q : Option Value → Heap → List Loc → Prop} {rc rs : Nat} {S S' : State} (k : ∀ t, Steps p.tables e below S' t → Steps p.tables e below S t) (g : oG p e below s Q rc rs S') : oG p e below s Q rc rs S := by
  obtain ⟨s₂, o, h1, h2⟩ := g
  exact ⟨s₂, o, k _ h1, h2⟩
theorem own_ret {p : Program} {l : Launch} {e : Env} {R : Room} {s : State} {m : MethodId} {args : Array Value} {below : List Frame} {meth : Method} {c : Code} {T : State} {locs : List Loc} {cells slots : Nat} {Q : Option Value → Heap → List Loc → Prop} {rc rs : Nat} {S : State} {v : Option Value} (X : Stand p l e R s m args below meth c T locs cells slots) (hv : meth.sig.returnType = none → v = none) (hlocks : meth.locks = false)
    (st : ∀ fs, (∀ (f : JFrame) (acts : List Action), f.method = m → f.locked = none → f.entered = [] → (doReturn e (T.setTop f) acts v).1 = T.setFrames fs) → Steps p.tables e below S (T.setFrames fs)) (q : Q v T.heap locs) (hc : cells ≤ rc) (hs : slots ≤ rs) : oG p e below s Q rc rs S := by
  obtain ⟨fs, hr, hrun, hended, hW, hsame⟩ := X.leave hv hlocks
  exact ⟨_, _, st fs hr, hrun, hended, _, _, rfl, q, ⟨_, rfl⟩, hW, hsame.mono hc hs⟩
theorem oIc {tb : Tables} [Ours tb] {e : Env} {below : List Frame} {T target : State} {m : MethodId} {c : Code} {g : JFrame} {i : Int} {z : Int32} (hz : Int32.ofInt i = z) (h : At T m c below) (hx : tb.exec = Jvm.exec) (hg : g.method = m) (hd : decode c.code g.pc = .ok (.iconst i, 1)) (hr : Steps tb e below (T.setTop { g with pc := g.pc + 1, stack := .int z :: g.stack }) target) : Steps tb e below (T.setTop g) target := XS.iconst h hx hg hd (by rw [hz]; exact hr)
theorem oBp {tb : Tables} [Ours tb] {e : Env} {below : List Frame} {T target : State} {m : MethodId} {c : Code} {g : JFrame} {i : Int} {z : Int32} (hz : (Int8.ofInt i).toInt32 = z) (h : At T m c below) (hx : tb.exec = Jvm.exec) (hg : g.method = m) (hd : decode c.code g.pc = .ok (.bipush i, 2)) (hr : Steps tb e below (T.setTop { g with pc := g.pc + 2, stack := .int z :: g.stack }) target) : Steps tb e below (T.setTop g) target := XS.bipush h hx hg hd (by rw [hz]; exact hr)
theorem oSp {tb : Tables} [Ours tb] {e : Env} {below : List Frame} {T target : State} {m : MethodId} {c : Code} {g : JFrame} {i : Int} {z : Int32} (hz : (Int16.ofInt i).toInt32 = z) (h : At T m c below) (hx : tb.exec = Jvm.exec) (hg : g.method = m) (hd : decode c.code g.pc = .ok (.sipush i, 3)) (hr : Steps tb e below (T.setTop { g with pc := g.pc + 3, stack := .int z :: g.stack }) target) : Steps tb e below (T.setTop g) target := XS.sipush h hx hg hd (by rw [hz]; exact hr)
theorem oLc {tb : Tables} [Ours tb] {e : Env} {below : List Frame} {T target : State} {m : MethodId} {c : Code} {g : JFrame} {i : Fin 2} {z : Int64} (hz : Int64.ofNat i = z) (h : At T m c below) (hx : tb.exec = Jvm.exec) (hg : g.method = m) (hd : decode c.code g.pc = .ok (.lconst i, 1)) (hr : Steps tb e below (T.setTop { g with pc := g.pc + 1, stack := .long z :: g.stack }) target) : Steps tb e below (T.setTop g) target := XS.lconst h hx hg hd (by rw [hz]; exact hr)
theorem oW {a0 : Array Value} {Z : State} (hw : ∀ d ∈ tables_1, d.before a0 Z = true) (i : Nat) {d : Jvm.Cond} (h : tables_1[i]? = some d) : d.before a0 Z = true := hw _ (List.mem_of_getElem? h)
theorem own_eqv {args : Array Value} {s : State} {a b : Term} {v : Value} (h : (Jvm.Cond.eq a b).value args s none s [] = some true) (hb : b.eval args s none [] s = some v) : a.eval args s none [] s = some v := by
  obtain ⟨x, y, ha, hb', -, -⟩ := cmp_v (Or.inl h)
  cases hb.symm.trans hb'
  rw [ha]
  cases x <;> cases v <;> simp [Cond.value, ha, hb] at h ⊢ <;> exact h
theorem own_len {args : Array Value} {s : State} {t : Term} {a : Addr} {cl : Cell} {ty : FieldType} {z : Int32} (h : (Term.length t).eval args s none [] s = some (.int z)) (ht : t.eval args s none [] s = some (.ref a)) (A : Arr s s.heap a cl ty) : cl.slots.size < 2 ^ 31 ∧ cl.slots.size.toInt32 = z := by
  have hA := A.fin (Vm.Alike.refl _)
  obtain ⟨a', cell, h1, h2, h3⟩ := Term.length_spec h
  cases ht.symm.trans h1
  cases hA.symm.trans h2
  refine ⟨?_, (Value.int.inj h3).symm⟩
  simp only [Term.eval, ht, hA, Option.bind_eq_bind, Option.bind_some] at h
  split at h
  · assumption
  · cases h
theorem own_sz {n : Nat} {z : Int32} (h1 : n < 2 ^ 31) (h2 : n.toInt32 = z) : n = z.toNatClampNeg := by
  rw [← h2]; simp only [Int32.toNatClampNeg, len_toInt h1]; rfl
theorem own_box {args : Array Value} {s : State} {t : Term} {a : Addr} {c : Cell} {K : String} {G : Jvm.Cond} (et : ∀ idx, t.eval args s none idx s = some (.ref a)) (A : Arr s s.heap a c (.object K)) (h : (Jvm.Cond.all t (.and (.exactly (.elem t (.index 0)) K) G)).value args s none s [] = some true) :
    ∀ j : Int32, ¬ (j < 0 ∨ c.slots.size ≤ j.toNatClampNeg) → ∃ b : Addr, c.slots[j.toNatClampNeg]? = some (.ref b) ∧ Exa s s.heap b K := fun j hj => by
  have nn : ¬ j < 0 := fun x => hj (Or.inl x)
  obtain ⟨u1, -⟩ := and_e (Cond.all_elim (et []) (A.fin (Vm.Alike.refl _)) h j.toNatClampNeg (Nat.lt_of_not_le fun x => hj (Or.inr x)))
  obtain ⟨b, eb⟩ := exa_v u1
  exact ⟨b, (elem_f (et _) (idx_at nn) (A.fin (Vm.Alike.refl _)) nn).symm.trans eb, exa_at eb u1⟩
theorem own_neI {Z : State} {h : Heap} {a b : Addr} {C n d : String} {x y : Int32} (F : Fld Z h a C n d (.int x)) (G : Fld Z h b C n d (.int y)) (hn : x ≠ y) : ¬ a = b := fun e => by
  subst e
  obtain ⟨c1, cf1, k1, i1, f1, a1, a2, -, -, -, -, a7⟩ := F
  obtain ⟨c2, cf2, k2, i2, f2, b1, b2, -, -, -, -, b7⟩ := G
  cases a1.symm.trans b1
  cases a2.symm.trans b2
  cases a7.symm.trans b7
  exact hn rfl
theorem own_neJ {Z : State} {h : Heap} {a b : Addr} {C n d : String} {x y : Int64} (F : Fld Z h a C n d (.long x)) (G : Fld Z h b C n d (.long y)) (hn : x ≠ y) : ¬ a = b := fun e => by
  subst e
  obtain ⟨c1, cf1, k1, i1, f1, a1, a2, -, -, -, -, a7⟩ := F
  obtain ⟨c2, cf2, k2, i2, f2, b1, b2, -, -, -, -, b7⟩ := G
  cases a1.symm.trans b1
  cases a2.symm.trans b2
  cases a7.symm.trans b7
  exact hn rfl
theorem own_root {Z : State} {a0 : Array Value} {O K : String} {n : Nat} (w : (Jvm.Cond.noSuperclass O).before a0 Z = true) (wi : (Jvm.Cond.instantiable K n).before a0 Z = true) (hn : O ≠ K) : NS Z O K := by
  obtain ⟨c, k, h1, h2, h3, -, -⟩ := Cond.noSuperclass_spec w
  obtain ⟨t, k2, g1, -⟩ := Cond.instantiable_spec wi
  have ne := ids_ne h1 g1 hn
  refine ⟨c, t, h1, g1, fun fuel => ?_⟩
  cases fuel with
  | zero => rfl
  | succ f => simp [Vm.isSubclassAux, ne, h2, h3]
theorem own_no {Z : State} {a0 : Array Value} {C S K : String} {n : Nat} (w : (Jvm.Cond.superclass C S).before a0 Z = true) (wi : (Jvm.Cond.instantiable K n).before a0 Z = true) (m : NS Z C K) (hn : C ≠ K) : ∃ c t, Z.vm.findClass C = some c ∧ Z.vm.findClass K = some t ∧ Z.vm.assignable c t = false := by
  obtain ⟨c, t, h0, g0, n3⟩ := m
  obtain ⟨p, k, kp, h1, h2, h3, h4, h5, -, h7⟩ := Cond.superclass_spec h0 w
  obtain ⟨t', k2, g1, g2, g3, g4, -⟩ := Cond.instantiable_spec wi
  cases g0.symm.trans g1
  simp only [Bool.or_eq_false_iff] at g4
  have ne := ids_ne h0 g0 hn
  refine ⟨c, t, h0, g0, ?_⟩
  show Z.vm.assignableAux (255 + 1) c t = false
  simp [Vm.assignableAux, ne, h2, g2, h5, g3, g4.1, Vm.isSubclass, n3]
theorem own_i8 {p : Int32} {n : Nat} (h1 : ¬ (p < (-128 : Int32))) (h2 : ¬ ((127 : Int32) < p)) (hs : n = 256) : ¬ ((p + (128 : Int32)) < 0 ∨ n ≤ (p + (128 : Int32)).toNatClampNeg) := by
  have z1 : ¬ p.toInt < -128 := fun q => h1 (Int32.lt_iff_toInt_lt.mpr q)
  have z2 : ¬ 127 < p.toInt := fun q => h2 (Int32.lt_iff_toInt_lt.mpr q)
  have h3 := c_iadd p 128
  have r := rng32 (p + (128 : Int32))
  have e : (128 : Int32).toInt = 128 := rfl
  have e0 : (0 : Int32).toInt = 0 := rfl
  subst hs
  rw [Int32.lt_iff_toInt_lt, e0]
  simp only [Int32.toNatClampNeg]
  omega
theorem own_l8 {q : Int64} {n : Nat} (h1 : ¬ (q < (-128 : Int64))) (h2 : ¬ ((127 : Int64) < q)) (hs : n = 256) : ¬ (((q.toInt32) + (128 : Int32)) < 0 ∨ n ≤ ((q.toInt32) + (128 : Int32)).toNatClampNeg) := by
  have z1 : ¬ q.toInt < -128 := fun z => h1 (Int64.lt_iff_toInt_lt.mpr z)
  have z2 : ¬ 127 < q.toInt := fun z => h2 (Int64.lt_iff_toInt_lt.mpr z)
  have h4 := c_l2i q
  have r4 := rng32 q.toInt32
  have h3 := c_iadd q.toInt32 128
  have r := rng32 (q.toInt32 + (128 : Int32))
  have e : (128 : Int32).toInt = 128 := rfl
  have e0 : (0 : Int32).toInt = 0 := rfl
  subst hs
  rw [Int32.lt_iff_toInt_lt, e0]
  simp only [Int32.toNatClampNeg]
  omega
def own_World (Z : State) (w : Nat → Addr) : Prop := Sta Z Z.heap "java/lang/Integer$IntegerCache" "cache" "[Ljava/lang/Integer;" (.ref (w 0)) ∧ Exa Z Z.heap (w 0) "[Ljava/lang/Integer;" ∧ Sta Z Z.heap "java/lang/Long$LongCache" "cache" "[Ljava/lang/Long;" (.ref (w 1)) ∧ Exa Z Z.heap (w 1) "[Ljava/lang/Long;" ∧ (∃ c : Cell, Arr Z Z.heap (w 0) c (.object "java/lang/Integer") ∧ c.slots.size = 256 ∧ ∀ j : Int32, ¬ (j < 0 ∨ c.slots.size ≤ j.toNatClampNeg) → ∃ b : Addr, c.slots[j.toNatClampNeg]? = some (.ref b) ∧ Exa Z Z.heap b "java/lang/Integer") ∧ (∃ c : Cell, Arr Z Z.heap (w 1) c (.object "java/lang/Long") ∧ c.slots.size = 256 ∧ ∀ j : Int32, ¬ (j < 0 ∨ c.slots.size ≤ j.toNatClampNeg) → ∃ b : Addr, c.slots[j.toNatClampNeg]? = some (.ref b) ∧ Exa Z Z.heap b "java/lang/Long") ∧ Sta Z Z.heap "java/lang/Integer$IntegerCache" "high" "I" (.int (127 : Int32))
theorem own_world {args : Array Value} {s : State} (hw : ∀ d ∈ tables_1, d.before args s = true) (hfit : Fit s) (hs : ∀ d ∈ jdkStatics_1, d.before args s = true) (hn : narrow_1.value args s none s [] = some true) : ∃ w : Nat → Addr, own_World s w := by
  have hj3 := Cond.before_iff.mp (hs _ (List.mem_of_getElem? (i := 3) rfl))
  have hj4 := Cond.before_iff.mp (hs _ (List.mem_of_getElem? (i := 4) rfl))
  have hj5 := Cond.before_iff.mp (hs _ (List.mem_of_getElem? (i := 5) rfl))
  have hj6 := Cond.before_iff.mp (hs _ (List.mem_of_getElem? (i := 6) rfl))
  have hj7 := Cond.before_iff.mp (hs _ (List.mem_of_getElem? (i := 7) rfl))
  have hj10 := Cond.before_iff.mp (hs _ (List.mem_of_getElem? (i := 10) rfl))
  have hj11 := Cond.before_iff.mp (hs _ (List.mem_of_getElem? (i := 11) rfl))
  have hj12 := Cond.before_iff.mp (hs _ (List.mem_of_getElem? (i := 12) rfl))
  have hj13 := Cond.before_iff.mp (hs _ (List.mem_of_getElem? (i := 13) rfl))
  obtain ⟨c0, e0⟩ := arr_v hj4
  obtain ⟨c1, e1⟩ := arr_v hj10
  obtain ⟨cl0, A0⟩ := Arr.start e0 hj4
  have L0 := own_len (own_eqv hj6 rfl) e0 A0
  obtain ⟨cl1, A1⟩ := Arr.start e1 hj10
  have L1 := own_len (own_eqv hj12 rfl) e1 A1
  exact ⟨fun n => ([c0, c1] : List Nat).getD n 0, Sta.start e0 (Or.inr ⟨(oW hw 25 rfl), (hs _ (List.mem_of_getElem? (i := 2) rfl))⟩), Exa.start e0 hj5, Sta.start e1 (Or.inl (hs _ (List.mem_of_getElem? (i := 9) rfl))), Exa.start e1 hj11, ⟨cl0, A0, own_sz L0.1 L0.2, own_box (fun _ => e0) A0 hj7⟩, ⟨cl1, A1, own_sz L1.1 L1.2, own_box (fun _ => e1) A1 hj13⟩, Sta.start (own_eqv hj3 rfl) (Or.inl (hs _ (List.mem_of_getElem? (i := 1) rfl)))⟩
theorem wS0 {Z : State} {w : Nat → Addr} (W : own_World Z w) : Sta Z Z.heap "java/lang/Integer$IntegerCache" "cache" "[Ljava/lang/Integer;" (.ref (w 0)) := W.1
theorem wE0 {Z : State} {w : Nat → Addr} (W : own_World Z w) : Exa Z Z.heap (w 0) "[Ljava/lang/Integer;" := W.2.1
theorem wS1 {Z : State} {w : Nat → Addr} (W : own_World Z w) : Sta Z Z.heap "java/lang/Long$LongCache" "cache" "[Ljava/lang/Long;" (.ref (w 1)) := W.2.2.1
theorem wE1 {Z : State} {w : Nat → Addr} (W : own_World Z w) : Exa Z Z.heap (w 1) "[Ljava/lang/Long;" := W.2.2.2.1
theorem wB0 {Z : State} {w : Nat → Addr} (W : own_World Z w) : (∃ c : Cell, Arr Z Z.heap (w 0) c (.object "java/lang/Integer") ∧ c.slots.size = 256 ∧ ∀ j : Int32, ¬ (j < 0 ∨ c.slots.size ≤ j.toNatClampNeg) → ∃ b : Addr, c.slots[j.toNatClampNeg]? = some (.ref b) ∧ Exa Z Z.heap b "java/lang/Integer") := W.2.2.2.2.1
theorem wB1 {Z : State} {w : Nat → Addr} (W : own_World Z w) : (∃ c : Cell, Arr Z Z.heap (w 1) c (.object "java/lang/Long") ∧ c.slots.size = 256 ∧ ∀ j : Int32, ¬ (j < 0 ∨ c.slots.size ≤ j.toNatClampNeg) → ∃ b : Addr, c.slots[j.toNatClampNeg]? = some (.ref b) ∧ Exa Z Z.heap b "java/lang/Long") := W.2.2.2.2.2.1
theorem wI6 {Z : State} {w : Nat → Addr} (W : own_World Z w) : Sta Z Z.heap "java/lang/Integer$IntegerCache" "high" "I" (.int (127 : Int32)) := W.2.2.2.2.2.2
theorem d1_0 : decode prog_69_method_1_code 0 = .ok (.aload_n 0, 1) := by decide +kernel
theorem d1_1 : decode prog_69_method_1_code 1 = .ok (.invokespecial 1, 3) := by decide +kernel
theorem d1_4 : decode prog_69_method_1_code 4 = .ok (.aload_n 0, 1) := by decide +kernel
theorem d1_5 : decode prog_69_method_1_code 5 = .ok (.lload_n 1, 1) := by decide +kernel
theorem d1_6 : decode prog_69_method_1_code 6 = .ok (.putfield 7, 3) := by decide +kernel
theorem d1_9 : decode prog_69_method_1_code 9 = .ok (.aload_n 0, 1) := by decide +kernel
theorem d1_10 : decode prog_69_method_1_code 10 = .ok (.iload_n 3, 1) := by decide +kernel
theorem d1_11 : decode prog_69_method_1_code 11 = .ok (.putfield 13, 3) := by decide +kernel
theorem d1_14 : decode prog_69_method_1_code 14 = .ok (.return_, 1) := by decide +kernel
abbrev mY0 : MethodName := (⟨"com/example/loudline/loudline/packet/UdpFlow", "<init>", "(JI)V"⟩ : MethodName)
theorem ef_1_rji (m : MethodId) (x0 : Addr) (x1 : Int64) (x2 : Int32) : entryFrame m #[(.ref x0), (.long x1), (.int x2)] 4 = mkF m 0 #[.val (.ref x0), .val (.long x1), .second, .val (.int x2)] [] := by first | (simp [entryFrame, mkF, argsToLocals, Value.category]; done) | rfl
theorem pn_0 : plainName "com/example/loudline/loudline/packet/UdpFlow" = true := by first | (simp [plainName, overriddenIn]; done) | decide +kernel
def Q_init (Z : State) (a1 : Addr) (q2 : Int64) (p3 : Int32) (u_addresses : Value) (u_ports : Value) (w : Nat → Addr) (h0 : Heap) (n0 : Nat) (v : Option Value) (h : Heap) (L : List Loc) : Prop := v = none ∧ Fr n0 L ∧ Keep h0 h [a1] ∧ Exa Z h a1 "com/example/loudline/loudline/packet/UdpFlow" ∧ Fld Z h a1 "com/example/loudline/loudline/packet/UdpFlow" "addresses" "J" (.long q2) ∧ Fld Z h a1 "com/example/loudline/loudline/packet/UdpFlow" "ports" "I" (.int p3)
set_option maxRecDepth 65536 in
set_option maxHeartbeats 40000000 in
theorem rm_init (l : Launch) (Z : State) (a0 : Array Value) (hw : ∀ d ∈ tables_1, d.before a0 Z = true) (ws : List Jvm.Cond) (a1 : Addr) (q2 : Int64) (p3 : Int32) (u_addresses : Value) (u_ports : Value) (w : Nat → Addr) (h0 : Heap) (n0 : Nat) (O0 : Old Z n0 h0) (W : own_World Z w) (E_a1 : Exa Z h0 a1 "com/example/loudline/loudline/packet/UdpFlow") (g_a1 : n0 ≤ a1) (F_addresses_a1 : Fld Z h0 a1 "com/example/loudline/loudline/packet/UdpFlow" "addresses" "J" u_addresses) (F_ports_a1 : Fld Z h0 a1 "com/example/loudline/loudline/packet/UdpFlow" "ports" "I" u_ports) :
    MetFree l mY0 (head1 (Jvm.Cond.code mY0 prog_69_method_1_code 4 none :: ws) ({ frames := 1, cells := 0, slots := 0, locals := 12 } : Room)) (fun a U => a = #[(.ref a1), (.long q2), (.int p3)] ∧ Z.Warmed39 U.vm ∧ U.heap = h0) (fun _ _ _ _ _ => True) (fun _ U o U' => ∃ v L, o = .returned v ∧ Q_init Z a1 q2 p3 u_addresses u_ports w h0 n0 v U'.heap L ∧ FrameEnd U o U' L ({ frames := 1, cells := 0, slots := 0, locals := 12 } : Room).cells ({ frames := 1, cells := 0, slots := 0, locals := 12 } : Room).slots) := by
  refine MetFree.of_bodySF (plainFor_of_name pn_0) hisR ?_
  intro p e s m args below meth c s₁ Bd hml0 hP hK
  obtain ⟨rfl, hZ, hh⟩ := hP
  have hx := Bd.exec
  have hby := Bd.bytes
  have hml : c.maxLocals = 4 := hml0
  have hown : s.vm.findClass "com/example/loudline/loudline/packet/UdpFlow" = some m.cls := findClass_of_methodNamed Bd.named
  have hnm := (name_of_methodNamed Bd.named Bd.method).1
  have X0 : Stand p l e ({ frames := 1, cells := 0, slots := 0, locals := 12 } : Room) s m #[(.ref a1), (.long q2), (.int p3)] below meth c s₁ [] 0 0 := Stand.of_body Bd
  have e0 : s₁.heap = h0 := by rw [← hh, Bd.state]; rfl
  have N0 := Fr.nil n0
  show oG p e below s (Q_init Z a1 q2 p3 u_addresses u_ports w h0 n0) ({ frames := 1, cells := 0, slots := 0, locals := 12 } : Room).cells ({ frames := 1, cells := 0, slots := 0, locals := 12 } : Room).slots _
  refine oS (fun t k => castTop (ef_1_rji m a1 q2 p3) k) ?_
  show oG _ _ _ _ _ _ _ (s₁.setTop (mkF m 0 #[.val (.ref a1), .val (.long q2), .second, .val (.int p3)] []))
  refine oS (fun t k => XS.aloadN X0.here hx rfl (hb hby d1_0) rfl rfl k) ?_
  obtain ⟨T1, X1, e1, st1⟩ := initO X0 hx hZ hown (oW hw 6 rfl) (oW hw 7 rfl) (oW hw 8 rfl) e0 (g := (mkF m 1 #[.val (.ref a1), .val (.long q2), .second, .val (.int p3)] [(.ref a1)])) rfl (by rw [hml]; rfl) rfl (hb hby d1_1) (by decide) (W := 0) (by show 2 * 0 + _ ≤ _; exact Nat.le_of_eq rfl) (by decide)
  refine oS (fun t k => st1 t k) ?_
  refine oS (fun t k => XS.aloadN X1.here hx rfl (hb hby d1_4) rfl rfl k) ?_
  show oG _ _ _ _ _ _ _ (T1.setTop (mkF m 5 #[.val (.ref a1), .val (.long q2), .second, .val (.int p3)] [(.ref a1)]))
  refine oS (fun t k => XS.lloadN X1.here hx rfl (hb hby d1_5) rfl k) ?_
  obtain ⟨T2, h2, X2, e2, W2, st2⟩ := putF X1 hx hZ hown (host := "") (Or.inl (oW hw 9 rfl)) Via.refl e1 F_addresses_a1 E_a1 (Or.inr ⟨(oW hw 10 rfl), rfl, hnm⟩) (oW hw 1 rfl) (ty := .long) (by decide) rfl rfl (g := (mkF m 6 #[.val (.ref a1), .val (.long q2), .second, .val (.int p3)] [(.long q2), (.ref a1)])) rfl rfl (hb hby d1_6)
  have O2 := O0.wr W2 g_a1
  have N2 := Fr.snoc X2 N0 g_a1
  have Kp2 : Keep h0 h2 [a1] := (Keep.refl h0 [a1]).wr W2 (Or.inl (List.mem_of_getElem? (i := 0) rfl))
  have Fw2 := F_addresses_a1.same W2
  refine oS (fun t k => st2 t k) ?_
  try clear st2 X1 e1
  try clear T1
  refine oS (fun t k => XS.aloadN X2.here hx rfl (hb hby d1_9) rfl rfl k) ?_
  show oG _ _ _ _ _ _ _ (T2.setTop (mkF m 10 #[.val (.ref a1), .val (.long q2), .second, .val (.int p3)] [(.ref a1)]))
  refine oS (fun t k => XS.iloadN X2.here hx rfl (hb hby d1_10) rfl k) ?_
  obtain ⟨T3, h3, X3, e3, W3, st3⟩ := putF X2 hx hZ hown (host := "") (Or.inl (oW hw 11 rfl)) Via.refl e2 (F_ports_a1.other W2 (Or.inr (slot_ne (Or.inr (oW hw 12 rfl)) (Or.inr (oW hw 10 rfl)) (by decide) (t := .int) (t' := .long) (by decide) (by decide)))) (E_a1.wr W2) (Or.inr ⟨(oW hw 12 rfl), rfl, hnm⟩) (oW hw 1 rfl) (ty := .int) (by decide) rfl rfl (g := (mkF m 11 #[.val (.ref a1), .val (.long q2), .second, .val (.int p3)] [(.int p3), (.ref a1)])) rfl rfl (hb hby d1_11)
  have O3 := O2.wr W3 g_a1
  have N3 := Fr.snoc X3 N2 g_a1
  have Kp3 : Keep h0 h3 [a1] := Kp2.wr W3 (Or.inl (List.mem_of_getElem? (i := 0) rfl))
  have Fw3 := (F_ports_a1.other W2 (Or.inr (slot_ne (Or.inr (oW hw 12 rfl)) (Or.inr (oW hw 10 rfl)) (by decide) (t := .int) (t' := .long) (by decide) (by decide)))).same W3
  refine oS (fun t k => st3 t k) ?_
  try clear st3 X2 e2
  try clear T2
  exact own_ret (v := none) X3 (fun _ => rfl) Bd.notSynchronized (fun fs hr => X3.returnOut hx Bd.returns (hb hby d1_14) hr) (by rw [e3]; exact ⟨rfl, N3, Kp3, ((E_a1.wr W2).wr W3), (Fw2.other W3 (Or.inr (slot_ne (Or.inr (oW hw 10 rfl)) (Or.inr (oW hw 12 rfl)) (by decide) (t := .long) (t' := .int) (by decide) (by decide)))), Fw3⟩) (by decide) (by decide)
theorem d6_0 : decode jdk_18_method_1_code 0 = .ok (.aload_n 0, 1) := by decide +kernel
theorem d6_1 : decode jdk_18_method_1_code 1 = .ok (.invokespecial 1, 3) := by decide +kernel
theorem d6_4 : decode jdk_18_method_1_code 4 = .ok (.return_, 1) := by decide +kernel
abbrev mY1 : MethodName := (⟨"java/lang/Number", "<init>", "()V"⟩ : MethodName)
theorem ef_6_r (m : MethodId) (x0 : Addr) : entryFrame m #[(.ref x0)] 1 = mkF m 0 #[.val (.ref x0)] [] := by first | (simp [entryFrame, mkF, argsToLocals, Value.category]; done) | rfl
theorem pn_1 : plainName "java/lang/Number" = true := by first | (simp [plainName, overriddenIn]; done) | decide +kernel
def Q_num (Z : State) (a1 : Addr) (h0 : Heap) (n0 : Nat) (v : Option Value) (h : Heap) (L : List Loc) : Prop := v = none ∧ Fr n0 L ∧ h = h0
set_option maxRecDepth 65536 in
set_option maxHeartbeats 40000000 in
theorem rm_num (l : Launch) (Z : State) (a0 : Array Value) (hw : ∀ d ∈ tables_1, d.before a0 Z = true) (ws : List Jvm.Cond) (a1 : Addr) (h0 : Heap) (n0 : Nat) (O0 : Old Z n0 h0) :
    MetFree l mY1 (head1 (Jvm.Cond.code mY1 jdk_18_method_1_code 1 none :: ws) ({ frames := 1, cells := 0, slots := 0, locals := 12 } : Room)) (fun a U => a = #[(.ref a1)] ∧ Z.Warmed39 U.vm ∧ U.heap = h0) (fun _ _ _ _ _ => True) (fun _ U o U' => ∃ v L, o = .returned v ∧ Q_num Z a1 h0 n0 v U'.heap L ∧ FrameEnd U o U' L ({ frames := 1, cells := 0, slots := 0, locals := 12 } : Room).cells ({ frames := 1, cells := 0, slots := 0, locals := 12 } : Room).slots) := by
  refine MetFree.of_bodySF (plainFor_of_name pn_1) hisR ?_
  intro p e s m args below meth c s₁ Bd hml0 hP hK
  obtain ⟨rfl, hZ, hh⟩ := hP
  have hx := Bd.exec
  have hby := Bd.bytes
  have hml : c.maxLocals = 1 := hml0
  have hown : s.vm.findClass "java/lang/Number" = some m.cls := findClass_of_methodNamed Bd.named
  have hnm := (name_of_methodNamed Bd.named Bd.method).1
  have X0 : Stand p l e ({ frames := 1, cells := 0, slots := 0, locals := 12 } : Room) s m #[(.ref a1)] below meth c s₁ [] 0 0 := Stand.of_body Bd
  have e0 : s₁.heap = h0 := by rw [← hh, Bd.state]; rfl
  have N0 := Fr.nil n0
  show oG p e below s (Q_num Z a1 h0 n0) ({ frames := 1, cells := 0, slots := 0, locals := 12 } : Room).cells ({ frames := 1, cells := 0, slots := 0, locals := 12 } : Room).slots _
  refine oS (fun t k => castTop (ef_6_r m a1) k) ?_
  show oG _ _ _ _ _ _ _ (s₁.setTop (mkF m 0 #[.val (.ref a1)] []))
  refine oS (fun t k => XS.aloadN X0.here hx rfl (hb hby d6_0) rfl rfl k) ?_
  obtain ⟨T1, X1, e1, st1⟩ := initO X0 hx hZ hown (oW hw 38 rfl) (oW hw 7 rfl) (oW hw 8 rfl) e0 (g := (mkF m 1 #[.val (.ref a1)] [(.ref a1)])) rfl (by rw [hml]; rfl) rfl (hb hby d6_1) (by decide) (W := 0) (by show 2 * 0 + _ ≤ _; exact Nat.le_of_eq rfl) (by decide)
  refine oS (fun t k => st1 t k) ?_
  exact own_ret (v := none) X1 (fun _ => rfl) Bd.notSynchronized (fun fs hr => X1.returnOut hx Bd.returns (hb hby d6_4) hr) (by rw [e1]; exact ⟨rfl, N0, rfl⟩) (by decide) (by decide)
theorem d5_0 : decode jdk_33_method_23_code 0 = .ok (.aload_n 0, 1) := by decide +kernel
theorem d5_1 : decode jdk_33_method_23_code 1 = .ok (.invokespecial 202, 3) := by decide +kernel
theorem pd_0 : parseMethodDescriptor "()V" = some ⟨[], none⟩ := by decide +kernel
theorem d5_4 : decode jdk_33_method_23_code 4 = .ok (.aload_n 0, 1) := by decide +kernel
theorem d5_5 : decode jdk_33_method_23_code 5 = .ok (.iload_n 1, 1) := by decide +kernel
theorem d5_6 : decode jdk_33_method_23_code 6 = .ok (.putfield 205, 3) := by decide +kernel
theorem d5_9 : decode jdk_33_method_23_code 9 = .ok (.return_, 1) := by decide +kernel
abbrev mY2 : MethodName := (⟨"java/lang/Integer", "<init>", "(I)V"⟩ : MethodName)
theorem ef_5_ri (m : MethodId) (x0 : Addr) (x1 : Int32) : entryFrame m #[(.ref x0), (.int x1)] 2 = mkF m 0 #[.val (.ref x0), .val (.int x1)] [] := by first | (simp [entryFrame, mkF, argsToLocals, Value.category]; done) | rfl
theorem pn_2 : plainName "java/lang/Integer" = true := by first | (simp [plainName, overriddenIn]; done) | decide +kernel
def Q_iinit (Z : State) (a1 : Addr) (p2 : Int32) (u_value : Value) (w : Nat → Addr) (h0 : Heap) (n0 : Nat) (v : Option Value) (h : Heap) (L : List Loc) : Prop := v = none ∧ Fr n0 L ∧ Keep h0 h [a1] ∧ Exa Z h a1 "java/lang/Integer" ∧ Fld Z h a1 "java/lang/Integer" "value" "I" (.int p2)
set_option maxRecDepth 65536 in
set_option maxHeartbeats 40000000 in
theorem rm_iinit (l : Launch) (Z : State) (a0 : Array Value) (hw : ∀ d ∈ tables_1, d.before a0 Z = true) (ws : List Jvm.Cond) (a1 : Addr) (p2 : Int32) (u_value : Value) (w : Nat → Addr) (h0 : Heap) (n0 : Nat) (O0 : Old Z n0 h0) (W : own_World Z w) (E_a1 : Exa Z h0 a1 "java/lang/Integer") (g_a1 : n0 ≤ a1) (F_value_a1 : Fld Z h0 a1 "java/lang/Integer" "value" "I" u_value) :
    MetFree l mY2 (head1 (Jvm.Cond.code mY2 jdk_33_method_23_code 2 none :: ws) ({ frames := 2, cells := 0, slots := 0, locals := 24 } : Room)) (fun a U => a = #[(.ref a1), (.int p2)] ∧ Z.Warmed39 U.vm ∧ U.heap = h0) (fun _ _ _ _ _ => True) (fun _ U o U' => ∃ v L, o = .returned v ∧ Q_iinit Z a1 p2 u_value w h0 n0 v U'.heap L ∧ FrameEnd U o U' L ({ frames := 2, cells := 0, slots := 0, locals := 24 } : Room).cells ({ frames := 2, cells := 0, slots := 0, locals := 24 } : Room).slots) := by
  refine MetFree.of_bodySF (plainFor_of_name pn_2) hisR ?_
  intro p e s m args below meth c s₁ Bd hml0 hP hK
  obtain ⟨rfl, hZ, hh⟩ := hP
  have hx := Bd.exec
  have hby := Bd.bytes
  have hml : c.maxLocals = 2 := hml0
  have hown : s.vm.findClass "java/lang/Integer" = some m.cls := findClass_of_methodNamed Bd.named
  have hnm := (name_of_methodNamed Bd.named Bd.method).1
  have X0 : Stand p l e ({ frames := 2, cells := 0, slots := 0, locals := 24 } : Room) s m #[(.ref a1), (.int p2)] below meth c s₁ [] 0 0 := Stand.of_body Bd
  have e0 : s₁.heap = h0 := by rw [← hh, Bd.state]; rfl
  have N0 := Fr.nil n0
  show oG p e below s (Q_iinit Z a1 p2 u_value w h0 n0) ({ frames := 2, cells := 0, slots := 0, locals := 24 } : Room).cells ({ frames := 2, cells := 0, slots := 0, locals := 24 } : Room).slots _
  refine oS (fun t k => castTop (ef_5_ri m a1 p2) k) ?_
  show oG _ _ _ _ _ _ _ (s₁.setTop (mkF m 0 #[.val (.ref a1), .val (.int p2)] []))
  refine oS (fun t k => XS.aloadN X0.here hx rfl (hb hby d5_0) rfl rfl k) ?_
  obtain ⟨_, _, ⟨T1, L1, k1, n1⟩, -, X1, ⟨Lc1, hQ1, l1, y1, z1⟩, st1⟩ := X0.specialBack hx (y := mY1) rfl hown (mvT hZ (oW hw 32 rfl)) (mvT hZ (oW hw 33 rfl)) (mvT hZ (oW hw 37 rfl)) (by decide) (backOf (W := 0) (rm_num l Z a0 hw [] a1  h0 n0 O0  ) hZ (oW hw 37 rfl) (oW hw 36 rfl) (by decide) (by decide)) (g := (mkF m 1 #[.val (.ref a1), .val (.int p2)] [(.ref a1)])) rfl (by rw [hml]; rfl) (Steps.refl _) (a := a1) (argsL := []) (rest := []) (lenOf pd_0 rfl) rfl (by show 2 * 0 + _ ≤ _; exact Nat.le_of_eq rfl) (hb hby d5_1) (fun _ _ => ⟨rfl, e0, (by decide : 0 + 0 ≤ _), (by decide : 0 + 0 ≤ _)⟩)
  dsimp only [Pt.U, Pt.locs, Pt.cells, Pt.slots] at X1 l1 y1 z1 st1 hQ1
  subst l1 y1 z1
  obtain ⟨rfl, Nq1, e1⟩ := hQ1
  have N1 := Fr.app N0 Nq1
  refine oS (fun t k => st1.trans k) ?_
  show oG _ _ _ _ _ _ _ (T1.setTop (mkF m 4 #[.val (.ref a1), .val (.int p2)] []))
  try clear st1
  refine oS (fun t k => XS.aloadN X1.here hx rfl (hb hby d5_4) rfl rfl k) ?_
  refine oS (fun t k => XS.iloadN X1.here hx rfl (hb hby d5_5) rfl k) ?_
  obtain ⟨T2, h2, X2, e2, W2, st2⟩ := putF X1 hx hZ hown (host := "") (Or.inl (oW hw 39 rfl)) Via.refl e1 F_value_a1 E_a1 (Or.inr ⟨(oW hw 40 rfl), rfl, hnm⟩) (oW hw 27 rfl) (ty := .int) (by decide) rfl rfl (g := (mkF m 6 #[.val (.ref a1), .val (.int p2)] [(.int p2), (.ref a1)])) rfl rfl (hb hby d5_6)
  have O2 := O0.wr W2 g_a1
  have N2 := Fr.snoc X2 N1 g_a1
  have Kp2 : Keep h0 h2 [a1] := (Keep.refl h0 [a1]).wr W2 (Or.inl (List.mem_of_getElem? (i := 0) rfl))
  have Fw2 := F_value_a1.same W2
  refine oS (fun t k => st2 t k) ?_
  show oG _ _ _ _ _ _ _ (T2.setTop (mkF m 9 #[.val (.ref a1), .val (.int p2)] []))
  try clear st2 X1 e1
  exact own_ret (v := none) X2 (fun _ => rfl) Bd.notSynchronized (fun fs hr => X2.returnOut hx Bd.returns (hb hby d5_9) hr) (by rw [e2]; exact ⟨rfl, N2, Kp2, (E_a1.wr W2), Fw2⟩) (by decide) (by decide)
theorem d8_0 : decode jdk_35_method_26_code 0 = .ok (.aload_n 0, 1) := by decide +kernel
theorem d8_1 : decode jdk_35_method_26_code 1 = .ok (.invokespecial 270, 3) := by decide +kernel
theorem d8_4 : decode jdk_35_method_26_code 4 = .ok (.aload_n 0, 1) := by decide +kernel
theorem d8_5 : decode jdk_35_method_26_code 5 = .ok (.lload_n 1, 1) := by decide +kernel
theorem d8_6 : decode jdk_35_method_26_code 6 = .ok (.putfield 273, 3) := by decide +kernel
theorem d8_9 : decode jdk_35_method_26_code 9 = .ok (.return_, 1) := by decide +kernel
abbrev mY3 : MethodName := (⟨"java/lang/Long", "<init>", "(J)V"⟩ : MethodName)
theorem ef_8_rj (m : MethodId) (x0 : Addr) (x1 : Int64) : entryFrame m #[(.ref x0), (.long x1)] 3 = mkF m 0 #[.val (.ref x0), .val (.long x1), .second] [] := by first | (simp [entryFrame, mkF, argsToLocals, Value.category]; done) | rfl
theorem pn_3 : plainName "java/lang/Long" = true := by first | (simp [plainName, overriddenIn]; done) | decide +kernel
def Q_linit (Z : State) (a1 : Addr) (q2 : Int64) (u_value : Value) (w : Nat → Addr) (h0 : Heap) (n0 : Nat) (v : Option Value) (h : Heap) (L : List Loc) : Prop := v = none ∧ Fr n0 L ∧ Keep h0 h [a1] ∧ Exa Z h a1 "java/lang/Long" ∧ Fld Z h a1 "java/lang/Long" "value" "J" (.long q2)
set_option maxRecDepth 65536 in
set_option maxHeartbeats 40000000 in
theorem rm_linit (l : Launch) (Z : State) (a0 : Array Value) (hw : ∀ d ∈ tables_1, d.before a0 Z = true) (ws : List Jvm.Cond) (a1 : Addr) (q2 : Int64) (u_value : Value) (w : Nat → Addr) (h0 : Heap) (n0 : Nat) (O0 : Old Z n0 h0) (W : own_World Z w) (E_a1 : Exa Z h0 a1 "java/lang/Long") (g_a1 : n0 ≤ a1) (F_value_a1 : Fld Z h0 a1 "java/lang/Long" "value" "J" u_value) :
    MetFree l mY3 (head1 (Jvm.Cond.code mY3 jdk_35_method_26_code 3 none :: ws) ({ frames := 2, cells := 0, slots := 0, locals := 24 } : Room)) (fun a U => a = #[(.ref a1), (.long q2)] ∧ Z.Warmed39 U.vm ∧ U.heap = h0) (fun _ _ _ _ _ => True) (fun _ U o U' => ∃ v L, o = .returned v ∧ Q_linit Z a1 q2 u_value w h0 n0 v U'.heap L ∧ FrameEnd U o U' L ({ frames := 2, cells := 0, slots := 0, locals := 24 } : Room).cells ({ frames := 2, cells := 0, slots := 0, locals := 24 } : Room).slots) := by
  refine MetFree.of_bodySF (plainFor_of_name pn_3) hisR ?_
  intro p e s m args below meth c s₁ Bd hml0 hP hK
  obtain ⟨rfl, hZ, hh⟩ := hP
  have hx := Bd.exec
  have hby := Bd.bytes
  have hml : c.maxLocals = 3 := hml0
  have hown : s.vm.findClass "java/lang/Long" = some m.cls := findClass_of_methodNamed Bd.named
  have hnm := (name_of_methodNamed Bd.named Bd.method).1
  have X0 : Stand p l e ({ frames := 2, cells := 0, slots := 0, locals := 24 } : Room) s m #[(.ref a1), (.long q2)] below meth c s₁ [] 0 0 := Stand.of_body Bd
  have e0 : s₁.heap = h0 := by rw [← hh, Bd.state]; rfl
  have N0 := Fr.nil n0
  show oG p e below s (Q_linit Z a1 q2 u_value w h0 n0) ({ frames := 2, cells := 0, slots := 0, locals := 24 } : Room).cells ({ frames := 2, cells := 0, slots := 0, locals := 24 } : Room).slots _
  refine oS (fun t k => castTop (ef_8_rj m a1 q2) k) ?_
  show oG _ _ _ _ _ _ _ (s₁.setTop (mkF m 0 #[.val (.ref a1), .val (.long q2), .second] []))
  refine oS (fun t k => XS.aloadN X0.here hx rfl (hb hby d8_0) rfl rfl k) ?_
  obtain ⟨_, _, ⟨T1, L1, k1, n1⟩, -, X1, ⟨Lc1, hQ1, l1, y1, z1⟩, st1⟩ := X0.specialBack hx (y := mY1) rfl hown (mvT hZ (oW hw 56 rfl)) (mvT hZ (oW hw 33 rfl)) (mvT hZ (oW hw 37 rfl)) (by decide) (backOf (W := 0) (rm_num l Z a0 hw [] a1  h0 n0 O0  ) hZ (oW hw 37 rfl) (oW hw 36 rfl) (by decide) (by decide)) (g := (mkF m 1 #[.val (.ref a1), .val (.long q2), .second] [(.ref a1)])) rfl (by rw [hml]; rfl) (Steps.refl _) (a := a1) (argsL := []) (rest := []) (lenOf pd_0 rfl) rfl (by show 2 * 0 + _ ≤ _; exact Nat.le_of_eq rfl) (hb hby d8_1) (fun _ _ => ⟨rfl, e0, (by decide : 0 + 0 ≤ _), (by decide : 0 + 0 ≤ _)⟩)
  dsimp only [Pt.U, Pt.locs, Pt.cells, Pt.slots] at X1 l1 y1 z1 st1 hQ1
  subst l1 y1 z1
  obtain ⟨rfl, Nq1, e1⟩ := hQ1
  have N1 := Fr.app N0 Nq1
  refine oS (fun t k => st1.trans k) ?_
  show oG _ _ _ _ _ _ _ (T1.setTop (mkF m 4 #[.val (.ref a1), .val (.long q2), .second] []))
  try clear st1
  refine oS (fun t k => XS.aloadN X1.here hx rfl (hb hby d8_4) rfl rfl k) ?_
  refine oS (fun t k => XS.lloadN X1.here hx rfl (hb hby d8_5) rfl k) ?_
  obtain ⟨T2, h2, X2, e2, W2, st2⟩ := putF X1 hx hZ hown (host := "") (Or.inl (oW hw 58 rfl)) Via.refl e1 F_value_a1 E_a1 (Or.inr ⟨(oW hw 59 rfl), rfl, hnm⟩) (oW hw 51 rfl) (ty := .long) (by decide) rfl rfl (g := (mkF m 6 #[.val (.ref a1), .val (.long q2), .second] [(.long q2), (.ref a1)])) rfl rfl (hb hby d8_6)
  have O2 := O0.wr W2 g_a1
  have N2 := Fr.snoc X2 N1 g_a1
  have Kp2 : Keep h0 h2 [a1] := (Keep.refl h0 [a1]).wr W2 (Or.inl (List.mem_of_getElem? (i := 0) rfl))
  have Fw2 := F_value_a1.same W2
  refine oS (fun t k => st2 t k) ?_
  show oG _ _ _ _ _ _ _ (T2.setTop (mkF m 9 #[.val (.ref a1), .val (.long q2), .second] []))
  try clear st2 X1 e1
  exact own_ret (v := none) X2 (fun _ => rfl) Bd.notSynchronized (fun fs hr => X2.returnOut hx Bd.returns (hb hby d8_9) hr) (by rw [e2]; exact ⟨rfl, N2, Kp2, (E_a1.wr W2), Fw2⟩) (by decide) (by decide)
theorem d4_0 : decode jdk_33_method_22_code 0 = .ok (.iload_n 0, 1) := by decide +kernel
theorem d4_1 : decode jdk_33_method_22_code 1 = .ok (.bipush (-128), 2) := by decide +kernel
theorem lb_m128 : (Int8.ofInt (-128)).toInt32 = (-128 : Int32) := by decide
theorem d4_3 : decode jdk_33_method_22_code 3 = .ok (.if_icmp .lt 20, 3) := by decide +kernel
theorem d4_23 : decode jdk_33_method_22_code 23 = .ok (.new 1, 3) := by decide +kernel
theorem d4_26 : decode jdk_33_method_22_code 26 = .ok (.dup, 1) := by decide +kernel
theorem d4_27 : decode jdk_33_method_22_code 27 = .ok (.iload_n 0, 1) := by decide +kernel
theorem d4_28 : decode jdk_33_method_22_code 28 = .ok (.invokespecial 199, 3) := by decide +kernel
theorem pd_1 : parseMethodDescriptor "(I)V" = some ⟨[.int], none⟩ := by decide +kernel
theorem d4_31 : decode jdk_33_method_22_code 31 = .ok (.areturn, 1) := by decide +kernel
theorem d4_6 : decode jdk_33_method_22_code 6 = .ok (.iload_n 0, 1) := by decide +kernel
theorem d4_7 : decode jdk_33_method_22_code 7 = .ok (.getstatic 191, 3) := by decide +kernel
theorem d4_10 : decode jdk_33_method_22_code 10 = .ok (.if_icmp .gt 13, 3) := by decide +kernel
theorem d4_13 : decode jdk_33_method_22_code 13 = .ok (.getstatic 195, 3) := by decide +kernel
theorem d4_16 : decode jdk_33_method_22_code 16 = .ok (.iload_n 0, 1) := by decide +kernel
theorem d4_17 : decode jdk_33_method_22_code 17 = .ok (.sipush 128, 3) := by decide +kernel
theorem ls_128 : (Int16.ofInt (128)).toInt32 = (128 : Int32) := by decide
theorem d4_20 : decode jdk_33_method_22_code 20 = .ok (.iadd, 1) := by decide +kernel
theorem d4_21 : decode jdk_33_method_22_code 21 = .ok (.aaload, 1) := by decide +kernel
theorem d4_22 : decode jdk_33_method_22_code 22 = .ok (.areturn, 1) := by decide +kernel
abbrev mY4 : MethodName := (⟨"java/lang/Integer", "valueOf", "(I)Ljava/lang/Integer;"⟩ : MethodName)
theorem ef_4_i (m : MethodId) (x0 : Int32) : entryFrame m #[(.int x0)] 1 = mkF m 0 #[.val (.int x0)] [] := by first | (simp [entryFrame, mkF, argsToLocals, Value.category]; done) | rfl
def Q_ival (Z : State) (p1 : Int32) (w : Nat → Addr) (h0 : Heap) (n0 : Nat) (v : Option Value) (h : Heap) (L : List Loc) : Prop := ∃ r : Addr, v = some (.ref r) ∧ Fr n0 L ∧ Keep h0 h [] ∧ Exa Z h r "java/lang/Integer"
set_option maxRecDepth 65536 in
set_option maxHeartbeats 40000000 in
theorem rm_ival (l : Launch) (Z : State) (a0 : Array Value) (hw : ∀ d ∈ tables_1, d.before a0 Z = true) (ws : List Jvm.Cond) (p1 : Int32) (w : Nat → Addr) (h0 : Heap) (n0 : Nat) (O0 : Old Z n0 h0) (W : own_World Z w) :
    MetFree l mY4 (head1 (Jvm.Cond.code mY4 jdk_33_method_22_code 1 (some (.object "java/lang/Integer")) :: ws) ({ frames := 3, cells := 1, slots := 1, locals := 38 } : Room)) (fun a U => a = #[(.int p1)] ∧ Z.Warmed39 U.vm ∧ U.heap = h0) (fun _ _ _ _ _ => True) (fun _ U o U' => ∃ v L, o = .returned v ∧ Q_ival Z p1 w h0 n0 v U'.heap L ∧ FrameEnd U o U' L ({ frames := 3, cells := 1, slots := 1, locals := 38 } : Room).cells ({ frames := 3, cells := 1, slots := 1, locals := 38 } : Room).slots) := by
  refine MetFree.of_bodySF (plainFor_of_name pn_2) hisR ?_
  intro p e s m args below meth c s₁ Bd hml0 hP hK
  obtain ⟨rfl, hZ, hh⟩ := hP
  have hx := Bd.exec
  have hby := Bd.bytes
  have hml : c.maxLocals = 1 := hml0
  have hown : s.vm.findClass "java/lang/Integer" = some m.cls := findClass_of_methodNamed Bd.named
  have hnm := (name_of_methodNamed Bd.named Bd.method).1
  have X0 : Stand p l e ({ frames := 3, cells := 1, slots := 1, locals := 38 } : Room) s m #[(.int p1)] below meth c s₁ [] 0 0 := Stand.of_body Bd
  have e0 : s₁.heap = h0 := by rw [← hh, Bd.state]; rfl
  have N0 := Fr.nil n0
  show oG p e below s (Q_ival Z p1 w h0 n0) ({ frames := 3, cells := 1, slots := 1, locals := 38 } : Room).cells ({ frames := 3, cells := 1, slots := 1, locals := 38 } : Room).slots _
  refine oS (fun t k => castTop (ef_4_i m p1) k) ?_
  show oG _ _ _ _ _ _ _ (s₁.setTop (mkF m 0 #[.val (.int p1)] []))
  refine oS (fun t k => XS.iloadN X0.here hx rfl (hb hby d4_0) rfl k) ?_
  refine oS (fun t k => oBp lb_m128 X0.here hx rfl (hb hby d4_1) k) ?_
  by_cases hc3 : p1 < (-128 : Int32)
  · refine oS (fun t k => XS.icmpYes X0.here hx rfl (pc0 := 3) (pc' := 23) rfl (hb hby d4_3) rfl (tlt hc3).1 (by decide) (by decide) k) ?_
    show oG _ _ _ _ _ _ _ (s₁.setTop (mkF m 23 #[.val (.int p1)] []))
    obtain ⟨T1, h1, X1, e1, E1, A1, D1, -, st1⟩ := newO X0 hx hZ hown (oW hw 26 rfl) (oW hw 27 rfl) (oW hw 22 rfl) e0 (g := (mkF m 23 #[.val (.int p1)] [])) rfl (hb hby d4_23) (by decide) (by decide)
    obtain ⟨b1, g1⟩ : ∃ z, z = h0.size := ⟨_, rfl⟩
    rw [← g1] at A1 D1 st1
    have gx1 : n0 ≤ b1 := Nat.le_trans (O0.1 ▸ O0.2.1) (Nat.le_of_eq g1.symm)
    have sz1 : h0.size ≤ b1 := Nat.le_trans (Nat.le_refl _) (Nat.le_of_eq g1.symm)
    have O1 := O0.ext E1
    have Kp1 : Keep h0 h1 [] := (Keep.refl h0 []).ext E1
    have F_value_b1 : Fld Z h1 b1 "java/lang/Integer" "value" "I" (.int 0) := D1 (Or.inr (oW hw 40 rfl)) (ty := .int) (by decide)
    refine oS (fun t k => st1 t k) ?_
    try clear st1
    refine oS (fun t k => XS.dup X1.here hx rfl (hb hby d4_26) rfl rfl k) ?_
    refine oS (fun t k => XS.iloadN X1.here hx rfl (hb hby d4_27) rfl k) ?_
    show oG _ _ _ _ _ _ _ (T1.setTop (mkF m 28 #[.val (.int p1)] [(.int p1), (.ref b1), (.ref b1)]))
    obtain ⟨_, _, ⟨T2, L2, k2, n2⟩, -, X2, ⟨Lc2, hQ2, l2, y2, z2⟩, st2⟩ := X1.specialBack hx (y := mY2) rfl hown (mvT hZ (oW hw 28 rfl)) (mvT hZ (oW hw 29 rfl)) (mvT hZ (oW hw 31 rfl)) (by decide) (backOf (W := 1) (rm_iinit l Z a0 hw [] b1 p1 (.int 0) w h1 n0 O1 W A1 gx1 F_value_b1) hZ (oW hw 31 rfl) (oW hw 22 rfl) (by decide) (by decide)) (g := (mkF m 28 #[.val (.int p1)] [(.int p1), (.ref b1), (.ref b1)])) rfl (by rw [hml]; rfl) (Steps.refl _) (a := b1) (argsL := [(.int p1)]) (rest := [(.ref b1)]) (lenOf pd_1 rfl) rfl (by show 2 * 0 + _ ≤ _; exact Nat.le_of_eq rfl) (hb hby d4_28) (fun _ _ => ⟨rfl, e1, (by decide : 1 + 0 ≤ _), (by decide : 1 + 0 ≤ _)⟩)
    dsimp only [Pt.U, Pt.locs, Pt.cells, Pt.slots] at X2 l2 y2 z2 st2 hQ2
    subst l2 y2 z2
    obtain ⟨rfl, Nq2, K2, P2_0, P2_1⟩ := hQ2
    have N2 := Fr.app N0 Nq2
    have O2 := O1.keep K2 (allS gx1 all0)
    have Kp2 : Keep h0 T2.heap [] := Kp1.trans K2 (allS (Or.inr sz1) all0)
    refine oS (fun t k => st2.trans k) ?_
    show oG _ _ _ _ _ _ _ (T2.setTop (mkF m 31 #[.val (.int p1)] [(.ref b1)]))
    try clear st2 X1 e1
    try clear T1
    exact own_ret (v := some (.ref b1)) X2 (fun h => by rw [Bd.returns] at h; cases h) Bd.notSynchronized (fun fs hr => retOut X2 hx (t := (.object "java/lang/Integer")) Bd.returns rfl (Or.inr (Or.inr (Or.inr (Or.inr ⟨rfl, rfl, rfl⟩)))) (hb hby d4_31) hr) (by exact ⟨b1, rfl, N2, Kp2, P2_0⟩) (by decide) (by decide)
  · refine oS (fun t k => XS.icmpNo X0.here hx rfl (hb hby d4_3) rfl (flt hc3).1 k) ?_
    show oG _ _ _ _ _ _ _ (s₁.setTop (mkF m 6 #[.val (.int p1)] []))
    refine oS (fun t k => XS.iloadN X0.here hx rfl (hb hby d4_6) rfl k) ?_
    obtain ⟨T3, X3, e3, st3⟩ := getS2 X0 hx hZ hown (host := "") (Or.inl (oW hw 24 rfl)) Via.refl e0 ((wI6 W).ext O0.2) (g := (mkF m 7 #[.val (.int p1)] [(.int p1)])) rfl (hb hby d4_7)
    refine oS (fun t k => st3 t k) ?_
    try clear st3
    by_cases hc10 : (127 : Int32) < p1
    · refine oS (fun t k => XS.icmpYes X3.here hx rfl (pc0 := 10) (pc' := 23) rfl (hb hby d4_10) rfl (tlt hc10).2.2.1 (by decide) (by decide) k) ?_
      show oG _ _ _ _ _ _ _ (T3.setTop (mkF m 23 #[.val (.int p1)] []))
      obtain ⟨T4, h4, X4, e4, E4, A4, D4, -, st4⟩ := newO X3 hx hZ hown (oW hw 26 rfl) (oW hw 27 rfl) (oW hw 22 rfl) e3 (g := (mkF m 23 #[.val (.int p1)] [])) rfl (hb hby d4_23) (by decide) (by decide)
      obtain ⟨b4, g4⟩ : ∃ z, z = h0.size := ⟨_, rfl⟩
      rw [← g4] at A4 D4 st4
      have gx4 : n0 ≤ b4 := Nat.le_trans (O0.1 ▸ O0.2.1) (Nat.le_of_eq g4.symm)
      have sz4 : h0.size ≤ b4 := Nat.le_trans (Nat.le_refl _) (Nat.le_of_eq g4.symm)
      have O4 := O0.ext E4
      have Kp4 : Keep h0 h4 [] := (Keep.refl h0 []).ext E4
      have F_value_b4 : Fld Z h4 b4 "java/lang/Integer" "value" "I" (.int 0) := D4 (Or.inr (oW hw 40 rfl)) (ty := .int) (by decide)
      refine oS (fun t k => st4 t k) ?_
      try clear st4 X3 e3
      try clear T3
      refine oS (fun t k => XS.dup X4.here hx rfl (hb hby d4_26) rfl rfl k) ?_
      refine oS (fun t k => XS.iloadN X4.here hx rfl (hb hby d4_27) rfl k) ?_
      show oG _ _ _ _ _ _ _ (T4.setTop (mkF m 28 #[.val (.int p1)] [(.int p1), (.ref b4), (.ref b4)]))
      obtain ⟨_, _, ⟨T5, L5, k5, n5⟩, -, X5, ⟨Lc5, hQ5, l5, y5, z5⟩, st5⟩ := X4.specialBack hx (y := mY2) rfl hown (mvT hZ (oW hw 28 rfl)) (mvT hZ (oW hw 29 rfl)) (mvT hZ (oW hw 31 rfl)) (by decide) (backOf (W := 1) (rm_iinit l Z a0 hw [] b4 p1 (.int 0) w h4 n0 O4 W A4 gx4 F_value_b4) hZ (oW hw 31 rfl) (oW hw 22 rfl) (by decide) (by decide)) (g := (mkF m 28 #[.val (.int p1)] [(.int p1), (.ref b4), (.ref b4)])) rfl (by rw [hml]; rfl) (Steps.refl _) (a := b4) (argsL := [(.int p1)]) (rest := [(.ref b4)]) (lenOf pd_1 rfl) rfl (by show 2 * 0 + _ ≤ _; exact Nat.le_of_eq rfl) (hb hby d4_28) (fun _ _ => ⟨rfl, e4, (by decide : 1 + 0 ≤ _), (by decide : 1 + 0 ≤ _)⟩)
      dsimp only [Pt.U, Pt.locs, Pt.cells, Pt.slots] at X5 l5 y5 z5 st5 hQ5
      subst l5 y5 z5
      obtain ⟨rfl, Nq5, K5, P5_0, P5_1⟩ := hQ5
      have N5 := Fr.app N0 Nq5
      have O5 := O4.keep K5 (allS gx4 all0)
      have Kp5 : Keep h0 T5.heap [] := Kp4.trans K5 (allS (Or.inr sz4) all0)
      refine oS (fun t k => st5.trans k) ?_
      show oG _ _ _ _ _ _ _ (T5.setTop (mkF m 31 #[.val (.int p1)] [(.ref b4)]))
      try clear st5 X4 e4
      try clear T4
      exact own_ret (v := some (.ref b4)) X5 (fun h => by rw [Bd.returns] at h; cases h) Bd.notSynchronized (fun fs hr => retOut X5 hx (t := (.object "java/lang/Integer")) Bd.returns rfl (Or.inr (Or.inr (Or.inr (Or.inr ⟨rfl, rfl, rfl⟩)))) (hb hby d4_31) hr) (by exact ⟨b4, rfl, N5, Kp5, P5_0⟩) (by decide) (by decide)
    · refine oS (fun t k => XS.icmpNo X3.here hx rfl (hb hby d4_10) rfl (flt hc10).2.2.1 k) ?_
      show oG _ _ _ _ _ _ _ (T3.setTop (mkF m 13 #[.val (.int p1)] []))
      obtain ⟨T6, X6, e6, st6⟩ := getS2 X3 hx hZ hown (host := "") (Or.inl (oW hw 61 rfl)) Via.refl e3 ((wS0 W).ext O0.2) (g := (mkF m 13 #[.val (.int p1)] [])) rfl (hb hby d4_13)
      refine oS (fun t k => st6 t k) ?_
      try clear st6 X3 e3
      try clear T3
      refine oS (fun t k => XS.iloadN X6.here hx rfl (hb hby d4_16) rfl k) ?_
      refine oS (fun t k => oSp ls_128 X6.here hx rfl (hb hby d4_17) k) ?_
      show oG _ _ _ _ _ _ _ (T6.setTop (mkF m 20 #[.val (.int p1)] [(.int 128), (.int p1), (.ref (w 0))]))
      refine oS (fun t k => XS.iadd X6.here hx rfl (hb hby d4_20) rfl k) ?_
      obtain ⟨cl7, Ar7, Sz7, Hb7⟩ := (wB0 W)
      have Ax7 := Ar7.ext O0.2
      have hin7 : ¬ ((p1 + (128 : Int32)) < 0 ∨ cl7.slots.size ≤ ((p1 + (128 : Int32))).toNatClampNeg) := own_i8 hc3 hc10 Sz7
      obtain ⟨r7, hat7, Er7⟩ := Hb7 _ hin7
      refine oS (fun t k => X6.aaload hx (j := (p1 + (128 : Int32))) (v := (.ref r7)) (by rw [e6]; exact Ax7.1) (State.isArrayOf_alike hZ.alike Ax7.2.1) rfl Ax7.2.2 hin7 hat7 (g := (mkF m 21 #[.val (.int p1)] [(.int (p1 + (128 : Int32))), (.ref (w 0))])) rfl rfl (hb hby d4_21) t k) ?_
      exact own_ret (v := some (.ref r7)) X6 (fun h => by rw [Bd.returns] at h; cases h) Bd.notSynchronized (fun fs hr => retOut X6 hx (t := (.object "java/lang/Integer")) Bd.returns rfl (Or.inr (Or.inr (Or.inr (Or.inr ⟨rfl, rfl, rfl⟩)))) (hb hby d4_22) hr) (by rw [e6]; exact ⟨r7, rfl, N0, (Keep.refl h0 []), (Er7.ext O0.2)⟩) (by decide) (by decide)
theorem d7_0 : decode jdk_35_method_24_code 0 = .ok (.sipush 128, 3) := by decide +kernel
theorem d7_3 : decode jdk_35_method_24_code 3 = .ok (.istore_n 2, 1) := by decide +kernel
theorem d7_4 : decode jdk_35_method_24_code 4 = .ok (.lload_n 0, 1) := by decide +kernel
theorem d7_5 : decode jdk_35_method_24_code 5 = .ok (.ldc2_w 230, 3) := by decide +kernel
theorem d7_8 : decode jdk_35_method_24_code 8 = .ok (.lcmp, 1) := by decide +kernel
theorem d7_9 : decode jdk_35_method_24_code 9 = .ok (.ifCond .lt 22, 3) := by decide +kernel
theorem d7_31 : decode jdk_35_method_24_code 31 = .ok (.new 1, 3) := by decide +kernel
theorem d7_34 : decode jdk_35_method_24_code 34 = .ok (.dup, 1) := by decide +kernel
theorem d7_35 : decode jdk_35_method_24_code 35 = .ok (.lload_n 0, 1) := by decide +kernel
theorem d7_36 : decode jdk_35_method_24_code 36 = .ok (.invokespecial 240, 3) := by decide +kernel
theorem pd_2 : parseMethodDescriptor "(J)V" = some ⟨[.long], none⟩ := by decide +kernel
theorem d7_39 : decode jdk_35_method_24_code 39 = .ok (.areturn, 1) := by decide +kernel
theorem d7_12 : decode jdk_35_method_24_code 12 = .ok (.lload_n 0, 1) := by decide +kernel
theorem d7_13 : decode jdk_35_method_24_code 13 = .ok (.ldc2_w 232, 3) := by decide +kernel
theorem d7_16 : decode jdk_35_method_24_code 16 = .ok (.lcmp, 1) := by decide +kernel
theorem d7_17 : decode jdk_35_method_24_code 17 = .ok (.ifCond .gt 14, 3) := by decide +kernel
theorem d7_20 : decode jdk_35_method_24_code 20 = .ok (.getstatic 234, 3) := by decide +kernel
theorem d7_23 : decode jdk_35_method_24_code 23 = .ok (.lload_n 0, 1) := by decide +kernel
theorem d7_24 : decode jdk_35_method_24_code 24 = .ok (.l2i, 1) := by decide +kernel
theorem d7_25 : decode jdk_35_method_24_code 25 = .ok (.sipush 128, 3) := by decide +kernel
theorem d7_28 : decode jdk_35_method_24_code 28 = .ok (.iadd, 1) := by decide +kernel
theorem d7_29 : decode jdk_35_method_24_code 29 = .ok (.aaload, 1) := by decide +kernel
theorem d7_30 : decode jdk_35_method_24_code 30 = .ok (.areturn, 1) := by decide +kernel
abbrev mY5 : MethodName := (⟨"java/lang/Long", "valueOf", "(J)Ljava/lang/Long;"⟩ : MethodName)
theorem ef_7_j (m : MethodId) (x0 : Int64) : entryFrame m #[(.long x0)] 3 = mkF m 0 #[.val (.long x0), .second, .unset] [] := by first | (simp [entryFrame, mkF, argsToLocals, Value.category]; done) | rfl
def Q_lval (Z : State) (q1 : Int64) (w : Nat → Addr) (h0 : Heap) (n0 : Nat) (v : Option Value) (h : Heap) (L : List Loc) : Prop := ∃ r : Addr, v = some (.ref r) ∧ Fr n0 L ∧ Keep h0 h [] ∧ Exa Z h r "java/lang/Long"
set_option maxRecDepth 65536 in
set_option maxHeartbeats 40000000 in
theorem rm_lval (l : Launch) (Z : State) (a0 : Array Value) (hw : ∀ d ∈ tables_1, d.before a0 Z = true) (ws : List Jvm.Cond) (q1 : Int64) (w : Nat → Addr) (h0 : Heap) (n0 : Nat) (O0 : Old Z n0 h0) (W : own_World Z w) :
    MetFree l mY5 (head1 (Jvm.Cond.code mY5 jdk_35_method_24_code 3 (some (.object "java/lang/Long")) :: ws) ({ frames := 3, cells := 1, slots := 1, locals := 39 } : Room)) (fun a U => a = #[(.long q1)] ∧ Z.Warmed39 U.vm ∧ U.heap = h0) (fun _ _ _ _ _ => True) (fun _ U o U' => ∃ v L, o = .returned v ∧ Q_lval Z q1 w h0 n0 v U'.heap L ∧ FrameEnd U o U' L ({ frames := 3, cells := 1, slots := 1, locals := 39 } : Room).cells ({ frames := 3, cells := 1, slots := 1, locals := 39 } : Room).slots) := by
  refine MetFree.of_bodySF (plainFor_of_name pn_3) hisR ?_
  intro p e s m args below meth c s₁ Bd hml0 hP hK
  obtain ⟨rfl, hZ, hh⟩ := hP
  have hx := Bd.exec
  have hby := Bd.bytes
  have hml : c.maxLocals = 3 := hml0
  have hown : s.vm.findClass "java/lang/Long" = some m.cls := findClass_of_methodNamed Bd.named
  have hnm := (name_of_methodNamed Bd.named Bd.method).1
  have X0 : Stand p l e ({ frames := 3, cells := 1, slots := 1, locals := 39 } : Room) s m #[(.long q1)] below meth c s₁ [] 0 0 := Stand.of_body Bd
  have e0 : s₁.heap = h0 := by rw [← hh, Bd.state]; rfl
  have N0 := Fr.nil n0
  show oG p e below s (Q_lval Z q1 w h0 n0) ({ frames := 3, cells := 1, slots := 1, locals := 39 } : Room).cells ({ frames := 3, cells := 1, slots := 1, locals := 39 } : Room).slots _
  refine oS (fun t k => castTop (ef_7_j m q1) k) ?_
  show oG _ _ _ _ _ _ _ (s₁.setTop (mkF m 0 #[.val (.long q1), .second, .unset] []))
  refine oS (fun t k => oSp ls_128 X0.here hx rfl (hb hby d7_0) k) ?_
  refine oS (fun t k => XS.istoreN X0.here hx rfl (hb hby d7_3) rfl (l' := #[.val (.long q1), .second, .val (.int 128)]) rfl k) ?_
  refine oS (fun t k => XS.lloadN X0.here hx rfl (hb hby d7_4) rfl k) ?_
  show oG _ _ _ _ _ _ _ (s₁.setTop (mkF m 5 #[.val (.long q1), .second, .val (.int 128)] [(.long q1)]))
  refine oS (fun t k => X0.ldc2Long hx hown (mvT hZ (oW hw 48 rfl)) (g := (mkF m 5 #[.val (.long q1), .second, .val (.int 128)] [(.long q1)])) rfl (hb hby d7_5) t k) ?_
  refine oS (fun t k => XS.lcmp X0.here hx rfl (hb hby d7_8) rfl k) ?_
  by_cases hc9 : q1 < (-128 : Int64)
  · refine oS (fun t k => XS.ifYes X0.here hx rfl (pc0 := 9) (pc' := 31) rfl (hb hby d7_9) rfl ((if0 _ _).trans (tlt ((lw_lt q1 (-128 : Int64)).mpr hc9)).1) (by decide) (by decide) k) ?_
    show oG _ _ _ _ _ _ _ (s₁.setTop (mkF m 31 #[.val (.long q1), .second, .val (.int 128)] []))
    obtain ⟨T1, h1, X1, e1, E1, A1, D1, -, st1⟩ := newO X0 hx hZ hown (oW hw 50 rfl) (oW hw 51 rfl) (oW hw 46 rfl) e0 (g := (mkF m 31 #[.val (.long q1), .second, .val (.int 128)] [])) rfl (hb hby d7_31) (by decide) (by decide)
    obtain ⟨b1, g1⟩ : ∃ z, z = h0.size := ⟨_, rfl⟩
    rw [← g1] at A1 D1 st1
    have gx1 : n0 ≤ b1 := Nat.le_trans (O0.1 ▸ O0.2.1) (Nat.le_of_eq g1.symm)
    have sz1 : h0.size ≤ b1 := Nat.le_trans (Nat.le_refl _) (Nat.le_of_eq g1.symm)
    have O1 := O0.ext E1
    have Kp1 : Keep h0 h1 [] := (Keep.refl h0 []).ext E1
    have F_value_b1 : Fld Z h1 b1 "java/lang/Long" "value" "J" (.long 0) := D1 (Or.inr (oW hw 59 rfl)) (ty := .long) (by decide)
    refine oS (fun t k => st1 t k) ?_
    try clear st1
    refine oS (fun t k => XS.dup X1.here hx rfl (hb hby d7_34) rfl rfl k) ?_
    refine oS (fun t k => XS.lloadN X1.here hx rfl (hb hby d7_35) rfl k) ?_
    show oG _ _ _ _ _ _ _ (T1.setTop (mkF m 36 #[.val (.long q1), .second, .val (.int 128)] [(.long q1), (.ref b1), (.ref b1)]))
    obtain ⟨_, _, ⟨T2, L2, k2, n2⟩, -, X2, ⟨Lc2, hQ2, l2, y2, z2⟩, st2⟩ := X1.specialBack hx (y := mY3) rfl hown (mvT hZ (oW hw 52 rfl)) (mvT hZ (oW hw 53 rfl)) (mvT hZ (oW hw 55 rfl)) (by decide) (backOf (W := 1) (rm_linit l Z a0 hw [] b1 q1 (.long 0) w h1 n0 O1 W A1 gx1 F_value_b1) hZ (oW hw 55 rfl) (oW hw 46 rfl) (by decide) (by decide)) (g := (mkF m 36 #[.val (.long q1), .second, .val (.int 128)] [(.long q1), (.ref b1), (.ref b1)])) rfl (by rw [hml]; rfl) (Steps.refl _) (a := b1) (argsL := [(.long q1)]) (rest := [(.ref b1)]) (lenOf pd_2 rfl) rfl (by show 2 * 0 + _ ≤ _; exact Nat.le_of_eq rfl) (hb hby d7_36) (fun _ _ => ⟨rfl, e1, (by decide : 1 + 0 ≤ _), (by decide : 1 + 0 ≤ _)⟩)
    dsimp only [Pt.U, Pt.locs, Pt.cells, Pt.slots] at X2 l2 y2 z2 st2 hQ2
    subst l2 y2 z2
    obtain ⟨rfl, Nq2, K2, P2_0, P2_1⟩ := hQ2
    have N2 := Fr.app N0 Nq2
    have O2 := O1.keep K2 (allS gx1 all0)
    have Kp2 : Keep h0 T2.heap [] := Kp1.trans K2 (allS (Or.inr sz1) all0)
    refine oS (fun t k => st2.trans k) ?_
    show oG _ _ _ _ _ _ _ (T2.setTop (mkF m 39 #[.val (.long q1), .second, .val (.int 128)] [(.ref b1)]))
    try clear st2 X1 e1
    try clear T1
    exact own_ret (v := some (.ref b1)) X2 (fun h => by rw [Bd.returns] at h; cases h) Bd.notSynchronized (fun fs hr => retOut X2 hx (t := (.object "java/lang/Long")) Bd.returns rfl (Or.inr (Or.inr (Or.inr (Or.inr ⟨rfl, rfl, rfl⟩)))) (hb hby d7_39) hr) (by exact ⟨b1, rfl, N2, Kp2, P2_0⟩) (by decide) (by decide)
  · refine oS (fun t k => XS.ifNo X0.here hx rfl (hb hby d7_9) rfl ((if0 _ _).trans (flt (fun q => hc9 ((lw_lt q1 (-128 : Int64)).mp q))).1) k) ?_
    show oG _ _ _ _ _ _ _ (s₁.setTop (mkF m 12 #[.val (.long q1), .second, .val (.int 128)] []))
    refine oS (fun t k => XS.lloadN X0.here hx rfl (hb hby d7_12) rfl k) ?_
    refine oS (fun t k => X0.ldc2Long hx hown (mvT hZ (oW hw 49 rfl)) (g := (mkF m 13 #[.val (.long q1), .second, .val (.int 128)] [(.long q1)])) rfl (hb hby d7_13) t k) ?_
    refine oS (fun t k => XS.lcmp X0.here hx rfl (hb hby d7_16) rfl k) ?_
    show oG _ _ _ _ _ _ _ (s₁.setTop (mkF m 17 #[.val (.long q1), .second, .val (.int 128)] [(.int (lcmpW q1 (127 : Int64)))]))
    by_cases hc17 : (127 : Int64) < q1
    · refine oS (fun t k => XS.ifYes X0.here hx rfl (pc0 := 17) (pc' := 31) rfl (hb hby d7_17) rfl ((if0 _ _).trans (tlt ((lw_gt q1 (127 : Int64)).mpr hc17)).2.2.1) (by decide) (by decide) k) ?_
      obtain ⟨T3, h3, X3, e3, E3, A3, D3, -, st3⟩ := newO X0 hx hZ hown (oW hw 50 rfl) (oW hw 51 rfl) (oW hw 46 rfl) e0 (g := (mkF m 31 #[.val (.long q1), .second, .val (.int 128)] [])) rfl (hb hby d7_31) (by decide) (by decide)
      obtain ⟨b3, g3⟩ : ∃ z, z = h0.size := ⟨_, rfl⟩
      rw [← g3] at A3 D3 st3
      have gx3 : n0 ≤ b3 := Nat.le_trans (O0.1 ▸ O0.2.1) (Nat.le_of_eq g3.symm)
      have sz3 : h0.size ≤ b3 := Nat.le_trans (Nat.le_refl _) (Nat.le_of_eq g3.symm)
      have O3 := O0.ext E3
      have Kp3 : Keep h0 h3 [] := (Keep.refl h0 []).ext E3
      have F_value_b3 : Fld Z h3 b3 "java/lang/Long" "value" "J" (.long 0) := D3 (Or.inr (oW hw 59 rfl)) (ty := .long) (by decide)
      refine oS (fun t k => st3 t k) ?_
      try clear st3
      refine oS (fun t k => XS.dup X3.here hx rfl (hb hby d7_34) rfl rfl k) ?_
      show oG _ _ _ _ _ _ _ (T3.setTop (mkF m 35 #[.val (.long q1), .second, .val (.int 128)] [(.ref b3), (.ref b3)]))
      refine oS (fun t k => XS.lloadN X3.here hx rfl (hb hby d7_35) rfl k) ?_
      obtain ⟨_, _, ⟨T4, L4, k4, n4⟩, -, X4, ⟨Lc4, hQ4, l4, y4, z4⟩, st4⟩ := X3.specialBack hx (y := mY3) rfl hown (mvT hZ (oW hw 52 rfl)) (mvT hZ (oW hw 53 rfl)) (mvT hZ (oW hw 55 rfl)) (by decide) (backOf (W := 1) (rm_linit l Z a0 hw [] b3 q1 (.long 0) w h3 n0 O3 W A3 gx3 F_value_b3) hZ (oW hw 55 rfl) (oW hw 46 rfl) (by decide) (by decide)) (g := (mkF m 36 #[.val (.long q1), .second, .val (.int 128)] [(.long q1), (.ref b3), (.ref b3)])) rfl (by rw [hml]; rfl) (Steps.refl _) (a := b3) (argsL := [(.long q1)]) (rest := [(.ref b3)]) (lenOf pd_2 rfl) rfl (by show 2 * 0 + _ ≤ _; exact Nat.le_of_eq rfl) (hb hby d7_36) (fun _ _ => ⟨rfl, e3, (by decide : 1 + 0 ≤ _), (by decide : 1 + 0 ≤ _)⟩)
      dsimp only [Pt.U, Pt.locs, Pt.cells, Pt.slots] at X4 l4 y4 z4 st4 hQ4
      subst l4 y4 z4
      obtain ⟨rfl, Nq4, K4, P4_0, P4_1⟩ := hQ4
      have N4 := Fr.app N0 Nq4
      have O4 := O3.keep K4 (allS gx3 all0)
      have Kp4 : Keep h0 T4.heap [] := Kp3.trans K4 (allS (Or.inr sz3) all0)
      refine oS (fun t k => st4.trans k) ?_
      show oG _ _ _ _ _ _ _ (T4.setTop (mkF m 39 #[.val (.long q1), .second, .val (.int 128)] [(.ref b3)]))
      try clear st4 X3 e3
      try clear T3
      exact own_ret (v := some (.ref b3)) X4 (fun h => by rw [Bd.returns] at h; cases h) Bd.notSynchronized (fun fs hr => retOut X4 hx (t := (.object "java/lang/Long")) Bd.returns rfl (Or.inr (Or.inr (Or.inr (Or.inr ⟨rfl, rfl, rfl⟩)))) (hb hby d7_39) hr) (by exact ⟨b3, rfl, N4, Kp4, P4_0⟩) (by decide) (by decide)
    · refine oS (fun t k => XS.ifNo X0.here hx rfl (hb hby d7_17) rfl ((if0 _ _).trans (flt (fun q => hc17 ((lw_gt q1 (127 : Int64)).mp q))).2.2.1) k) ?_
      obtain ⟨T5, X5, e5, st5⟩ := getS2 X0 hx hZ hown (host := "") (Or.inl (oW hw 62 rfl)) Via.refl e0 ((wS1 W).ext O0.2) (g := (mkF m 20 #[.val (.long q1), .second, .val (.int 128)] [])) rfl (hb hby d7_20)
      refine oS (fun t k => st5 t k) ?_
      try clear st5
      refine oS (fun t k => XS.lloadN X5.here hx rfl (hb hby d7_23) rfl k) ?_
      show oG _ _ _ _ _ _ _ (T5.setTop (mkF m 24 #[.val (.long q1), .second, .val (.int 128)] [(.long q1), (.ref (w 1))]))
      refine oS (fun t k => XS.l2i X5.here hx rfl (hb hby d7_24) rfl k) ?_
      refine oS (fun t k => oSp ls_128 X5.here hx rfl (hb hby d7_25) k) ?_
      refine oS (fun t k => XS.iadd X5.here hx rfl (hb hby d7_28) rfl k) ?_
      show oG _ _ _ _ _ _ _ (T5.setTop (mkF m 29 #[.val (.long q1), .second, .val (.int 128)] [(.int ((q1.toInt32) + (128 : Int32))), (.ref (w 1))]))
      obtain ⟨cl6, Ar6, Sz6, Hb6⟩ := (wB1 W)
      have Ax6 := Ar6.ext O0.2
      have hin6 : ¬ (((q1.toInt32) + (128 : Int32)) < 0 ∨ cl6.slots.size ≤ (((q1.toInt32) + (128 : Int32))).toNatClampNeg) := own_l8 hc9 hc17 Sz6
      obtain ⟨r6, hat6, Er6⟩ := Hb6 _ hin6
      refine oS (fun t k => X5.aaload hx (j := ((q1.toInt32) + (128 : Int32))) (v := (.ref r6)) (by rw [e5]; exact Ax6.1) (State.isArrayOf_alike hZ.alike Ax6.2.1) rfl Ax6.2.2 hin6 hat6 (g := (mkF m 29 #[.val (.long q1), .second, .val (.int 128)] [(.int ((q1.toInt32) + (128 : Int32))), (.ref (w 1))])) rfl rfl (hb hby d7_29) t k) ?_
      exact own_ret (v := some (.ref r6)) X5 (fun h => by rw [Bd.returns] at h; cases h) Bd.notSynchronized (fun fs hr => retOut X5 hx (t := (.object "java/lang/Long")) Bd.returns rfl (Or.inr (Or.inr (Or.inr (Or.inr ⟨rfl, rfl, rfl⟩)))) (hb hby d7_30) hr) (by rw [e5]; exact ⟨r6, rfl, N0, (Keep.refl h0 []), (Er6.ext O0.2)⟩) (by decide) (by decide)
theorem d3_0 : decode prog_69_method_4_code 0 = .ok (.aload_n 1, 1) := by decide +kernel
theorem d3_1 : decode prog_69_method_4_code 1 = .ok (.instanceof 8, 3) := by decide +kernel
theorem d3_4 : decode prog_69_method_4_code 4 = .ok (.ifCond .eq 35, 3) := by decide +kernel
theorem d3_7 : decode prog_69_method_4_code 7 = .ok (.aload_n 1, 1) := by decide +kernel
theorem d3_8 : decode prog_69_method_4_code 8 = .ok (.checkcast 8, 3) := by decide +kernel
theorem d3_11 : decode prog_69_method_4_code 11 = .ok (.astore_n 2, 1) := by decide +kernel
theorem d3_12 : decode prog_69_method_4_code 12 = .ok (.aload_n 2, 1) := by decide +kernel
theorem d3_13 : decode prog_69_method_4_code 13 = .ok (.getfield 7, 3) := by decide +kernel
theorem d3_16 : decode prog_69_method_4_code 16 = .ok (.aload_n 0, 1) := by decide +kernel
theorem d3_17 : decode prog_69_method_4_code 17 = .ok (.getfield 7, 3) := by decide +kernel
theorem d3_20 : decode prog_69_method_4_code 20 = .ok (.lcmp, 1) := by decide +kernel
theorem d3_21 : decode prog_69_method_4_code 21 = .ok (.ifCond .ne 18, 3) := by decide +kernel
theorem d3_24 : decode prog_69_method_4_code 24 = .ok (.aload_n 2, 1) := by decide +kernel
theorem d3_25 : decode prog_69_method_4_code 25 = .ok (.getfield 13, 3) := by decide +kernel
theorem d3_28 : decode prog_69_method_4_code 28 = .ok (.aload_n 0, 1) := by decide +kernel
theorem d3_29 : decode prog_69_method_4_code 29 = .ok (.getfield 13, 3) := by decide +kernel
theorem d3_32 : decode prog_69_method_4_code 32 = .ok (.if_icmp .ne 7, 3) := by decide +kernel
theorem d3_35 : decode prog_69_method_4_code 35 = .ok (.iconst 1, 1) := by decide +kernel
theorem li_1 : Int32.ofInt (1) = (1 : Int32) := by decide
theorem d3_36 : decode prog_69_method_4_code 36 = .ok (.goto 4, 3) := by decide +kernel
theorem d3_40 : decode prog_69_method_4_code 40 = .ok (.ireturn, 1) := by decide +kernel
abbrev mY6 : MethodName := (⟨"com/example/loudline/loudline/packet/UdpFlow", "equals", "(Ljava/lang/Object;)Z"⟩ : MethodName)
theorem ef_3_rr (m : MethodId) (x0 : Addr) (x1 : Addr) : entryFrame m #[(.ref x0), (.ref x1)] 3 = mkF m 0 #[.val (.ref x0), .val (.ref x1), .unset] [] := by first | (simp [entryFrame, mkF, argsToLocals, Value.category]; done) | rfl
def Q_eq_11 (Z : State) (a1 : Addr) (a2 : Addr) (q1 : Int64) (p1 : Int32) (q2 : Int64) (p2 : Int32) (h0 : Heap) (n0 : Nat) (v : Option Value) (h : Heap) (L : List Loc) : Prop := v = some (.int 1) ∧ Fr n0 L ∧ h = h0
set_option maxRecDepth 65536 in
set_option maxHeartbeats 40000000 in
theorem rm_eq_11 (l : Launch) (Z : State) (a0 : Array Value) (hw : ∀ d ∈ tables_1, d.before a0 Z = true) (ws : List Jvm.Cond) (a1 : Addr) (a2 : Addr) (q1 : Int64) (p1 : Int32) (q2 : Int64) (p2 : Int32) (h0 : Heap) (n0 : Nat) (O0 : Old Z n0 h0) (E_a2 : Exa Z h0 a2 "com/example/loudline/loudline/packet/UdpFlow") (FA_a1 : Fld Z h0 a1 "com/example/loudline/loudline/packet/UdpFlow" "addresses" "J" (.long q1)) (FP_a1 : Fld Z h0 a1 "com/example/loudline/loudline/packet/UdpFlow" "ports" "I" (.int p1)) (FA_a2 : Fld Z h0 a2 "com/example/loudline/loudline/packet/UdpFlow" "addresses" "J" (.long q2)) (FP_a2 : Fld Z h0 a2 "com/example/loudline/loudline/packet/UdpFlow" "ports" "I" (.int p2)) (ha : q2 = q1) (hp : p2 = p1) :
    MetFree l mY6 (head1 (Jvm.Cond.code mY6 prog_69_method_4_code 3 (some .boolean) :: ws) ({ frames := 0, cells := 0, slots := 0, locals := 0 } : Room)) (fun a U => a = #[(.ref a1), (.ref a2)] ∧ Z.Warmed39 U.vm ∧ U.heap = h0) (fun _ _ _ _ _ => True) (fun _ U o U' => ∃ v L, o = .returned v ∧ Q_eq_11 Z a1 a2 q1 p1 q2 p2 h0 n0 v U'.heap L ∧ FrameEnd U o U' L ({ frames := 0, cells := 0, slots := 0, locals := 0 } : Room).cells ({ frames := 0, cells := 0, slots := 0, locals := 0 } : Room).slots) := by
  refine MetFree.of_bodySF (plainFor_of_name pn_0) hisR ?_
  intro p e s m args below meth c s₁ Bd hml0 hP hK
  obtain ⟨rfl, hZ, hh⟩ := hP
  have hx := Bd.exec
  have hby := Bd.bytes
  have hml : c.maxLocals = 3 := hml0
  have hown : s.vm.findClass "com/example/loudline/loudline/packet/UdpFlow" = some m.cls := findClass_of_methodNamed Bd.named
  have hnm := (name_of_methodNamed Bd.named Bd.method).1
  have X0 : Stand p l e ({ frames := 0, cells := 0, slots := 0, locals := 0 } : Room) s m #[(.ref a1), (.ref a2)] below meth c s₁ [] 0 0 := Stand.of_body Bd
  have e0 : s₁.heap = h0 := by rw [← hh, Bd.state]; rfl
  have N0 := Fr.nil n0
  show oG p e below s (Q_eq_11 Z a1 a2 q1 p1 q2 p2 h0 n0) ({ frames := 0, cells := 0, slots := 0, locals := 0 } : Room).cells ({ frames := 0, cells := 0, slots := 0, locals := 0 } : Room).slots _
  refine oS (fun t k => castTop (ef_3_rr m a1 a2) k) ?_
  show oG _ _ _ _ _ _ _ (s₁.setTop (mkF m 0 #[.val (.ref a1), .val (.ref a2), .unset] []))
  refine oS (fun t k => XS.aloadN X0.here hx rfl (hb hby d3_0) rfl rfl k) ?_
  obtain ⟨T1, X1, e1, st1⟩ := instY X0 hx hZ hown (oW hw 18 rfl) e0 (Ins.self E_a2) (g := (mkF m 1 #[.val (.ref a1), .val (.ref a2), .unset] [(.ref a2)])) rfl rfl (hb hby d3_1)
  refine oS (fun t k => st1 t k) ?_
  try clear st1
  refine oS (fun t k => XS.ifNo X1.here hx rfl (hb hby d3_4) rfl ((if0 _ _).trans (feq (by decide)).1) k) ?_
  show oG _ _ _ _ _ _ _ (T1.setTop (mkF m 7 #[.val (.ref a1), .val (.ref a2), .unset] []))
  refine oS (fun t k => XS.aloadN X1.here hx rfl (hb hby d3_7) rfl rfl k) ?_
  obtain ⟨T2, X2, e2, st2⟩ := castY X1 hx hZ hown (oW hw 18 rfl) e1 (Ins.self E_a2) (g := (mkF m 8 #[.val (.ref a1), .val (.ref a2), .unset] [(.ref a2)])) rfl rfl (hb hby d3_8)
  refine oS (fun t k => st2 t k) ?_
  try clear st2 X1 e1
  try clear T1
  refine oS (fun t k => XS.astoreN X2.here hx rfl (hb hby d3_11) rfl rfl (l' := #[.val (.ref a1), .val (.ref a2), .val (.ref a2)]) rfl k) ?_
  show oG _ _ _ _ _ _ _ (T2.setTop (mkF m 12 #[.val (.ref a1), .val (.ref a2), .val (.ref a2)] []))
  refine oS (fun t k => XS.aloadN X2.here hx rfl (hb hby d3_12) rfl rfl k) ?_
  obtain ⟨T3, X3, e3, st3⟩ := getF X2 hx hZ hown (host := "") (Or.inl (oW hw 9 rfl)) Via.refl e2 FA_a2 (g := (mkF m 13 #[.val (.ref a1), .val (.ref a2), .val (.ref a2)] [(.ref a2)])) rfl rfl (hb hby d3_13)
  refine oS (fun t k => st3 t k) ?_
  try clear st3 X2 e2
  try clear T2
  refine oS (fun t k => XS.aloadN X3.here hx rfl (hb hby d3_16) rfl rfl k) ?_
  show oG _ _ _ _ _ _ _ (T3.setTop (mkF m 17 #[.val (.ref a1), .val (.ref a2), .val (.ref a2)] [(.ref a1), (.long q2)]))
  obtain ⟨T4, X4, e4, st4⟩ := getF X3 hx hZ hown (host := "") (Or.inl (oW hw 9 rfl)) Via.refl e3 FA_a1 (g := (mkF m 17 #[.val (.ref a1), .val (.ref a2), .val (.ref a2)] [(.ref a1), (.long q2)])) rfl rfl (hb hby d3_17)
  refine oS (fun t k => st4 t k) ?_
  try clear st4 X3 e3
  try clear T3
  refine oS (fun t k => XS.lcmp X4.here hx rfl (hb hby d3_20) rfl k) ?_
  refine oS (fun t k => XS.ifNo X4.here hx rfl (hb hby d3_21) rfl ((if0 _ _).trans (teq ((lw_eq q2 q1).mpr ha)).2) k) ?_
  show oG _ _ _ _ _ _ _ (T4.setTop (mkF m 24 #[.val (.ref a1), .val (.ref a2), .val (.ref a2)] []))
  refine oS (fun t k => XS.aloadN X4.here hx rfl (hb hby d3_24) rfl rfl k) ?_
  obtain ⟨T5, X5, e5, st5⟩ := getF X4 hx hZ hown (host := "") (Or.inl (oW hw 11 rfl)) Via.refl e4 FP_a2 (g := (mkF m 25 #[.val (.ref a1), .val (.ref a2), .val (.ref a2)] [(.ref a2)])) rfl rfl (hb hby d3_25)
  refine oS (fun t k => st5 t k) ?_
  try clear st5 X4 e4
  try clear T4
  refine oS (fun t k => XS.aloadN X5.here hx rfl (hb hby d3_28) rfl rfl k) ?_
  show oG _ _ _ _ _ _ _ (T5.setTop (mkF m 29 #[.val (.ref a1), .val (.ref a2), .val (.ref a2)] [(.ref a1), (.int p2)]))
  obtain ⟨T6, X6, e6, st6⟩ := getF X5 hx hZ hown (host := "") (Or.inl (oW hw 11 rfl)) Via.refl e5 FP_a1 (g := (mkF m 29 #[.val (.ref a1), .val (.ref a2), .val (.ref a2)] [(.ref a1), (.int p2)])) rfl rfl (hb hby d3_29)
  refine oS (fun t k => st6 t k) ?_
  try clear st6 X5 e5
  try clear T5
  refine oS (fun t k => XS.icmpNo X6.here hx rfl (hb hby d3_32) rfl (teq hp).2 k) ?_
  refine oS (fun t k => oIc li_1 X6.here hx rfl (hb hby d3_35) k) ?_
  show oG _ _ _ _ _ _ _ (T6.setTop (mkF m 36 #[.val (.ref a1), .val (.ref a2), .val (.ref a2)] [(.int 1)]))
  refine oS (fun t k => XS.goto X6.here hx rfl (pc0 := 36) (pc' := 40) rfl (hb hby d3_36) (by decide) (by decide) k) ?_
  exact own_ret (v := some (.int 1)) X6 (fun h => by rw [Bd.returns] at h; cases h) Bd.notSynchronized (fun fs hr => retN X6 hx (t := .boolean) Bd.returns (by simp) (hb hby d3_40) hr) (by rw [e6]; exact ⟨rfl, N0, rfl⟩) (by decide) (by decide)
theorem d3_39 : decode prog_69_method_4_code 39 = .ok (.iconst 0, 1) := by decide +kernel
theorem li_0 : Int32.ofInt (0) = (0 : Int32) := by decide
def Q_eq_10 (Z : State) (a1 : Addr) (a2 : Addr) (q1 : Int64) (p1 : Int32) (q2 : Int64) (p2 : Int32) (h0 : Heap) (n0 : Nat) (v : Option Value) (h : Heap) (L : List Loc) : Prop := v = some (.int 0) ∧ Fr n0 L ∧ h = h0
set_option maxRecDepth 65536 in
set_option maxHeartbeats 40000000 in
theorem rm_eq_10 (l : Launch) (Z : State) (a0 : Array Value) (hw : ∀ d ∈ tables_1, d.before a0 Z = true) (ws : List Jvm.Cond) (a1 : Addr) (a2 : Addr) (q1 : Int64) (p1 : Int32) (q2 : Int64) (p2 : Int32) (h0 : Heap) (n0 : Nat) (O0 : Old Z n0 h0) (E_a2 : Exa Z h0 a2 "com/example/loudline/loudline/packet/UdpFlow") (FA_a1 : Fld Z h0 a1 "com/example/loudline/loudline/packet/UdpFlow" "addresses" "J" (.long q1)) (FP_a1 : Fld Z h0 a1 "com/example/loudline/loudline/packet/UdpFlow" "ports" "I" (.int p1)) (FA_a2 : Fld Z h0 a2 "com/example/loudline/loudline/packet/UdpFlow" "addresses" "J" (.long q2)) (FP_a2 : Fld Z h0 a2 "com/example/loudline/loudline/packet/UdpFlow" "ports" "I" (.int p2)) (ha : q2 = q1) (hp : ¬ (p2 = p1)) :
    MetFree l mY6 (head1 (Jvm.Cond.code mY6 prog_69_method_4_code 3 (some .boolean) :: ws) ({ frames := 0, cells := 0, slots := 0, locals := 0 } : Room)) (fun a U => a = #[(.ref a1), (.ref a2)] ∧ Z.Warmed39 U.vm ∧ U.heap = h0) (fun _ _ _ _ _ => True) (fun _ U o U' => ∃ v L, o = .returned v ∧ Q_eq_10 Z a1 a2 q1 p1 q2 p2 h0 n0 v U'.heap L ∧ FrameEnd U o U' L ({ frames := 0, cells := 0, slots := 0, locals := 0 } : Room).cells ({ frames := 0, cells := 0, slots := 0, locals := 0 } : Room).slots) := by
  refine MetFree.of_bodySF (plainFor_of_name pn_0) hisR ?_
  intro p e s m args below meth c s₁ Bd hml0 hP hK
  obtain ⟨rfl, hZ, hh⟩ := hP
  have hx := Bd.exec
  have hby := Bd.bytes
  have hml : c.maxLocals = 3 := hml0
  have hown : s.vm.findClass "com/example/loudline/loudline/packet/UdpFlow" = some m.cls := findClass_of_methodNamed Bd.named
  have hnm := (name_of_methodNamed Bd.named Bd.method).1
  have X0 : Stand p l e ({ frames := 0, cells := 0, slots := 0, locals := 0 } : Room) s m #[(.ref a1), (.ref a2)] below meth c s₁ [] 0 0 := Stand.of_body Bd
  have e0 : s₁.heap = h0 := by rw [← hh, Bd.state]; rfl
  have N0 := Fr.nil n0
  show oG p e below s (Q_eq_10 Z a1 a2 q1 p1 q2 p2 h0 n0) ({ frames := 0, cells := 0, slots := 0, locals := 0 } : Room).cells ({ frames := 0, cells := 0, slots := 0, locals := 0 } : Room).slots _
  refine oS (fun t k => castTop (ef_3_rr m a1 a2) k) ?_
  show oG _ _ _ _ _ _ _ (s₁.setTop (mkF m 0 #[.val (.ref a1), .val (.ref a2), .unset] []))
  refine oS (fun t k => XS.aloadN X0.here hx rfl (hb hby d3_0) rfl rfl k) ?_
  obtain ⟨T1, X1, e1, st1⟩ := instY X0 hx hZ hown (oW hw 18 rfl) e0 (Ins.self E_a2) (g := (mkF m 1 #[.val (.ref a1), .val (.ref a2), .unset] [(.ref a2)])) rfl rfl (hb hby d3_1)
  refine oS (fun t k => st1 t k) ?_
  try clear st1
  refine oS (fun t k => XS.ifNo X1.here hx rfl (hb hby d3_4) rfl ((if0 _ _).trans (feq (by decide)).1) k) ?_
  show oG _ _ _ _ _ _ _ (T1.setTop (mkF m 7 #[.val (.ref a1), .val (.ref a2), .unset] []))
  refine oS (fun t k => XS.aloadN X1.here hx rfl (hb hby d3_7) rfl rfl k) ?_
  obtain ⟨T2, X2, e2, st2⟩ := castY X1 hx hZ hown (oW hw 18 rfl) e1 (Ins.self E_a2) (g := (mkF m 8 #[.val (.ref a1), .val (.ref a2), .unset] [(.ref a2)])) rfl rfl (hb hby d3_8)
  refine oS (fun t k => st2 t k) ?_
  try clear st2 X1 e1
  try clear T1
  refine oS (fun t k => XS.astoreN X2.here hx rfl (hb hby d3_11) rfl rfl (l' := #[.val (.ref a1), .val (.ref a2), .val (.ref a2)]) rfl k) ?_
  show oG _ _ _ _ _ _ _ (T2.setTop (mkF m 12 #[.val (.ref a1), .val (.ref a2), .val (.ref a2)] []))
  refine oS (fun t k => XS.aloadN X2.here hx rfl (hb hby d3_12) rfl rfl k) ?_
  obtain ⟨T3, X3, e3, st3⟩ := getF X2 hx hZ hown (host := "") (Or.inl (oW hw 9 rfl)) Via.refl e2 FA_a2 (g := (mkF m 13 #[.val (.ref a1), .val (.ref a2), .val (.ref a2)] [(.ref a2)])) rfl rfl (hb hby d3_13)
  refine oS (fun t k => st3 t k) ?_
  try clear st3 X2 e2
  try clear T2
  refine oS (fun t k => XS.aloadN X3.here hx rfl (hb hby d3_16) rfl rfl k) ?_
  show oG _ _ _ _ _ _ _ (T3.setTop (mkF m 17 #[.val (.ref a1), .val (.ref a2), .val (.ref a2)] [(.ref a1), (.long q2)]))
  obtain ⟨T4, X4, e4, st4⟩ := getF X3 hx hZ hown (host := "") (Or.inl (oW hw 9 rfl)) Via.refl e3 FA_a1 (g := (mkF m 17 #[.val (.ref a1), .val (.ref a2), .val (.ref a2)] [(.ref a1), (.long q2)])) rfl rfl (hb hby d3_17)
  refine oS (fun t k => st4 t k) ?_
  try clear st4 X3 e3
  try clear T3
  refine oS (fun t k => XS.lcmp X4.here hx rfl (hb hby d3_20) rfl k) ?_
  refine oS (fun t k => XS.ifNo X4.here hx rfl (hb hby d3_21) rfl ((if0 _ _).trans (teq ((lw_eq q2 q1).mpr ha)).2) k) ?_
  show oG _ _ _ _ _ _ _ (T4.setTop (mkF m 24 #[.val (.ref a1), .val (.ref a2), .val (.ref a2)] []))
  refine oS (fun t k => XS.aloadN X4.here hx rfl (hb hby d3_24) rfl rfl k) ?_
  obtain ⟨T5, X5, e5, st5⟩ := getF X4 hx hZ hown (host := "") (Or.inl (oW hw 11 rfl)) Via.refl e4 FP_a2 (g := (mkF m 25 #[.val (.ref a1), .val (.ref a2), .val (.ref a2)] [(.ref a2)])) rfl rfl (hb hby d3_25)
  refine oS (fun t k => st5 t k) ?_
  try clear st5 X4 e4
  try clear T4
  refine oS (fun t k => XS.aloadN X5.here hx rfl (hb hby d3_28) rfl rfl k) ?_
  show oG _ _ _ _ _ _ _ (T5.setTop (mkF m 29 #[.val (.ref a1), .val (.ref a2), .val (.ref a2)] [(.ref a1), (.int p2)]))
  obtain ⟨T6, X6, e6, st6⟩ := getF X5 hx hZ hown (host := "") (Or.inl (oW hw 11 rfl)) Via.refl e5 FP_a1 (g := (mkF m 29 #[.val (.ref a1), .val (.ref a2), .val (.ref a2)] [(.ref a1), (.int p2)])) rfl rfl (hb hby d3_29)
  refine oS (fun t k => st6 t k) ?_
  try clear st6 X5 e5
  try clear T5
  refine oS (fun t k => XS.icmpYes X6.here hx rfl (pc0 := 32) (pc' := 39) rfl (hb hby d3_32) rfl (feq hp).2 (by decide) (by decide) k) ?_
  refine oS (fun t k => oIc li_0 X6.here hx rfl (hb hby d3_39) k) ?_
  show oG _ _ _ _ _ _ _ (T6.setTop (mkF m 40 #[.val (.ref a1), .val (.ref a2), .val (.ref a2)] [(.int 0)]))
  exact own_ret (v := some (.int 0)) X6 (fun h => by rw [Bd.returns] at h; cases h) Bd.notSynchronized (fun fs hr => retN X6 hx (t := .boolean) Bd.returns (by simp) (hb hby d3_40) hr) (by rw [e6]; exact ⟨rfl, N0, rfl⟩) (by decide) (by decide)
def Q_eq_0 (Z : State) (a1 : Addr) (a2 : Addr) (q1 : Int64) (p1 : Int32) (q2 : Int64) (p2 : Int32) (h0 : Heap) (n0 : Nat) (v : Option Value) (h : Heap) (L : List Loc) : Prop := v = some (.int 0) ∧ Fr n0 L ∧ h = h0
set_option maxRecDepth 65536 in
set_option maxHeartbeats 40000000 in
theorem rm_eq_0 (l : Launch) (Z : State) (a0 : Array Value) (hw : ∀ d ∈ tables_1, d.before a0 Z = true) (ws : List Jvm.Cond) (a1 : Addr) (a2 : Addr) (q1 : Int64) (p1 : Int32) (q2 : Int64) (p2 : Int32) (h0 : Heap) (n0 : Nat) (O0 : Old Z n0 h0) (E_a2 : Exa Z h0 a2 "com/example/loudline/loudline/packet/UdpFlow") (FA_a1 : Fld Z h0 a1 "com/example/loudline/loudline/packet/UdpFlow" "addresses" "J" (.long q1)) (FP_a1 : Fld Z h0 a1 "com/example/loudline/loudline/packet/UdpFlow" "ports" "I" (.int p1)) (FA_a2 : Fld Z h0 a2 "com/example/loudline/loudline/packet/UdpFlow" "addresses" "J" (.long q2)) (FP_a2 : Fld Z h0 a2 "com/example/loudline/loudline/packet/UdpFlow" "ports" "I" (.int p2)) (ha : ¬ (q2 = q1)) :
    MetFree l mY6 (head1 (Jvm.Cond.code mY6 prog_69_method_4_code 3 (some .boolean) :: ws) ({ frames := 0, cells := 0, slots := 0, locals := 0 } : Room)) (fun a U => a = #[(.ref a1), (.ref a2)] ∧ Z.Warmed39 U.vm ∧ U.heap = h0) (fun _ _ _ _ _ => True) (fun _ U o U' => ∃ v L, o = .returned v ∧ Q_eq_0 Z a1 a2 q1 p1 q2 p2 h0 n0 v U'.heap L ∧ FrameEnd U o U' L ({ frames := 0, cells := 0, slots := 0, locals := 0 } : Room).cells ({ frames := 0, cells := 0, slots := 0, locals := 0 } : Room).slots) := by
  refine MetFree.of_bodySF (plainFor_of_name pn_0) hisR ?_
  intro p e s m args below meth c s₁ Bd hml0 hP hK
  obtain ⟨rfl, hZ, hh⟩ := hP
  have hx := Bd.exec
  have hby := Bd.bytes
  have hml : c.maxLocals = 3 := hml0
  have hown : s.vm.findClass "com/example/loudline/loudline/packet/UdpFlow" = some m.cls := findClass_of_methodNamed Bd.named
  have hnm := (name_of_methodNamed Bd.named Bd.method).1
  have X0 : Stand p l e ({ frames := 0, cells := 0, slots := 0, locals := 0 } : Room) s m #[(.ref a1), (.ref a2)] below meth c s₁ [] 0 0 := Stand.of_body Bd
  have e0 : s₁.heap = h0 := by rw [← hh, Bd.state]; rfl
  have N0 := Fr.nil n0
  show oG p e below s (Q_eq_0 Z a1 a2 q1 p1 q2 p2 h0 n0) ({ frames := 0, cells := 0, slots := 0, locals := 0 } : Room).cells ({ frames := 0, cells := 0, slots := 0, locals := 0 } : Room).slots _
  refine oS (fun t k => castTop (ef_3_rr m a1 a2) k) ?_
  show oG _ _ _ _ _ _ _ (s₁.setTop (mkF m 0 #[.val (.ref a1), .val (.ref a2), .unset] []))
  refine oS (fun t k => XS.aloadN X0.here hx rfl (hb hby d3_0) rfl rfl k) ?_
  obtain ⟨T1, X1, e1, st1⟩ := instY X0 hx hZ hown (oW hw 18 rfl) e0 (Ins.self E_a2) (g := (mkF m 1 #[.val (.ref a1), .val (.ref a2), .unset] [(.ref a2)])) rfl rfl (hb hby d3_1)
  refine oS (fun t k => st1 t k) ?_
  try clear st1
  refine oS (fun t k => XS.ifNo X1.here hx rfl (hb hby d3_4) rfl ((if0 _ _).trans (feq (by decide)).1) k) ?_
  show oG _ _ _ _ _ _ _ (T1.setTop (mkF m 7 #[.val (.ref a1), .val (.ref a2), .unset] []))
  refine oS (fun t k => XS.aloadN X1.here hx rfl (hb hby d3_7) rfl rfl k) ?_
  obtain ⟨T2, X2, e2, st2⟩ := castY X1 hx hZ hown (oW hw 18 rfl) e1 (Ins.self E_a2) (g := (mkF m 8 #[.val (.ref a1), .val (.ref a2), .unset] [(.ref a2)])) rfl rfl (hb hby d3_8)
  refine oS (fun t k => st2 t k) ?_
  try clear st2 X1 e1
  try clear T1
  refine oS (fun t k => XS.astoreN X2.here hx rfl (hb hby d3_11) rfl rfl (l' := #[.val (.ref a1), .val (.ref a2), .val (.ref a2)]) rfl k) ?_
  show oG _ _ _ _ _ _ _ (T2.setTop (mkF m 12 #[.val (.ref a1), .val (.ref a2), .val (.ref a2)] []))
  refine oS (fun t k => XS.aloadN X2.here hx rfl (hb hby d3_12) rfl rfl k) ?_
  obtain ⟨T3, X3, e3, st3⟩ := getF X2 hx hZ hown (host := "") (Or.inl (oW hw 9 rfl)) Via.refl e2 FA_a2 (g := (mkF m 13 #[.val (.ref a1), .val (.ref a2), .val (.ref a2)] [(.ref a2)])) rfl rfl (hb hby d3_13)
  refine oS (fun t k => st3 t k) ?_
  try clear st3 X2 e2
  try clear T2
  refine oS (fun t k => XS.aloadN X3.here hx rfl (hb hby d3_16) rfl rfl k) ?_
  show oG _ _ _ _ _ _ _ (T3.setTop (mkF m 17 #[.val (.ref a1), .val (.ref a2), .val (.ref a2)] [(.ref a1), (.long q2)]))
  obtain ⟨T4, X4, e4, st4⟩ := getF X3 hx hZ hown (host := "") (Or.inl (oW hw 9 rfl)) Via.refl e3 FA_a1 (g := (mkF m 17 #[.val (.ref a1), .val (.ref a2), .val (.ref a2)] [(.ref a1), (.long q2)])) rfl rfl (hb hby d3_17)
  refine oS (fun t k => st4 t k) ?_
  try clear st4 X3 e3
  try clear T3
  refine oS (fun t k => XS.lcmp X4.here hx rfl (hb hby d3_20) rfl k) ?_
  refine oS (fun t k => XS.ifYes X4.here hx rfl (pc0 := 21) (pc' := 39) rfl (hb hby d3_21) rfl ((if0 _ _).trans (feq (fun q => ha ((lw_eq q2 q1).mp q))).2) (by decide) (by decide) k) ?_
  show oG _ _ _ _ _ _ _ (T4.setTop (mkF m 39 #[.val (.ref a1), .val (.ref a2), .val (.ref a2)] []))
  refine oS (fun t k => oIc li_0 X4.here hx rfl (hb hby d3_39) k) ?_
  exact own_ret (v := some (.int 0)) X4 (fun h => by rw [Bd.returns] at h; cases h) Bd.notSynchronized (fun fs hr => retN X4 hx (t := .boolean) Bd.returns (by simp) (hb hby d3_40) hr) (by rw [e4]; exact ⟨rfl, N0, rfl⟩) (by decide) (by decide)
def Q_eq_s (Z : State) (a1 : Addr) (q1 : Int64) (p1 : Int32) (h0 : Heap) (n0 : Nat) (v : Option Value) (h : Heap) (L : List Loc) : Prop := v = some (.int 1) ∧ Fr n0 L ∧ h = h0
set_option maxRecDepth 65536 in
set_option maxHeartbeats 40000000 in
theorem rm_eq_s (l : Launch) (Z : State) (a0 : Array Value) (hw : ∀ d ∈ tables_1, d.before a0 Z = true) (ws : List Jvm.Cond) (a1 : Addr) (q1 : Int64) (p1 : Int32) (h0 : Heap) (n0 : Nat) (O0 : Old Z n0 h0) (E_a1 : Exa Z h0 a1 "com/example/loudline/loudline/packet/UdpFlow") (FA_a1 : Fld Z h0 a1 "com/example/loudline/loudline/packet/UdpFlow" "addresses" "J" (.long q1)) (FP_a1 : Fld Z h0 a1 "com/example/loudline/loudline/packet/UdpFlow" "ports" "I" (.int p1)) :
    MetFree l mY6 (head1 (Jvm.Cond.code mY6 prog_69_method_4_code 3 (some .boolean) :: ws) ({ frames := 0, cells := 0, slots := 0, locals := 0 } : Room)) (fun a U => a = #[(.ref a1), (.ref a1)] ∧ Z.Warmed39 U.vm ∧ U.heap = h0) (fun _ _ _ _ _ => True) (fun _ U o U' => ∃ v L, o = .returned v ∧ Q_eq_s Z a1 q1 p1 h0 n0 v U'.heap L ∧ FrameEnd U o U' L ({ frames := 0, cells := 0, slots := 0, locals := 0 } : Room).cells ({ frames := 0, cells := 0, slots := 0, locals := 0 } : Room).slots) := by
  refine MetFree.of_bodySF (plainFor_of_name pn_0) hisR ?_
  intro p e s m args below meth c s₁ Bd hml0 hP hK
  obtain ⟨rfl, hZ, hh⟩ := hP
  have hx := Bd.exec
  have hby := Bd.bytes
  have hml : c.maxLocals = 3 := hml0
  have hown : s.vm.findClass "com/example/loudline/loudline/packet/UdpFlow" = some m.cls := findClass_of_methodNamed Bd.named
  have hnm := (name_of_methodNamed Bd.named Bd.method).1
  have X0 : Stand p l e ({ frames := 0, cells := 0, slots := 0, locals := 0 } : Room) s m #[(.ref a1), (.ref a1)] below meth c s₁ [] 0 0 := Stand.of_body Bd
  have e0 : s₁.heap = h0 := by rw [← hh, Bd.state]; rfl
  have N0 := Fr.nil n0
  show oG p e below s (Q_eq_s Z a1 q1 p1 h0 n0) ({ frames := 0, cells := 0, slots := 0, locals := 0 } : Room).cells ({ frames := 0, cells := 0, slots := 0, locals := 0 } : Room).slots _
  refine oS (fun t k => castTop (ef_3_rr m a1 a1) k) ?_
  show oG _ _ _ _ _ _ _ (s₁.setTop (mkF m 0 #[.val (.ref a1), .val (.ref a1), .unset] []))
  refine oS (fun t k => XS.aloadN X0.here hx rfl (hb hby d3_0) rfl rfl k) ?_
  obtain ⟨T1, X1, e1, st1⟩ := instY X0 hx hZ hown (oW hw 18 rfl) e0 (Ins.self E_a1) (g := (mkF m 1 #[.val (.ref a1), .val (.ref a1), .unset] [(.ref a1)])) rfl rfl (hb hby d3_1)
  refine oS (fun t k => st1 t k) ?_
  try clear st1
  refine oS (fun t k => XS.ifNo X1.here hx rfl (hb hby d3_4) rfl ((if0 _ _).trans (feq (by decide)).1) k) ?_
  show oG _ _ _ _ _ _ _ (T1.setTop (mkF m 7 #[.val (.ref a1), .val (.ref a1), .unset] []))
  refine oS (fun t k => XS.aloadN X1.here hx rfl (hb hby d3_7) rfl rfl k) ?_
  obtain ⟨T2, X2, e2, st2⟩ := castY X1 hx hZ hown (oW hw 18 rfl) e1 (Ins.self E_a1) (g := (mkF m 8 #[.val (.ref a1), .val (.ref a1), .unset] [(.ref a1)])) rfl rfl (hb hby d3_8)
  refine oS (fun t k => st2 t k) ?_
  try clear st2 X1 e1
  try clear T1
  refine oS (fun t k => XS.astoreN X2.here hx rfl (hb hby d3_11) rfl rfl (l' := #[.val (.ref a1), .val (.ref a1), .val (.ref a1)]) rfl k) ?_
  show oG _ _ _ _ _ _ _ (T2.setTop (mkF m 12 #[.val (.ref a1), .val (.ref a1), .val (.ref a1)] []))
  refine oS (fun t k => XS.aloadN X2.here hx rfl (hb hby d3_12) rfl rfl k) ?_
  obtain ⟨T3, X3, e3, st3⟩ := getF X2 hx hZ hown (host := "") (Or.inl (oW hw 9 rfl)) Via.refl e2 FA_a1 (g := (mkF m 13 #[.val (.ref a1), .val (.ref a1), .val (.ref a1)] [(.ref a1)])) rfl rfl (hb hby d3_13)
  refine oS (fun t k => st3 t k) ?_
  try clear st3 X2 e2
  try clear T2
  refine oS (fun t k => XS.aloadN X3.here hx rfl (hb hby d3_16) rfl rfl k) ?_
  show oG _ _ _ _ _ _ _ (T3.setTop (mkF m 17 #[.val (.ref a1), .val (.ref a1), .val (.ref a1)] [(.ref a1), (.long q1)]))
  obtain ⟨T4, X4, e4, st4⟩ := getF X3 hx hZ hown (host := "") (Or.inl (oW hw 9 rfl)) Via.refl e3 FA_a1 (g := (mkF m 17 #[.val (.ref a1), .val (.ref a1), .val (.ref a1)] [(.ref a1), (.long q1)])) rfl rfl (hb hby d3_17)
  refine oS (fun t k => st4 t k) ?_
  try clear st4 X3 e3
  try clear T3
  refine oS (fun t k => XS.lcmp X4.here hx rfl (hb hby d3_20) rfl k) ?_
  refine oS (fun t k => XS.ifNo X4.here hx rfl (hb hby d3_21) rfl ((if0 _ _).trans (teq ((lw_eq q1 q1).mpr rfl)).2) k) ?_
  show oG _ _ _ _ _ _ _ (T4.setTop (mkF m 24 #[.val (.ref a1), .val (.ref a1), .val (.ref a1)] []))
  refine oS (fun t k => XS.aloadN X4.here hx rfl (hb hby d3_24) rfl rfl k) ?_
  obtain ⟨T5, X5, e5, st5⟩ := getF X4 hx hZ hown (host := "") (Or.inl (oW hw 11 rfl)) Via.refl e4 FP_a1 (g := (mkF m 25 #[.val (.ref a1), .val (.ref a1), .val (.ref a1)] [(.ref a1)])) rfl rfl (hb hby d3_25)
  refine oS (fun t k => st5 t k) ?_
  try clear st5 X4 e4
  try clear T4
  refine oS (fun t k => XS.aloadN X5.here hx rfl (hb hby d3_28) rfl rfl k) ?_
  show oG _ _ _ _ _ _ _ (T5.setTop (mkF m 29 #[.val (.ref a1), .val (.ref a1), .val (.ref a1)] [(.ref a1), (.int p1)]))
  obtain ⟨T6, X6, e6, st6⟩ := getF X5 hx hZ hown (host := "") (Or.inl (oW hw 11 rfl)) Via.refl e5 FP_a1 (g := (mkF m 29 #[.val (.ref a1), .val (.ref a1), .val (.ref a1)] [(.ref a1), (.int p1)])) rfl rfl (hb hby d3_29)
  refine oS (fun t k => st6 t k) ?_
  try clear st6 X5 e5
  try clear T5
  refine oS (fun t k => XS.icmpNo X6.here hx rfl (hb hby d3_32) rfl (teq rfl).2 k) ?_
  refine oS (fun t k => oIc li_1 X6.here hx rfl (hb hby d3_35) k) ?_
  show oG _ _ _ _ _ _ _ (T6.setTop (mkF m 36 #[.val (.ref a1), .val (.ref a1), .val (.ref a1)] [(.int 1)]))
  refine oS (fun t k => XS.goto X6.here hx rfl (pc0 := 36) (pc' := 40) rfl (hb hby d3_36) (by decide) (by decide) k) ?_
  exact own_ret (v := some (.int 1)) X6 (fun h => by rw [Bd.returns] at h; cases h) Bd.notSynchronized (fun fs hr => retN X6 hx (t := .boolean) Bd.returns (by simp) (hb hby d3_40) hr) (by rw [e6]; exact ⟨rfl, N0, rfl⟩) (by decide) (by decide)
theorem ef_3_rn (m : MethodId) (x0 : Addr) : entryFrame m #[(.ref x0), .null] 3 = mkF m 0 #[.val (.ref x0), .val .null, .unset] [] := by first | (simp [entryFrame, mkF, argsToLocals, Value.category]; done) | rfl
def Q_eq_n (Z : State) (a1 : Addr) (h0 : Heap) (n0 : Nat) (v : Option Value) (h : Heap) (L : List Loc) : Prop := v = some (.int 0) ∧ Fr n0 L ∧ h = h0
set_option maxRecDepth 65536 in
set_option maxHeartbeats 40000000 in
theorem rm_eq_n (l : Launch) (Z : State) (a0 : Array Value) (hw : ∀ d ∈ tables_1, d.before a0 Z = true) (ws : List Jvm.Cond) (a1 : Addr) (h0 : Heap) (n0 : Nat) (O0 : Old Z n0 h0) :
    MetFree l mY6 (head1 (Jvm.Cond.code mY6 prog_69_method_4_code 3 (some .boolean) :: ws) ({ frames := 0, cells := 0, slots := 0, locals := 0 } : Room)) (fun a U => a = #[(.ref a1), .null] ∧ Z.Warmed39 U.vm ∧ U.heap = h0) (fun _ _ _ _ _ => True) (fun _ U o U' => ∃ v L, o = .returned v ∧ Q_eq_n Z a1 h0 n0 v U'.heap L ∧ FrameEnd U o U' L ({ frames := 0, cells := 0, slots := 0, locals := 0 } : Room).cells ({ frames := 0, cells := 0, slots := 0, locals := 0 } : Room).slots) := by
  refine MetFree.of_bodySF (plainFor_of_name pn_0) hisR ?_
  intro p e s m args below meth c s₁ Bd hml0 hP hK
  obtain ⟨rfl, hZ, hh⟩ := hP
  have hx := Bd.exec
  have hby := Bd.bytes
  have hml : c.maxLocals = 3 := hml0
  have hown : s.vm.findClass "com/example/loudline/loudline/packet/UdpFlow" = some m.cls := findClass_of_methodNamed Bd.named
  have hnm := (name_of_methodNamed Bd.named Bd.method).1
  have X0 : Stand p l e ({ frames := 0, cells := 0, slots := 0, locals := 0 } : Room) s m #[(.ref a1), .null] below meth c s₁ [] 0 0 := Stand.of_body Bd
  have e0 : s₁.heap = h0 := by rw [← hh, Bd.state]; rfl
  have N0 := Fr.nil n0
  show oG p e below s (Q_eq_n Z a1 h0 n0) ({ frames := 0, cells := 0, slots := 0, locals := 0 } : Room).cells ({ frames := 0, cells := 0, slots := 0, locals := 0 } : Room).slots _
  refine oS (fun t k => castTop (ef_3_rn m a1) k) ?_
  show oG _ _ _ _ _ _ _ (s₁.setTop (mkF m 0 #[.val (.ref a1), .val .null, .unset] []))
  refine oS (fun t k => XS.aloadN X0.here hx rfl (hb hby d3_0) rfl rfl k) ?_
  refine oS (fun t k => X0.instanceofNull hx (g := (mkF m 1 #[.val (.ref a1), .val .null, .unset] [.null])) rfl rfl (hb hby d3_1) t k) ?_
  refine oS (fun t k => XS.ifYes X0.here hx rfl (pc0 := 4) (pc' := 39) rfl (hb hby d3_4) rfl ((if0 _ _).trans (teq (by decide)).1) (by decide) (by decide) k) ?_
  show oG _ _ _ _ _ _ _ (s₁.setTop (mkF m 39 #[.val (.ref a1), .val .null, .unset] []))
  refine oS (fun t k => oIc li_0 X0.here hx rfl (hb hby d3_39) k) ?_
  exact own_ret (v := some (.int 0)) X0 (fun h => by rw [Bd.returns] at h; cases h) Bd.notSynchronized (fun fs hr => retN X0 hx (t := .boolean) Bd.returns (by simp) (hb hby d3_40) hr) (by rw [e0]; exact ⟨rfl, N0, rfl⟩) (by decide) (by decide)
def Q_eq_eger (Z : State) (a1 : Addr) (a2 : Addr) (h0 : Heap) (n0 : Nat) (v : Option Value) (h : Heap) (L : List Loc) : Prop := v = some (.int 0) ∧ Fr n0 L ∧ h = h0
set_option maxRecDepth 65536 in
set_option maxHeartbeats 40000000 in
theorem rm_eq_eger (l : Launch) (Z : State) (a0 : Array Value) (hw : ∀ d ∈ tables_1, d.before a0 Z = true) (ws : List Jvm.Cond) (a1 : Addr) (a2 : Addr) (h0 : Heap) (n0 : Nat) (O0 : Old Z n0 h0) (E_a2 : Exa Z h0 a2 "java/lang/Integer") :
    MetFree l mY6 (head1 (Jvm.Cond.code mY6 prog_69_method_4_code 3 (some .boolean) :: ws) ({ frames := 0, cells := 0, slots := 0, locals := 0 } : Room)) (fun a U => a = #[(.ref a1), (.ref a2)] ∧ Z.Warmed39 U.vm ∧ U.heap = h0) (fun _ _ _ _ _ => True) (fun _ U o U' => ∃ v L, o = .returned v ∧ Q_eq_eger Z a1 a2 h0 n0 v U'.heap L ∧ FrameEnd U o U' L ({ frames := 0, cells := 0, slots := 0, locals := 0 } : Room).cells ({ frames := 0, cells := 0, slots := 0, locals := 0 } : Room).slots) := by
  refine MetFree.of_bodySF (plainFor_of_name pn_0) hisR ?_
  intro p e s m args below meth c s₁ Bd hml0 hP hK
  obtain ⟨rfl, hZ, hh⟩ := hP
  have hx := Bd.exec
  have hby := Bd.bytes
  have hml : c.maxLocals = 3 := hml0
  have hown : s.vm.findClass "com/example/loudline/loudline/packet/UdpFlow" = some m.cls := findClass_of_methodNamed Bd.named
  have hnm := (name_of_methodNamed Bd.named Bd.method).1
  have X0 : Stand p l e ({ frames := 0, cells := 0, slots := 0, locals := 0 } : Room) s m #[(.ref a1), (.ref a2)] below meth c s₁ [] 0 0 := Stand.of_body Bd
  have e0 : s₁.heap = h0 := by rw [← hh, Bd.state]; rfl
  have N0 := Fr.nil n0
  show oG p e below s (Q_eq_eger Z a1 a2 h0 n0) ({ frames := 0, cells := 0, slots := 0, locals := 0 } : Room).cells ({ frames := 0, cells := 0, slots := 0, locals := 0 } : Room).slots _
  refine oS (fun t k => castTop (ef_3_rr m a1 a2) k) ?_
  show oG _ _ _ _ _ _ _ (s₁.setTop (mkF m 0 #[.val (.ref a1), .val (.ref a2), .unset] []))
  refine oS (fun t k => XS.aloadN X0.here hx rfl (hb hby d3_0) rfl rfl k) ?_
  obtain ⟨T1, X1, e1, st1⟩ := instNo X0 hx hZ hown (oW hw 18 rfl) e0 E_a2 (own_no (S := "java/lang/Number") (oW hw 41 rfl) (oW hw 1 rfl) (NS.step (oW hw 41 rfl) (NS.step (oW hw 42 rfl) (own_root (oW hw 43 rfl) (oW hw 1 rfl) (by decide)) (by decide)) (by decide)) (by decide)) (g := (mkF m 1 #[.val (.ref a1), .val (.ref a2), .unset] [(.ref a2)])) rfl rfl (hb hby d3_1)
  refine oS (fun t k => st1 t k) ?_
  try clear st1
  refine oS (fun t k => XS.ifYes X1.here hx rfl (pc0 := 4) (pc' := 39) rfl (hb hby d3_4) rfl ((if0 _ _).trans (teq (by decide)).1) (by decide) (by decide) k) ?_
  show oG _ _ _ _ _ _ _ (T1.setTop (mkF m 39 #[.val (.ref a1), .val (.ref a2), .unset] []))
  refine oS (fun t k => oIc li_0 X1.here hx rfl (hb hby d3_39) k) ?_
  exact own_ret (v := some (.int 0)) X1 (fun h => by rw [Bd.returns] at h; cases h) Bd.notSynchronized (fun fs hr => retN X1 hx (t := .boolean) Bd.returns (by simp) (hb hby d3_40) hr) (by rw [e1]; exact ⟨rfl, N0, rfl⟩) (by decide) (by decide)
def Q_eq_Long (Z : State) (a1 : Addr) (a2 : Addr) (h0 : Heap) (n0 : Nat) (v : Option Value) (h : Heap) (L : List Loc) : Prop := v = some (.int 0) ∧ Fr n0 L ∧ h = h0
set_option maxRecDepth 65536 in
set_option maxHeartbeats 40000000 in
theorem rm_eq_Long (l : Launch) (Z : State) (a0 : Array Value) (hw : ∀ d ∈ tables_1, d.before a0 Z = true) (ws : List Jvm.Cond) (a1 : Addr) (a2 : Addr) (h0 : Heap) (n0 : Nat) (O0 : Old Z n0 h0) (E_a2 : Exa Z h0 a2 "java/lang/Long") :
    MetFree l mY6 (head1 (Jvm.Cond.code mY6 prog_69_method_4_code 3 (some .boolean) :: ws) ({ frames := 0, cells := 0, slots := 0, locals := 0 } : Room)) (fun a U => a = #[(.ref a1), (.ref a2)] ∧ Z.Warmed39 U.vm ∧ U.heap = h0) (fun _ _ _ _ _ => True) (fun _ U o U' => ∃ v L, o = .returned v ∧ Q_eq_Long Z a1 a2 h0 n0 v U'.heap L ∧ FrameEnd U o U' L ({ frames := 0, cells := 0, slots := 0, locals := 0 } : Room).cells ({ frames := 0, cells := 0, slots := 0, locals := 0 } : Room).slots) := by
  refine MetFree.of_bodySF (plainFor_of_name pn_0) hisR ?_
  intro p e s m args below meth c s₁ Bd hml0 hP hK
  obtain ⟨rfl, hZ, hh⟩ := hP
  have hx := Bd.exec
  have hby := Bd.bytes
  have hml : c.maxLocals = 3 := hml0
  have hown : s.vm.findClass "com/example/loudline/loudline/packet/UdpFlow" = some m.cls := findClass_of_methodNamed Bd.named
  have hnm := (name_of_methodNamed Bd.named Bd.method).1
  have X0 : Stand p l e ({ frames := 0, cells := 0, slots := 0, locals := 0 } : Room) s m #[(.ref a1), (.ref a2)] below meth c s₁ [] 0 0 := Stand.of_body Bd
  have e0 : s₁.heap = h0 := by rw [← hh, Bd.state]; rfl
  have N0 := Fr.nil n0
  show oG p e below s (Q_eq_Long Z a1 a2 h0 n0) ({ frames := 0, cells := 0, slots := 0, locals := 0 } : Room).cells ({ frames := 0, cells := 0, slots := 0, locals := 0 } : Room).slots _
  refine oS (fun t k => castTop (ef_3_rr m a1 a2) k) ?_
  show oG _ _ _ _ _ _ _ (s₁.setTop (mkF m 0 #[.val (.ref a1), .val (.ref a2), .unset] []))
  refine oS (fun t k => XS.aloadN X0.here hx rfl (hb hby d3_0) rfl rfl k) ?_
  obtain ⟨T1, X1, e1, st1⟩ := instNo X0 hx hZ hown (oW hw 18 rfl) e0 E_a2 (own_no (S := "java/lang/Number") (oW hw 60 rfl) (oW hw 1 rfl) (NS.step (oW hw 60 rfl) (NS.step (oW hw 42 rfl) (own_root (oW hw 43 rfl) (oW hw 1 rfl) (by decide)) (by decide)) (by decide)) (by decide)) (g := (mkF m 1 #[.val (.ref a1), .val (.ref a2), .unset] [(.ref a2)])) rfl rfl (hb hby d3_1)
  refine oS (fun t k => st1 t k) ?_
  try clear st1
  refine oS (fun t k => XS.ifYes X1.here hx rfl (pc0 := 4) (pc' := 39) rfl (hb hby d3_4) rfl ((if0 _ _).trans (teq (by decide)).1) (by decide) (by decide) k) ?_
  show oG _ _ _ _ _ _ _ (T1.setTop (mkF m 39 #[.val (.ref a1), .val (.ref a2), .unset] []))
  refine oS (fun t k => oIc li_0 X1.here hx rfl (hb hby d3_39) k) ?_
  exact own_ret (v := some (.int 0)) X1 (fun h => by rw [Bd.returns] at h; cases h) Bd.notSynchronized (fun fs hr => retN X1 hx (t := .boolean) Bd.returns (by simp) (hb hby d3_40) hr) (by rw [e1]; exact ⟨rfl, N0, rfl⟩) (by decide) (by decide)
theorem li_2 : Int32.ofInt (2) = (2 : Int32) := by decide
theorem li_3 : Int32.ofInt (3) = (3 : Int32) := by decide
theorem pd_3 : parseMethodDescriptor "(JI)V" = some ⟨[.long, .int], none⟩ := by decide +kernel
theorem pd_4 : parseMethodDescriptor "(Ljava/lang/Object;)Z" = some ⟨[(.object "java/lang/Object")], some .boolean⟩ := by decide +kernel
theorem pd_5 : parseMethodDescriptor "(J)Ljava/lang/Long;" = some ⟨[.long], some (.object "java/lang/Long")⟩ := by decide +kernel
theorem pd_6 : parseMethodDescriptor "(I)Ljava/lang/Integer;" = some ⟨[.int], some (.object "java/lang/Integer")⟩ := by decide +kernel
theorem ef_0_jijii (m : MethodId) (x0 : Int64) (x1 : Int32) (x2 : Int64) (x3 : Int32) (x4 : Int32) : entryFrame m #[(.long x0), (.int x1), (.long x2), (.int x3), (.int x4)] maxLocals = mkF m 0 #[.val (.long x0), .second, .val (.int x1), .val (.long x2), .second, .val (.int x3), .val (.int x4), .unset, .unset, .unset, .unset, .unset, .unset, .unset, .unset] [] := by first | (simp [entryFrame, mkF, argsToLocals, Value.category, maxLocals]; done) | rfl
theorem pn_4 : plainName "com/example/loudline/loudline/packet/UdpFlowEqualsPinLaw" = true := by first | (simp [plainName, overriddenIn]; done) | decide +kernel
def Q_law (Z : State) (q1 : Int64) (p2 : Int32) (q3 : Int64) (p4 : Int32) (p5 : Int32) (w : Nat → Addr) (h0 : Heap) (n0 : Nat) (v : Option Value) (h : Heap) (L : List Loc) : Prop := v = some (.int 1) ∧ Fr n0 L
set_option maxRecDepth 65536 in
set_option maxHeartbeats 40000000 in
theorem rm_law (l : Launch) (Z : State) (a0 : Array Value) (hw : ∀ d ∈ tables_1, d.before a0 Z = true) (ws : List Jvm.Cond) (q1 : Int64) (p2 : Int32) (q3 : Int64) (p4 : Int32) (p5 : Int32) (w : Nat → Addr) (h0 : Heap) (n0 : Nat) (O0 : Old Z n0 h0) (W : own_World Z w) :
    MetFree l x (head1 (Jvm.Cond.code x code maxLocals ret :: ws) room_1) (fun a U => a = #[(.long q1), (.int p2), (.long q3), (.int p4), (.int p5)] ∧ Z.Warmed39 U.vm ∧ U.heap = h0) (fun _ _ _ _ _ => True) (fun _ U o U' => ∃ v L, o = .returned v ∧ Q_law Z q1 p2 q3 p4 p5 w h0 n0 v U'.heap L ∧ FrameEnd U o U' L room_1.cells room_1.slots) := by
  refine MetFree.of_bodySF (plainFor_of_name pn_4) hisR ?_
  intro p e s m args below meth c s₁ Bd hml0 hP hK
  obtain ⟨rfl, hZ, hh⟩ := hP
  have hx := Bd.exec
  have hby := Bd.bytes
  have hml : c.maxLocals = 15 := hml0
  have hown : s.vm.findClass "com/example/loudline/loudline/packet/UdpFlowEqualsPinLaw" = some m.cls := findClass_of_methodNamed Bd.named
  have hnm := (name_of_methodNamed Bd.named Bd.method).1
  have X0 : Stand p l e room_1 s m #[(.long q1), (.int p2), (.long q3), (.int p4), (.int p5)] below meth c s₁ [] 0 0 := Stand.of_body Bd
  have e0 : s₁.heap = h0 := by rw [← hh, Bd.state]; rfl
  have N0 := Fr.nil n0
  show oG p e below s (Q_law Z q1 p2 q3 p4 p5 w h0 n0) room_1.cells room_1.slots _
  refine oS (fun t k => castTop (ef_0_jijii m q1 p2 q3 p4 p5) k) ?_
  show oG _ _ _ _ _ _ _ (s₁.setTop (mkF m 0 #[.val (.long q1), .second, .val (.int p2), .val (.long q3), .second, .val (.int p4), .val (.int p5), .unset, .unset, .unset, .unset, .unset, .unset, .unset, .unset] []))
  suffices cut : ∀ (q7 : Int64) (p9 : Int32), oG p e below s (Q_law Z q1 p2 q3 p4 p5 w h0 n0) room_1.cells room_1.slots (s₁.setTop (mkF m 33 #[.val (.long q1), .second, .val (.int p2), .val (.long q3), .second, .val (.int p4), .val (.int p5), .val (.long q7), .second, .val (.int p9), .unset, .unset, .unset, .unset, .unset] [])) by
    refine oS (fun t k => XS.iload X0.here hx rfl (hb hby at_0) rfl k) ?_
    refine oS (fun t k => oIc li_1 X0.here hx rfl (hb hby at_2) k) ?_
    refine oS (fun t k => XS.iand X0.here hx rfl (hb hby at_3) rfl k) ?_
    show oG _ _ _ _ _ _ _ (s₁.setTop (mkF m 4 #[.val (.long q1), .second, .val (.int p2), .val (.long q3), .second, .val (.int p4), .val (.int p5), .unset, .unset, .unset, .unset, .unset, .unset, .unset, .unset] [(.int (p5 &&& (1 : Int32)))]))
    by_cases hc4 : (p5 &&& (1 : Int32)) = (0 : Int32)
    · refine oS (fun t k => XS.ifYes X0.here hx rfl (pc0 := 4) (pc' := 11) rfl (hb hby at_4) rfl ((if0 _ _).trans (teq hc4).1) (by decide) (by decide) k) ?_
      refine oS (fun t k => XS.lloadN X0.here hx rfl (hb hby at_11) rfl k) ?_
      refine oS (fun t k => XS.lloadN X0.here hx rfl (hb hby at_12) rfl k) ?_
      show oG _ _ _ _ _ _ _ (s₁.setTop (mkF m 13 #[.val (.long q1), .second, .val (.int p2), .val (.long q3), .second, .val (.int p4), .val (.int p5), .unset, .unset, .unset, .unset, .unset, .unset, .unset, .unset] [(.long q3), (.long q1)]))
      refine oS (fun t k => XS.lxor X0.here hx rfl (hb hby at_13) rfl k) ?_
      refine oS (fun t k => XS.lstore X0.here hx rfl (hb hby at_14) rfl (l' := #[.val (.long q1), .second, .val (.int p2), .val (.long q3), .second, .val (.int p4), .val (.int p5), .val (.long (q1 ^^^ q3)), .second, .unset, .unset, .unset, .unset, .unset, .unset]) rfl k) ?_
      refine oS (fun t k => XS.iload X0.here hx rfl (hb hby at_16) rfl k) ?_
      show oG _ _ _ _ _ _ _ (s₁.setTop (mkF m 18 #[.val (.long q1), .second, .val (.int p2), .val (.long q3), .second, .val (.int p4), .val (.int p5), .val (.long (q1 ^^^ q3)), .second, .unset, .unset, .unset, .unset, .unset, .unset] [(.int p5)]))
      refine oS (fun t k => oIc li_2 X0.here hx rfl (hb hby at_18) k) ?_
      refine oS (fun t k => XS.iand X0.here hx rfl (hb hby at_19) rfl k) ?_
      by_cases hc20 : (p5 &&& (2 : Int32)) = (0 : Int32)
      · refine oS (fun t k => XS.ifYes X0.here hx rfl (pc0 := 20) (pc' := 27) rfl (hb hby at_20) rfl ((if0 _ _).trans (teq hc20).1) (by decide) (by decide) k) ?_
        show oG _ _ _ _ _ _ _ (s₁.setTop (mkF m 27 #[.val (.long q1), .second, .val (.int p2), .val (.long q3), .second, .val (.int p4), .val (.int p5), .val (.long (q1 ^^^ q3)), .second, .unset, .unset, .unset, .unset, .unset, .unset] []))
        refine oS (fun t k => XS.iloadN X0.here hx rfl (hb hby at_27) rfl k) ?_
        refine oS (fun t k => XS.iload X0.here hx rfl (hb hby at_28) rfl k) ?_
        refine oS (fun t k => XS.ixor X0.here hx rfl (hb hby at_30) rfl k) ?_
        show oG _ _ _ _ _ _ _ (s₁.setTop (mkF m 31 #[.val (.long q1), .second, .val (.int p2), .val (.long q3), .second, .val (.int p4), .val (.int p5), .val (.long (q1 ^^^ q3)), .second, .unset, .unset, .unset, .unset, .unset, .unset] [(.int (p2 ^^^ p4))]))
        refine oS (fun t k => XS.istore X0.here hx rfl (hb hby at_31) rfl (l' := #[.val (.long q1), .second, .val (.int p2), .val (.long q3), .second, .val (.int p4), .val (.int p5), .val (.long (q1 ^^^ q3)), .second, .val (.int (p2 ^^^ p4)), .unset, .unset, .unset, .unset, .unset]) rfl k) ?_
        exact cut _ _
      · refine oS (fun t k => XS.ifNo X0.here hx rfl (hb hby at_20) rfl ((if0 _ _).trans (feq hc20).1) k) ?_
        show oG _ _ _ _ _ _ _ (s₁.setTop (mkF m 23 #[.val (.long q1), .second, .val (.int p2), .val (.long q3), .second, .val (.int p4), .val (.int p5), .val (.long (q1 ^^^ q3)), .second, .unset, .unset, .unset, .unset, .unset, .unset] []))
        refine oS (fun t k => XS.iloadN X0.here hx rfl (hb hby at_23) rfl k) ?_
        refine oS (fun t k => XS.goto X0.here hx rfl (pc0 := 24) (pc' := 31) rfl (hb hby at_24) (by decide) (by decide) k) ?_
        refine oS (fun t k => XS.istore X0.here hx rfl (hb hby at_31) rfl (l' := #[.val (.long q1), .second, .val (.int p2), .val (.long q3), .second, .val (.int p4), .val (.int p5), .val (.long (q1 ^^^ q3)), .second, .val (.int p2), .unset, .unset, .unset, .unset, .unset]) rfl k) ?_
        show oG _ _ _ _ _ _ _ (s₁.setTop (mkF m 33 #[.val (.long q1), .second, .val (.int p2), .val (.long q3), .second, .val (.int p4), .val (.int p5), .val (.long (q1 ^^^ q3)), .second, .val (.int p2), .unset, .unset, .unset, .unset, .unset] []))
        exact cut _ _
    · refine oS (fun t k => XS.ifNo X0.here hx rfl (hb hby at_4) rfl ((if0 _ _).trans (feq hc4).1) k) ?_
      refine oS (fun t k => XS.lloadN X0.here hx rfl (hb hby at_7) rfl k) ?_
      refine oS (fun t k => XS.goto X0.here hx rfl (pc0 := 8) (pc' := 14) rfl (hb hby at_8) (by decide) (by decide) k) ?_
      show oG _ _ _ _ _ _ _ (s₁.setTop (mkF m 14 #[.val (.long q1), .second, .val (.int p2), .val (.long q3), .second, .val (.int p4), .val (.int p5), .unset, .unset, .unset, .unset, .unset, .unset, .unset, .unset] [(.long q1)]))
      refine oS (fun t k => XS.lstore X0.here hx rfl (hb hby at_14) rfl (l' := #[.val (.long q1), .second, .val (.int p2), .val (.long q3), .second, .val (.int p4), .val (.int p5), .val (.long q1), .second, .unset, .unset, .unset, .unset, .unset, .unset]) rfl k) ?_
      refine oS (fun t k => XS.iload X0.here hx rfl (hb hby at_16) rfl k) ?_
      refine oS (fun t k => oIc li_2 X0.here hx rfl (hb hby at_18) k) ?_
      show oG _ _ _ _ _ _ _ (s₁.setTop (mkF m 19 #[.val (.long q1), .second, .val (.int p2), .val (.long q3), .second, .val (.int p4), .val (.int p5), .val (.long q1), .second, .unset, .unset, .unset, .unset, .unset, .unset] [(.int 2), (.int p5)]))
      refine oS (fun t k => XS.iand X0.here hx rfl (hb hby at_19) rfl k) ?_
      by_cases hc20 : (p5 &&& (2 : Int32)) = (0 : Int32)
      · refine oS (fun t k => XS.ifYes X0.here hx rfl (pc0 := 20) (pc' := 27) rfl (hb hby at_20) rfl ((if0 _ _).trans (teq hc20).1) (by decide) (by decide) k) ?_
        refine oS (fun t k => XS.iloadN X0.here hx rfl (hb hby at_27) rfl k) ?_
        show oG _ _ _ _ _ _ _ (s₁.setTop (mkF m 28 #[.val (.long q1), .second, .val (.int p2), .val (.long q3), .second, .val (.int p4), .val (.int p5), .val (.long q1), .second, .unset, .unset, .unset, .unset, .unset, .unset] [(.int p2)]))
        refine oS (fun t k => XS.iload X0.here hx rfl (hb hby at_28) rfl k) ?_
        refine oS (fun t k => XS.ixor X0.here hx rfl (hb hby at_30) rfl k) ?_
        refine oS (fun t k => XS.istore X0.here hx rfl (hb hby at_31) rfl (l' := #[.val (.long q1), .second, .val (.int p2), .val (.long q3), .second, .val (.int p4), .val (.int p5), .val (.long q1), .second, .val (.int (p2 ^^^ p4)), .unset, .unset, .unset, .unset, .unset]) rfl k) ?_
        show oG _ _ _ _ _ _ _ (s₁.setTop (mkF m 33 #[.val (.long q1), .second, .val (.int p2), .val (.long q3), .second, .val (.int p4), .val (.int p5), .val (.long q1), .second, .val (.int (p2 ^^^ p4)), .unset, .unset, .unset, .unset, .unset] []))
        exact cut _ _
      · refine oS (fun t k => XS.ifNo X0.here hx rfl (hb hby at_20) rfl ((if0 _ _).trans (feq hc20).1) k) ?_
        refine oS (fun t k => XS.iloadN X0.here hx rfl (hb hby at_23) rfl k) ?_
        show oG _ _ _ _ _ _ _ (s₁.setTop (mkF m 24 #[.val (.long q1), .second, .val (.int p2), .val (.long q3), .second, .val (.int p4), .val (.int p5), .val (.long q1), .second, .unset, .unset, .unset, .unset, .unset, .unset] [(.int p2)]))
        refine oS (fun t k => XS.goto X0.here hx rfl (pc0 := 24) (pc' := 31) rfl (hb hby at_24) (by decide) (by decide) k) ?_
        refine oS (fun t k => XS.istore X0.here hx rfl (hb hby at_31) rfl (l' := #[.val (.long q1), .second, .val (.int p2), .val (.long q3), .second, .val (.int p4), .val (.int p5), .val (.long q1), .second, .val (.int p2), .unset, .unset, .unset, .unset, .unset]) rfl k) ?_
        exact cut _ _
  intro q7 p9
  refine oS (fun t k => XS.iload X0.here hx rfl (hb hby at_33) rfl k) ?_
  refine oS (fun t k => oIc li_2 X0.here hx rfl (hb hby at_35) k) ?_
  refine oS (fun t k => XS.iushr X0.here hx rfl (hb hby at_36) rfl k) ?_
  show oG _ _ _ _ _ _ _ (s₁.setTop (mkF m 37 #[.val (.long q1), .second, .val (.int p2), .val (.long q3), .second, .val (.int p4), .val (.int p5), .val (.long q7), .second, .val (.int p9), .unset, .unset, .unset, .unset, .unset] [(.int ((p5.toUInt32 >>> ((2 : Int32) &&& 31).toUInt32).toInt32))]))
  refine oS (fun t k => oIc li_3 X0.here hx rfl (hb hby at_37) k) ?_
  refine oS (fun t k => XS.iand X0.here hx rfl (hb hby at_38) rfl k) ?_
  refine oS (fun t k => XS.istore X0.here hx rfl (hb hby at_39) rfl (l' := #[.val (.long q1), .second, .val (.int p2), .val (.long q3), .second, .val (.int p4), .val (.int p5), .val (.long q7), .second, .val (.int p9), .unset, .val (.int (((p5.toUInt32 >>> ((2 : Int32) &&& 31).toUInt32).toInt32) &&& (3 : Int32))), .unset, .unset, .unset]) rfl k) ?_
  show oG _ _ _ _ _ _ _ (s₁.setTop (mkF m 41 #[.val (.long q1), .second, .val (.int p2), .val (.long q3), .second, .val (.int p4), .val (.int p5), .val (.long q7), .second, .val (.int p9), .unset, .val (.int (((p5.toUInt32 >>> ((2 : Int32) &&& 31).toUInt32).toInt32) &&& (3 : Int32))), .unset, .unset, .unset] []))
  refine oS (fun t k => XS.iload X0.here hx rfl (hb hby at_41) rfl k) ?_
  by_cases hc43 : (((p5.toUInt32 >>> ((2 : Int32) &&& 31).toUInt32).toInt32) &&& (3 : Int32)) = (0 : Int32)
  · refine oS (fun t k => XS.ifNo X0.here hx rfl (hb hby at_43) rfl ((if0 _ _).trans (teq hc43).2) k) ?_
    refine oS (fun t k => XS.aconstNull X0.here hx rfl (hb hby at_46) k) ?_
    show oG _ _ _ _ _ _ _ (s₁.setTop (mkF m 47 #[.val (.long q1), .second, .val (.int p2), .val (.long q3), .second, .val (.int p4), .val (.int p5), .val (.long q7), .second, .val (.int p9), .unset, .val (.int (((p5.toUInt32 >>> ((2 : Int32) &&& 31).toUInt32).toInt32) &&& (3 : Int32))), .unset, .unset, .unset] [.null]))
    refine oS (fun t k => XS.astore X0.here hx rfl (hb hby at_47) rfl rfl (l' := #[.val (.long q1), .second, .val (.int p2), .val (.long q3), .second, .val (.int p4), .val (.int p5), .val (.long q7), .second, .val (.int p9), .val .null, .val (.int (((p5.toUInt32 >>> ((2 : Int32) &&& 31).toUInt32).toInt32) &&& (3 : Int32))), .unset, .unset, .unset]) rfl k) ?_
    refine oS (fun t k => XS.goto X0.here hx rfl (pc0 := 49) (pc' := 73) rfl (hb hby at_49) (by decide) (by decide) k) ?_
    obtain ⟨T1, h1, X1, e1, E1, A1, D1, -, st1⟩ := newO X0 hx hZ hown (oW hw 0 rfl) (oW hw 1 rfl) (oW hw 2 rfl) e0 (g := (mkF m 73 #[.val (.long q1), .second, .val (.int p2), .val (.long q3), .second, .val (.int p4), .val (.int p5), .val (.long q7), .second, .val (.int p9), .val .null, .val (.int (((p5.toUInt32 >>> ((2 : Int32) &&& 31).toUInt32).toInt32) &&& (3 : Int32))), .unset, .unset, .unset] [])) rfl (hb hby at_73) (by decide) (by decide)
    obtain ⟨b1, g1⟩ : ∃ z, z = h0.size := ⟨_, rfl⟩
    rw [← g1] at A1 D1 st1
    have gx1 : n0 ≤ b1 := Nat.le_trans (O0.1 ▸ O0.2.1) (Nat.le_of_eq g1.symm)
    have O1 := O0.ext E1
    have F_addresses_b1 : Fld Z h1 b1 "com/example/loudline/loudline/packet/UdpFlow" "addresses" "J" (.long 0) := D1 (Or.inr (oW hw 10 rfl)) (ty := .long) (by decide)
    have F_ports_b1 : Fld Z h1 b1 "com/example/loudline/loudline/packet/UdpFlow" "ports" "I" (.int 0) := D1 (Or.inr (oW hw 12 rfl)) (ty := .int) (by decide)
    refine oS (fun t k => st1 t k) ?_
    show oG _ _ _ _ _ _ _ (T1.setTop (mkF m 76 #[.val (.long q1), .second, .val (.int p2), .val (.long q3), .second, .val (.int p4), .val (.int p5), .val (.long q7), .second, .val (.int p9), .val .null, .val (.int (((p5.toUInt32 >>> ((2 : Int32) &&& 31).toUInt32).toInt32) &&& (3 : Int32))), .unset, .unset, .unset] [(.ref b1)]))
    try clear st1
    refine oS (fun t k => XS.dup X1.here hx rfl (hb hby at_76) rfl rfl k) ?_
    refine oS (fun t k => XS.lloadN X1.here hx rfl (hb hby at_77) rfl k) ?_
    refine oS (fun t k => XS.iloadN X1.here hx rfl (hb hby at_78) rfl k) ?_
    show oG _ _ _ _ _ _ _ (T1.setTop (mkF m 79 #[.val (.long q1), .second, .val (.int p2), .val (.long q3), .second, .val (.int p4), .val (.int p5), .val (.long q7), .second, .val (.int p9), .val .null, .val (.int (((p5.toUInt32 >>> ((2 : Int32) &&& 31).toUInt32).toInt32) &&& (3 : Int32))), .unset, .unset, .unset] [(.int p2), (.long q1), (.ref b1), (.ref b1)]))
    obtain ⟨_, _, ⟨T2, L2, k2, n2⟩, -, X2, ⟨Lc2, hQ2, l2, y2, z2⟩, st2⟩ := X1.specialBack hx (y := mY0) rfl hown (mvT hZ (oW hw 3 rfl)) (mvT hZ (oW hw 4 rfl)) (mvT hZ (oW hw 5 rfl)) (by decide) (backOf (W := 1) (rm_init l Z a0 hw [] b1 q1 p2 (.long 0) (.int 0) w h1 n0 O1 W A1 gx1 F_addresses_b1 F_ports_b1) hZ (oW hw 5 rfl) (oW hw 2 rfl) (by decide) (by decide)) (g := (mkF m 79 #[.val (.long q1), .second, .val (.int p2), .val (.long q3), .second, .val (.int p4), .val (.int p5), .val (.long q7), .second, .val (.int p9), .val .null, .val (.int (((p5.toUInt32 >>> ((2 : Int32) &&& 31).toUInt32).toInt32) &&& (3 : Int32))), .unset, .unset, .unset] [(.int p2), (.long q1), (.ref b1), (.ref b1)])) rfl (by rw [hml]; rfl) (Steps.refl _) (a := b1) (argsL := [(.long q1), (.int p2)]) (rest := [(.ref b1)]) (lenOf pd_3 rfl) rfl (by show 2 * 0 + _ ≤ _; exact Nat.le_of_eq rfl) (hb hby at_79) (fun _ _ => ⟨rfl, e1, (by decide : 1 + 0 ≤ _), (by decide : 2 + 0 ≤ _)⟩)
    dsimp only [Pt.U, Pt.locs, Pt.cells, Pt.slots] at X2 l2 y2 z2 st2 hQ2
    subst l2 y2 z2
    obtain ⟨rfl, Nq2, K2, P2_0, P2_1, P2_2⟩ := hQ2
    have N2 := Fr.app N0 Nq2
    have O2 := O1.keep K2 (allS gx1 all0)
    refine oS (fun t k => st2.trans k) ?_
    show oG _ _ _ _ _ _ _ (T2.setTop (mkF m 82 #[.val (.long q1), .second, .val (.int p2), .val (.long q3), .second, .val (.int p4), .val (.int p5), .val (.long q7), .second, .val (.int p9), .val .null, .val (.int (((p5.toUInt32 >>> ((2 : Int32) &&& 31).toUInt32).toInt32) &&& (3 : Int32))), .unset, .unset, .unset] [(.ref b1)]))
    try clear st2 X1 e1
    try clear T1
    refine oS (fun t k => XS.astore X2.here hx rfl (hb hby at_82) rfl rfl (l' := #[.val (.long q1), .second, .val (.int p2), .val (.long q3), .second, .val (.int p4), .val (.int p5), .val (.long q7), .second, .val (.int p9), .val .null, .val (.int (((p5.toUInt32 >>> ((2 : Int32) &&& 31).toUInt32).toInt32) &&& (3 : Int32))), .val (.ref b1), .unset, .unset]) rfl k) ?_
    obtain ⟨T3, h3, X3, e3, E3, A3, D3, -, st3⟩ := newO X2 hx hZ hown (oW hw 0 rfl) (oW hw 1 rfl) (oW hw 2 rfl) rfl (g := (mkF m 84 #[.val (.long q1), .second, .val (.int p2), .val (.long q3), .second, .val (.int p4), .val (.int p5), .val (.long q7), .second, .val (.int p9), .val .null, .val (.int (((p5.toUInt32 >>> ((2 : Int32) &&& 31).toUInt32).toInt32) &&& (3 : Int32))), .val (.ref b1), .unset, .unset] [])) rfl (hb hby at_84) (by decide) (by decide)
    obtain ⟨b3, g3⟩ : ∃ z, z = T2.heap.size := ⟨_, rfl⟩
    rw [← g3] at A3 D3 st3
    have gx3 : n0 ≤ b3 := Nat.le_trans (O2.1 ▸ O2.2.1) (Nat.le_of_eq g3.symm)
    have ne_b1_b3 : b1 ≠ b3 := Nat.ne_of_lt (Nat.lt_of_lt_of_le P2_0.lt (Nat.le_of_eq g3.symm))
    have O3 := O2.ext E3
    have F_addresses_b3 : Fld Z h3 b3 "com/example/loudline/loudline/packet/UdpFlow" "addresses" "J" (.long 0) := D3 (Or.inr (oW hw 10 rfl)) (ty := .long) (by decide)
    have F_ports_b3 : Fld Z h3 b3 "com/example/loudline/loudline/packet/UdpFlow" "ports" "I" (.int 0) := D3 (Or.inr (oW hw 12 rfl)) (ty := .int) (by decide)
    refine oS (fun t k => st3 t k) ?_
    try clear st3 X2 e2
    refine oS (fun t k => XS.dup X3.here hx rfl (hb hby at_87) rfl rfl k) ?_
    show oG _ _ _ _ _ _ _ (T3.setTop (mkF m 88 #[.val (.long q1), .second, .val (.int p2), .val (.long q3), .second, .val (.int p4), .val (.int p5), .val (.long q7), .second, .val (.int p9), .val .null, .val (.int (((p5.toUInt32 >>> ((2 : Int32) &&& 31).toUInt32).toInt32) &&& (3 : Int32))), .val (.ref b1), .unset, .unset] [(.ref b3), (.ref b3)]))
    refine oS (fun t k => XS.lload X3.here hx rfl (hb hby at_88) rfl k) ?_
    refine oS (fun t k => XS.iload X3.here hx rfl (hb hby at_90) rfl k) ?_
    obtain ⟨_, _, ⟨T4, L4, k4, n4⟩, -, X4, ⟨Lc4, hQ4, l4, y4, z4⟩, st4⟩ := X3.specialBack hx (y := mY0) rfl hown (mvT hZ (oW hw 3 rfl)) (mvT hZ (oW hw 4 rfl)) (mvT hZ (oW hw 5 rfl)) (by decide) (backOf (W := 1) (rm_init l Z a0 hw [] b3 q7 p9 (.long 0) (.int 0) w h3 n0 O3 W A3 gx3 F_addresses_b3 F_ports_b3) hZ (oW hw 5 rfl) (oW hw 2 rfl) (by decide) (by decide)) (g := (mkF m 92 #[.val (.long q1), .second, .val (.int p2), .val (.long q3), .second, .val (.int p4), .val (.int p5), .val (.long q7), .second, .val (.int p9), .val .null, .val (.int (((p5.toUInt32 >>> ((2 : Int32) &&& 31).toUInt32).toInt32) &&& (3 : Int32))), .val (.ref b1), .unset, .unset] [(.int p9), (.long q7), (.ref b3), (.ref b3)])) rfl (by rw [hml]; rfl) (Steps.refl _) (a := b3) (argsL := [(.long q7), (.int p9)]) (rest := [(.ref b3)]) (lenOf pd_3 rfl) rfl (by show 2 * 0 + _ ≤ _; exact Nat.le_of_eq rfl) (hb hby at_92) (fun _ _ => ⟨rfl, e3, (by decide : 2 + 0 ≤ _), (by decide : 4 + 0 ≤ _)⟩)
    dsimp only [Pt.U, Pt.locs, Pt.cells, Pt.slots] at X4 l4 y4 z4 st4 hQ4
    subst l4 y4 z4
    obtain ⟨rfl, Nq4, K4, P4_0, P4_1, P4_2⟩ := hQ4
    have N4 := Fr.app N2 Nq4
    have O4 := O3.keep K4 (allS gx3 all0)
    refine oS (fun t k => st4.trans k) ?_
    show oG _ _ _ _ _ _ _ (T4.setTop (mkF m 95 #[.val (.long q1), .second, .val (.int p2), .val (.long q3), .second, .val (.int p4), .val (.int p5), .val (.long q7), .second, .val (.int p9), .val .null, .val (.int (((p5.toUInt32 >>> ((2 : Int32) &&& 31).toUInt32).toInt32) &&& (3 : Int32))), .val (.ref b1), .unset, .unset] [(.ref b3)]))
    try clear st4 X3 e3
    try clear T3
    refine oS (fun t k => XS.astore X4.here hx rfl (hb hby at_95) rfl rfl (l' := #[.val (.long q1), .second, .val (.int p2), .val (.long q3), .second, .val (.int p4), .val (.int p5), .val (.long q7), .second, .val (.int p9), .val .null, .val (.int (((p5.toUInt32 >>> ((2 : Int32) &&& 31).toUInt32).toInt32) &&& (3 : Int32))), .val (.ref b1), .val (.ref b3), .unset]) rfl k) ?_
    refine oS (fun t k => XS.lloadN X4.here hx rfl (hb hby at_97) rfl k) ?_
    refine oS (fun t k => XS.lload X4.here hx rfl (hb hby at_98) rfl k) ?_
    show oG _ _ _ _ _ _ _ (T4.setTop (mkF m 100 #[.val (.long q1), .second, .val (.int p2), .val (.long q3), .second, .val (.int p4), .val (.int p5), .val (.long q7), .second, .val (.int p9), .val .null, .val (.int (((p5.toUInt32 >>> ((2 : Int32) &&& 31).toUInt32).toInt32) &&& (3 : Int32))), .val (.ref b1), .val (.ref b3), .unset] [(.long q7), (.long q1)]))
    refine oS (fun t k => XS.lcmp X4.here hx rfl (hb hby at_100) rfl k) ?_
    by_cases hc101 : q1 = q7
    · refine oS (fun t k => XS.ifNo X4.here hx rfl (hb hby at_101) rfl ((if0 _ _).trans (teq ((lw_eq q1 q7).mpr hc101)).2) k) ?_
      refine oS (fun t k => XS.iloadN X4.here hx rfl (hb hby at_104) rfl k) ?_
      show oG _ _ _ _ _ _ _ (T4.setTop (mkF m 105 #[.val (.long q1), .second, .val (.int p2), .val (.long q3), .second, .val (.int p4), .val (.int p5), .val (.long q7), .second, .val (.int p9), .val .null, .val (.int (((p5.toUInt32 >>> ((2 : Int32) &&& 31).toUInt32).toInt32) &&& (3 : Int32))), .val (.ref b1), .val (.ref b3), .unset] [(.int p2)]))
      refine oS (fun t k => XS.iload X4.here hx rfl (hb hby at_105) rfl k) ?_
      by_cases hc107 : p2 = p9
      · refine oS (fun t k => XS.icmpNo X4.here hx rfl (hb hby at_107) rfl (teq hc107).2 k) ?_
        refine oS (fun t k => oIc li_1 X4.here hx rfl (hb hby at_110) k) ?_
        show oG _ _ _ _ _ _ _ (T4.setTop (mkF m 111 #[.val (.long q1), .second, .val (.int p2), .val (.long q3), .second, .val (.int p4), .val (.int p5), .val (.long q7), .second, .val (.int p9), .val .null, .val (.int (((p5.toUInt32 >>> ((2 : Int32) &&& 31).toUInt32).toInt32) &&& (3 : Int32))), .val (.ref b1), .val (.ref b3), .unset] [(.int 1)]))
        refine oS (fun t k => XS.goto X4.here hx rfl (pc0 := 111) (pc' := 115) rfl (hb hby at_111) (by decide) (by decide) k) ?_
        refine oS (fun t k => XS.istore X4.here hx rfl (hb hby at_115) rfl (l' := #[.val (.long q1), .second, .val (.int p2), .val (.long q3), .second, .val (.int p4), .val (.int p5), .val (.long q7), .second, .val (.int p9), .val .null, .val (.int (((p5.toUInt32 >>> ((2 : Int32) &&& 31).toUInt32).toInt32) &&& (3 : Int32))), .val (.ref b1), .val (.ref b3), .val (.int 1)]) rfl k) ?_
        refine oS (fun t k => XS.aload X4.here hx rfl (hb hby at_117) rfl rfl k) ?_
        show oG _ _ _ _ _ _ _ (T4.setTop (mkF m 119 #[.val (.long q1), .second, .val (.int p2), .val (.long q3), .second, .val (.int p4), .val (.int p5), .val (.long q7), .second, .val (.int p9), .val .null, .val (.int (((p5.toUInt32 >>> ((2 : Int32) &&& 31).toUInt32).toInt32) &&& (3 : Int32))), .val (.ref b1), .val (.ref b3), .val (.int 1)] [(.ref b1)]))
        refine oS (fun t k => XS.aload X4.here hx rfl (hb hby at_119) rfl rfl k) ?_
        obtain ⟨cq5, kq5, q5a, q5b, q5c⟩ := isOf hZ rfl ((P2_0.ext E3).keep K4)
        obtain ⟨_, _, ⟨T5, L5, k5, n5⟩, -, X5, ⟨Lc5, hQ5, l5, y5, z5⟩, st5⟩ := X4.virtualBack hx (y := mY6) (z := mY6) hown (mvT hZ (oW hw 13 rfl)) (mvT hZ (oW hw 14 rfl)) (notFace_of_selects (args := #[]) (mvT hZ (oW hw 16 rfl))) (mvT hZ (oW hw 16 rfl)) (mvT hZ (oW hw 15 rfl)) (by decide) (backOf (W := 0) (rm_eq_11 l Z a0 hw [] b1 b3 q1 p2 q7 p9  T4.heap n0 O4  P4_0 ((P2_1.ext E3).keep K4 (fun q => ne_b1_b3 (List.mem_singleton.mp q))) ((P2_2.ext E3).keep K4 (fun q => ne_b1_b3 (List.mem_singleton.mp q))) P4_1 P4_2 (Eq.symm hc101) (Eq.symm hc107)) hZ (oW hw 17 rfl) (oW hw 2 rfl) (by decide) (by decide)) q5a q5c (g := (mkF m 121 #[.val (.long q1), .second, .val (.int p2), .val (.long q3), .second, .val (.int p4), .val (.int p5), .val (.long q7), .second, .val (.int p9), .val .null, .val (.int (((p5.toUInt32 >>> ((2 : Int32) &&& 31).toUInt32).toInt32) &&& (3 : Int32))), .val (.ref b1), .val (.ref b3), .val (.int 1)] [(.ref b3), (.ref b1)])) rfl (by rw [hml]; rfl) (Steps.refl _) (argsL := [(.ref b3)]) (rest := []) (lenOf pd_4 rfl) rfl (by show 2 * 0 + _ ≤ _; exact Nat.le_of_eq rfl) (hb hby at_121) (fun _ _ => ⟨rfl, rfl, (by decide : 2 + 0 ≤ _), (by decide : 4 + 0 ≤ _)⟩)
        dsimp only [Pt.U, Pt.locs, Pt.cells, Pt.slots] at X5 l5 y5 z5 st5 hQ5
        subst l5 y5 z5
        obtain ⟨rfl, Nq5, e5⟩ := hQ5
        have N5 := Fr.app N4 Nq5
        refine oS (fun t k => st5.trans k) ?_
        show oG _ _ _ _ _ _ _ (T5.setTop (mkF m 124 #[.val (.long q1), .second, .val (.int p2), .val (.long q3), .second, .val (.int p4), .val (.int p5), .val (.long q7), .second, .val (.int p9), .val .null, .val (.int (((p5.toUInt32 >>> ((2 : Int32) &&& 31).toUInt32).toInt32) &&& (3 : Int32))), .val (.ref b1), .val (.ref b3), .val (.int 1)] [(.int 1)]))
        try clear st5 X4 e4
        refine oS (fun t k => XS.iload X5.here hx rfl (hb hby at_124) rfl k) ?_
        refine oS (fun t k => XS.icmpNo X5.here hx rfl (hb hby at_126) rfl (teq (by decide)).2 k) ?_
        refine oS (fun t k => XS.aload X5.here hx rfl (hb hby at_129) rfl rfl k) ?_
        show oG _ _ _ _ _ _ _ (T5.setTop (mkF m 131 #[.val (.long q1), .second, .val (.int p2), .val (.long q3), .second, .val (.int p4), .val (.int p5), .val (.long q7), .second, .val (.int p9), .val .null, .val (.int (((p5.toUInt32 >>> ((2 : Int32) &&& 31).toUInt32).toInt32) &&& (3 : Int32))), .val (.ref b1), .val (.ref b3), .val (.int 1)] [(.ref b3)]))
        refine oS (fun t k => XS.aload X5.here hx rfl (hb hby at_131) rfl rfl k) ?_
        obtain ⟨cq6, kq6, q6a, q6b, q6c⟩ := isOf hZ e5 P4_0
        obtain ⟨_, _, ⟨T6, L6, k6, n6⟩, -, X6, ⟨Lc6, hQ6, l6, y6, z6⟩, st6⟩ := X5.virtualBack hx (y := mY6) (z := mY6) hown (mvT hZ (oW hw 13 rfl)) (mvT hZ (oW hw 14 rfl)) (notFace_of_selects (args := #[]) (mvT hZ (oW hw 16 rfl))) (mvT hZ (oW hw 16 rfl)) (mvT hZ (oW hw 15 rfl)) (by decide) (backOf (W := 0) (rm_eq_11 l Z a0 hw [] b3 b1 q7 p9 q1 p2  T4.heap n0 O4  ((P2_0.ext E3).keep K4) P4_1 P4_2 ((P2_1.ext E3).keep K4 (fun q => ne_b1_b3 (List.mem_singleton.mp q))) ((P2_2.ext E3).keep K4 (fun q => ne_b1_b3 (List.mem_singleton.mp q))) hc101 hc107) hZ (oW hw 17 rfl) (oW hw 2 rfl) (by decide) (by decide)) q6a q6c (g := (mkF m 133 #[.val (.long q1), .second, .val (.int p2), .val (.long q3), .second, .val (.int p4), .val (.int p5), .val (.long q7), .second, .val (.int p9), .val .null, .val (.int (((p5.toUInt32 >>> ((2 : Int32) &&& 31).toUInt32).toInt32) &&& (3 : Int32))), .val (.ref b1), .val (.ref b3), .val (.int 1)] [(.ref b1), (.ref b3)])) rfl (by rw [hml]; rfl) (Steps.refl _) (argsL := [(.ref b1)]) (rest := []) (lenOf pd_4 rfl) rfl (by show 2 * 0 + _ ≤ _; exact Nat.le_of_eq rfl) (hb hby at_133) (fun _ _ => ⟨rfl, e5, (by decide : 2 + 0 ≤ _), (by decide : 4 + 0 ≤ _)⟩)
        dsimp only [Pt.U, Pt.locs, Pt.cells, Pt.slots] at X6 l6 y6 z6 st6 hQ6
        subst l6 y6 z6
        obtain ⟨rfl, Nq6, e6⟩ := hQ6
        have N6 := Fr.app N5 Nq6
        refine oS (fun t k => st6.trans k) ?_
        show oG _ _ _ _ _ _ _ (T6.setTop (mkF m 136 #[.val (.long q1), .second, .val (.int p2), .val (.long q3), .second, .val (.int p4), .val (.int p5), .val (.long q7), .second, .val (.int p9), .val .null, .val (.int (((p5.toUInt32 >>> ((2 : Int32) &&& 31).toUInt32).toInt32) &&& (3 : Int32))), .val (.ref b1), .val (.ref b3), .val (.int 1)] [(.int 1)]))
        try clear st6 X5 e5
        refine oS (fun t k => XS.iload X6.here hx rfl (hb hby at_136) rfl k) ?_
        refine oS (fun t k => XS.icmpNo X6.here hx rfl (hb hby at_138) rfl (teq (by decide)).2 k) ?_
        refine oS (fun t k => XS.aload X6.here hx rfl (hb hby at_141) rfl rfl k) ?_
        show oG _ _ _ _ _ _ _ (T6.setTop (mkF m 143 #[.val (.long q1), .second, .val (.int p2), .val (.long q3), .second, .val (.int p4), .val (.int p5), .val (.long q7), .second, .val (.int p9), .val .null, .val (.int (((p5.toUInt32 >>> ((2 : Int32) &&& 31).toUInt32).toInt32) &&& (3 : Int32))), .val (.ref b1), .val (.ref b3), .val (.int 1)] [(.ref b1)]))
        refine oS (fun t k => XS.aload X6.here hx rfl (hb hby at_143) rfl rfl k) ?_
        obtain ⟨cq7, kq7, q7a, q7b, q7c⟩ := isOf hZ e6 ((P2_0.ext E3).keep K4)
        obtain ⟨_, _, ⟨T7, L7, k7, n7⟩, -, X7, ⟨Lc7, hQ7, l7, y7, z7⟩, st7⟩ := X6.virtualBack hx (y := mY6) (z := mY6) hown (mvT hZ (oW hw 13 rfl)) (mvT hZ (oW hw 14 rfl)) (notFace_of_selects (args := #[]) (mvT hZ (oW hw 16 rfl))) (mvT hZ (oW hw 16 rfl)) (mvT hZ (oW hw 15 rfl)) (by decide) (backOf (W := 0) (rm_eq_s l Z a0 hw [] b1 q1 p2  T4.heap n0 O4  ((P2_0.ext E3).keep K4) ((P2_1.ext E3).keep K4 (fun q => ne_b1_b3 (List.mem_singleton.mp q))) ((P2_2.ext E3).keep K4 (fun q => ne_b1_b3 (List.mem_singleton.mp q)))) hZ (oW hw 17 rfl) (oW hw 2 rfl) (by decide) (by decide)) q7a q7c (g := (mkF m 145 #[.val (.long q1), .second, .val (.int p2), .val (.long q3), .second, .val (.int p4), .val (.int p5), .val (.long q7), .second, .val (.int p9), .val .null, .val (.int (((p5.toUInt32 >>> ((2 : Int32) &&& 31).toUInt32).toInt32) &&& (3 : Int32))), .val (.ref b1), .val (.ref b3), .val (.int 1)] [(.ref b1), (.ref b1)])) rfl (by rw [hml]; rfl) (Steps.refl _) (argsL := [(.ref b1)]) (rest := []) (lenOf pd_4 rfl) rfl (by show 2 * 0 + _ ≤ _; exact Nat.le_of_eq rfl) (hb hby at_145) (fun _ _ => ⟨rfl, e6, (by decide : 2 + 0 ≤ _), (by decide : 4 + 0 ≤ _)⟩)
        dsimp only [Pt.U, Pt.locs, Pt.cells, Pt.slots] at X7 l7 y7 z7 st7 hQ7
        subst l7 y7 z7
        obtain ⟨rfl, Nq7, e7⟩ := hQ7
        have N7 := Fr.app N6 Nq7
        refine oS (fun t k => st7.trans k) ?_
        show oG _ _ _ _ _ _ _ (T7.setTop (mkF m 148 #[.val (.long q1), .second, .val (.int p2), .val (.long q3), .second, .val (.int p4), .val (.int p5), .val (.long q7), .second, .val (.int p9), .val .null, .val (.int (((p5.toUInt32 >>> ((2 : Int32) &&& 31).toUInt32).toInt32) &&& (3 : Int32))), .val (.ref b1), .val (.ref b3), .val (.int 1)] [(.int 1)]))
        try clear st7 X6 e6
        refine oS (fun t k => XS.ifNo X7.here hx rfl (hb hby at_148) rfl ((if0 _ _).trans (feq (by decide)).1) k) ?_
        refine oS (fun t k => XS.aload X7.here hx rfl (hb hby at_151) rfl rfl k) ?_
        refine oS (fun t k => XS.aload X7.here hx rfl (hb hby at_153) rfl rfl k) ?_
        show oG _ _ _ _ _ _ _ (T7.setTop (mkF m 155 #[.val (.long q1), .second, .val (.int p2), .val (.long q3), .second, .val (.int p4), .val (.int p5), .val (.long q7), .second, .val (.int p9), .val .null, .val (.int (((p5.toUInt32 >>> ((2 : Int32) &&& 31).toUInt32).toInt32) &&& (3 : Int32))), .val (.ref b1), .val (.ref b3), .val (.int 1)] [.null, (.ref b1)]))
        obtain ⟨cq8, kq8, q8a, q8b, q8c⟩ := isOf hZ e7 ((P2_0.ext E3).keep K4)
        obtain ⟨_, _, ⟨T8, L8, k8, n8⟩, -, X8, ⟨Lc8, hQ8, l8, y8, z8⟩, st8⟩ := X7.virtualBack hx (y := mY6) (z := mY6) hown (mvT hZ (oW hw 13 rfl)) (mvT hZ (oW hw 14 rfl)) (notFace_of_selects (args := #[]) (mvT hZ (oW hw 16 rfl))) (mvT hZ (oW hw 16 rfl)) (mvT hZ (oW hw 15 rfl)) (by decide) (backOf (W := 0) (rm_eq_n l Z a0 hw [] b1  T4.heap n0 O4  ) hZ (oW hw 17 rfl) (oW hw 2 rfl) (by decide) (by decide)) q8a q8c (g := (mkF m 155 #[.val (.long q1), .second, .val (.int p2), .val (.long q3), .second, .val (.int p4), .val (.int p5), .val (.long q7), .second, .val (.int p9), .val .null, .val (.int (((p5.toUInt32 >>> ((2 : Int32) &&& 31).toUInt32).toInt32) &&& (3 : Int32))), .val (.ref b1), .val (.ref b3), .val (.int 1)] [.null, (.ref b1)])) rfl (by rw [hml]; rfl) (Steps.refl _) (argsL := [.null]) (rest := []) (lenOf pd_4 rfl) rfl (by show 2 * 0 + _ ≤ _; exact Nat.le_of_eq rfl) (hb hby at_155) (fun _ _ => ⟨rfl, e7, (by decide : 2 + 0 ≤ _), (by decide : 4 + 0 ≤ _)⟩)
        dsimp only [Pt.U, Pt.locs, Pt.cells, Pt.slots] at X8 l8 y8 z8 st8 hQ8
        subst l8 y8 z8
        obtain ⟨rfl, Nq8, e8⟩ := hQ8
        have N8 := Fr.app N7 Nq8
        refine oS (fun t k => st8.trans k) ?_
        show oG _ _ _ _ _ _ _ (T8.setTop (mkF m 158 #[.val (.long q1), .second, .val (.int p2), .val (.long q3), .second, .val (.int p4), .val (.int p5), .val (.long q7), .second, .val (.int p9), .val .null, .val (.int (((p5.toUInt32 >>> ((2 : Int32) &&& 31).toUInt32).toInt32) &&& (3 : Int32))), .val (.ref b1), .val (.ref b3), .val (.int 1)] [(.int 0)]))
        try clear st8 X7 e7
        refine oS (fun t k => XS.ifNo X8.here hx rfl (hb hby at_158) rfl ((if0 _ _).trans (teq (by decide)).2) k) ?_
        refine oS (fun t k => oIc li_1 X8.here hx rfl (hb hby at_161) k) ?_
        refine oS (fun t k => XS.goto X8.here hx rfl (pc0 := 162) (pc' := 166) rfl (hb hby at_162) (by decide) (by decide) k) ?_
        show oG _ _ _ _ _ _ _ (T8.setTop (mkF m 166 #[.val (.long q1), .second, .val (.int p2), .val (.long q3), .second, .val (.int p4), .val (.int p5), .val (.long q7), .second, .val (.int p9), .val .null, .val (.int (((p5.toUInt32 >>> ((2 : Int32) &&& 31).toUInt32).toInt32) &&& (3 : Int32))), .val (.ref b1), .val (.ref b3), .val (.int 1)] [(.int 1)]))
        exact own_ret (v := some (.int 1)) X8 (fun h => by rw [Bd.returns] at h; cases h) Bd.notSynchronized (fun fs hr => retN X8 hx (t := .boolean) Bd.returns (by simp) (hb hby at_166) hr) (by rw [e8]; exact ⟨rfl, N8⟩) (by decide) (by decide)
      · refine oS (fun t k => XS.icmpYes X4.here hx rfl (pc0 := 107) (pc' := 114) rfl (hb hby at_107) rfl (feq hc107).2 (by decide) (by decide) k) ?_
        refine oS (fun t k => oIc li_0 X4.here hx rfl (hb hby at_114) k) ?_
        show oG _ _ _ _ _ _ _ (T4.setTop (mkF m 115 #[.val (.long q1), .second, .val (.int p2), .val (.long q3), .second, .val (.int p4), .val (.int p5), .val (.long q7), .second, .val (.int p9), .val .null, .val (.int (((p5.toUInt32 >>> ((2 : Int32) &&& 31).toUInt32).toInt32) &&& (3 : Int32))), .val (.ref b1), .val (.ref b3), .unset] [(.int 0)]))
        refine oS (fun t k => XS.istore X4.here hx rfl (hb hby at_115) rfl (l' := #[.val (.long q1), .second, .val (.int p2), .val (.long q3), .second, .val (.int p4), .val (.int p5), .val (.long q7), .second, .val (.int p9), .val .null, .val (.int (((p5.toUInt32 >>> ((2 : Int32) &&& 31).toUInt32).toInt32) &&& (3 : Int32))), .val (.ref b1), .val (.ref b3), .val (.int 0)]) rfl k) ?_
        refine oS (fun t k => XS.aload X4.here hx rfl (hb hby at_117) rfl rfl k) ?_
        refine oS (fun t k => XS.aload X4.here hx rfl (hb hby at_119) rfl rfl k) ?_
        show oG _ _ _ _ _ _ _ (T4.setTop (mkF m 121 #[.val (.long q1), .second, .val (.int p2), .val (.long q3), .second, .val (.int p4), .val (.int p5), .val (.long q7), .second, .val (.int p9), .val .null, .val (.int (((p5.toUInt32 >>> ((2 : Int32) &&& 31).toUInt32).toInt32) &&& (3 : Int32))), .val (.ref b1), .val (.ref b3), .val (.int 0)] [(.ref b3), (.ref b1)]))
        obtain ⟨cq9, kq9, q9a, q9b, q9c⟩ := isOf hZ rfl ((P2_0.ext E3).keep K4)
        obtain ⟨_, _, ⟨T9, L9, k9, n9⟩, -, X9, ⟨Lc9, hQ9, l9, y9, z9⟩, st9⟩ := X4.virtualBack hx (y := mY6) (z := mY6) hown (mvT hZ (oW hw 13 rfl)) (mvT hZ (oW hw 14 rfl)) (notFace_of_selects (args := #[]) (mvT hZ (oW hw 16 rfl))) (mvT hZ (oW hw 16 rfl)) (mvT hZ (oW hw 15 rfl)) (by decide) (backOf (W := 0) (rm_eq_10 l Z a0 hw [] b1 b3 q1 p2 q7 p9  T4.heap n0 O4  P4_0 ((P2_1.ext E3).keep K4 (fun q => ne_b1_b3 (List.mem_singleton.mp q))) ((P2_2.ext E3).keep K4 (fun q => ne_b1_b3 (List.mem_singleton.mp q))) P4_1 P4_2 (Eq.symm hc101) (fun q => hc107 (Eq.symm q))) hZ (oW hw 17 rfl) (oW hw 2 rfl) (by decide) (by decide)) q9a q9c (g := (mkF m 121 #[.val (.long q1), .second, .val (.int p2), .val (.long q3), .second, .val (.int p4), .val (.int p5), .val (.long q7), .second, .val (.int p9), .val .null, .val (.int (((p5.toUInt32 >>> ((2 : Int32) &&& 31).toUInt32).toInt32) &&& (3 : Int32))), .val (.ref b1), .val (.ref b3), .val (.int 0)] [(.ref b3), (.ref b1)])) rfl (by rw [hml]; rfl) (Steps.refl _) (argsL := [(.ref b3)]) (rest := []) (lenOf pd_4 rfl) rfl (by show 2 * 0 + _ ≤ _; exact Nat.le_of_eq rfl) (hb hby at_121) (fun _ _ => ⟨rfl, rfl, (by decide : 2 + 0 ≤ _), (by decide : 4 + 0 ≤ _)⟩)
        dsimp only [Pt.U, Pt.locs, Pt.cells, Pt.slots] at X9 l9 y9 z9 st9 hQ9
        subst l9 y9 z9
        obtain ⟨rfl, Nq9, e9⟩ := hQ9
        have N9 := Fr.app N4 Nq9
        refine oS (fun t k => st9.trans k) ?_
        show oG _ _ _ _ _ _ _ (T9.setTop (mkF m 124 #[.val (.long q1), .second, .val (.int p2), .val (.long q3), .second, .val (.int p4), .val (.int p5), .val (.long q7), .second, .val (.int p9), .val .null, .val (.int (((p5.toUInt32 >>> ((2 : Int32) &&& 31).toUInt32).toInt32) &&& (3 : Int32))), .val (.ref b1), .val (.ref b3), .val (.int 0)] [(.int 0)]))
        try clear st9 X4 e4
        refine oS (fun t k => XS.iload X9.here hx rfl (hb hby at_124) rfl k) ?_
        refine oS (fun t k => XS.icmpNo X9.here hx rfl (hb hby at_126) rfl (teq (by decide)).2 k) ?_
        refine oS (fun t k => XS.aload X9.here hx rfl (hb hby at_129) rfl rfl k) ?_
        show oG _ _ _ _ _ _ _ (T9.setTop (mkF m 131 #[.val (.long q1), .second, .val (.int p2), .val (.long q3), .second, .val (.int p4), .val (.int p5), .val (.long q7), .second, .val (.int p9), .val .null, .val (.int (((p5.toUInt32 >>> ((2 : Int32) &&& 31).toUInt32).toInt32) &&& (3 : Int32))), .val (.ref b1), .val (.ref b3), .val (.int 0)] [(.ref b3)]))
        refine oS (fun t k => XS.aload X9.here hx rfl (hb hby at_131) rfl rfl k) ?_
        obtain ⟨cq10, kq10, q10a, q10b, q10c⟩ := isOf hZ e9 P4_0
        obtain ⟨_, _, ⟨T10, L10, k10, n10⟩, -, X10, ⟨Lc10, hQ10, l10, y10, z10⟩, st10⟩ := X9.virtualBack hx (y := mY6) (z := mY6) hown (mvT hZ (oW hw 13 rfl)) (mvT hZ (oW hw 14 rfl)) (notFace_of_selects (args := #[]) (mvT hZ (oW hw 16 rfl))) (mvT hZ (oW hw 16 rfl)) (mvT hZ (oW hw 15 rfl)) (by decide) (backOf (W := 0) (rm_eq_10 l Z a0 hw [] b3 b1 q7 p9 q1 p2  T4.heap n0 O4  ((P2_0.ext E3).keep K4) P4_1 P4_2 ((P2_1.ext E3).keep K4 (fun q => ne_b1_b3 (List.mem_singleton.mp q))) ((P2_2.ext E3).keep K4 (fun q => ne_b1_b3 (List.mem_singleton.mp q))) hc101 hc107) hZ (oW hw 17 rfl) (oW hw 2 rfl) (by decide) (by decide)) q10a q10c (g := (mkF m 133 #[.val (.long q1), .second, .val (.int p2), .val (.long q3), .second, .val (.int p4), .val (.int p5), .val (.long q7), .second, .val (.int p9), .val .null, .val (.int (((p5.toUInt32 >>> ((2 : Int32) &&& 31).toUInt32).toInt32) &&& (3 : Int32))), .val (.ref b1), .val (.ref b3), .val (.int 0)] [(.ref b1), (.ref b3)])) rfl (by rw [hml]; rfl) (Steps.refl _) (argsL := [(.ref b1)]) (rest := []) (lenOf pd_4 rfl) rfl (by show 2 * 0 + _ ≤ _; exact Nat.le_of_eq rfl) (hb hby at_133) (fun _ _ => ⟨rfl, e9, (by decide : 2 + 0 ≤ _), (by decide : 4 + 0 ≤ _)⟩)
        dsimp only [Pt.U, Pt.locs, Pt.cells, Pt.slots] at X10 l10 y10 z10 st10 hQ10
        subst l10 y10 z10
        obtain ⟨rfl, Nq10, e10⟩ := hQ10
        have N10 := Fr.app N9 Nq10
        refine oS (fun t k => st10.trans k) ?_
        show oG _ _ _ _ _ _ _ (T10.setTop (mkF m 136 #[.val (.long q1), .second, .val (.int p2), .val (.long q3), .second, .val (.int p4), .val (.int p5), .val (.long q7), .second, .val (.int p9), .val .null, .val (.int (((p5.toUInt32 >>> ((2 : Int32) &&& 31).toUInt32).toInt32) &&& (3 : Int32))), .val (.ref b1), .val (.ref b3), .val (.int 0)] [(.int 0)]))
        try clear st10 X9 e9
        refine oS (fun t k => XS.iload X10.here hx rfl (hb hby at_136) rfl k) ?_
        refine oS (fun t k => XS.icmpNo X10.here hx rfl (hb hby at_138) rfl (teq (by decide)).2 k) ?_
        refine oS (fun t k => XS.aload X10.here hx rfl (hb hby at_141) rfl rfl k) ?_
        show oG _ _ _ _ _ _ _ (T10.setTop (mkF m 143 #[.val (.long q1), .second, .val (.int p2), .val (.long q3), .second, .val (.int p4), .val (.int p5), .val (.long q7), .second, .val (.int p9), .val .null, .val (.int (((p5.toUInt32 >>> ((2 : Int32) &&& 31).toUInt32).toInt32) &&& (3 : Int32))), .val (.ref b1), .val (.ref b3), .val (.int 0)] [(.ref b1)]))
        refine oS (fun t k => XS.aload X10.here hx rfl (hb hby at_143) rfl rfl k) ?_
        obtain ⟨cq11, kq11, q11a, q11b, q11c⟩ := isOf hZ e10 ((P2_0.ext E3).keep K4)
        obtain ⟨_, _, ⟨T11, L11, k11, n11⟩, -, X11, ⟨Lc11, hQ11, l11, y11, z11⟩, st11⟩ := X10.virtualBack hx (y := mY6) (z := mY6) hown (mvT hZ (oW hw 13 rfl)) (mvT hZ (oW hw 14 rfl)) (notFace_of_selects (args := #[]) (mvT hZ (oW hw 16 rfl))) (mvT hZ (oW hw 16 rfl)) (mvT hZ (oW hw 15 rfl)) (by decide) (backOf (W := 0) (rm_eq_s l Z a0 hw [] b1 q1 p2  T4.heap n0 O4  ((P2_0.ext E3).keep K4) ((P2_1.ext E3).keep K4 (fun q => ne_b1_b3 (List.mem_singleton.mp q))) ((P2_2.ext E3).keep K4 (fun q => ne_b1_b3 (List.mem_singleton.mp q)))) hZ (oW hw 17 rfl) (oW hw 2 rfl) (by decide) (by decide)) q11a q11c (g := (mkF m 145 #[.val (.long q1), .second, .val (.int p2), .val (.long q3), .second, .val (.int p4), .val (.int p5), .val (.long q7), .second, .val (.int p9), .val .null, .val (.int (((p5.toUInt32 >>> ((2 : Int32) &&& 31).toUInt32).toInt32) &&& (3 : Int32))), .val (.ref b1), .val (.ref b3), .val (.int 0)] [(.ref b1), (.ref b1)])) rfl (by rw [hml]; rfl) (Steps.refl _) (argsL := [(.ref b1)]) (rest := []) (lenOf pd_4 rfl) rfl (by show 2 * 0 + _ ≤ _; exact Nat.le_of_eq rfl) (hb hby at_145) (fun _ _ => ⟨rfl, e10, (by decide : 2 + 0 ≤ _), (by decide : 4 + 0 ≤ _)⟩)
        dsimp only [Pt.U, Pt.locs, Pt.cells, Pt.slots] at X11 l11 y11 z11 st11 hQ11
        subst l11 y11 z11
        obtain ⟨rfl, Nq11, e11⟩ := hQ11
        have N11 := Fr.app N10 Nq11
        refine oS (fun t k => st11.trans k) ?_
        show oG _ _ _ _ _ _ _ (T11.setTop (mkF m 148 #[.val (.long q1), .second, .val (.int p2), .val (.long q3), .second, .val (.int p4), .val (.int p5), .val (.long q7), .second, .val (.int p9), .val .null, .val (.int (((p5.toUInt32 >>> ((2 : Int32) &&& 31).toUInt32).toInt32) &&& (3 : Int32))), .val (.ref b1), .val (.ref b3), .val (.int 0)] [(.int 1)]))
        try clear st11 X10 e10
        refine oS (fun t k => XS.ifNo X11.here hx rfl (hb hby at_148) rfl ((if0 _ _).trans (feq (by decide)).1) k) ?_
        refine oS (fun t k => XS.aload X11.here hx rfl (hb hby at_151) rfl rfl k) ?_
        refine oS (fun t k => XS.aload X11.here hx rfl (hb hby at_153) rfl rfl k) ?_
        show oG _ _ _ _ _ _ _ (T11.setTop (mkF m 155 #[.val (.long q1), .second, .val (.int p2), .val (.long q3), .second, .val (.int p4), .val (.int p5), .val (.long q7), .second, .val (.int p9), .val .null, .val (.int (((p5.toUInt32 >>> ((2 : Int32) &&& 31).toUInt32).toInt32) &&& (3 : Int32))), .val (.ref b1), .val (.ref b3), .val (.int 0)] [.null, (.ref b1)]))
        obtain ⟨cq12, kq12, q12a, q12b, q12c⟩ := isOf hZ e11 ((P2_0.ext E3).keep K4)
        obtain ⟨_, _, ⟨T12, L12, k12, n12⟩, -, X12, ⟨Lc12, hQ12, l12, y12, z12⟩, st12⟩ := X11.virtualBack hx (y := mY6) (z := mY6) hown (mvT hZ (oW hw 13 rfl)) (mvT hZ (oW hw 14 rfl)) (notFace_of_selects (args := #[]) (mvT hZ (oW hw 16 rfl))) (mvT hZ (oW hw 16 rfl)) (mvT hZ (oW hw 15 rfl)) (by decide) (backOf (W := 0) (rm_eq_n l Z a0 hw [] b1  T4.heap n0 O4  ) hZ (oW hw 17 rfl) (oW hw 2 rfl) (by decide) (by decide)) q12a q12c (g := (mkF m 155 #[.val (.long q1), .second, .val (.int p2), .val (.long q3), .second, .val (.int p4), .val (.int p5), .val (.long q7), .second, .val (.int p9), .val .null, .val (.int (((p5.toUInt32 >>> ((2 : Int32) &&& 31).toUInt32).toInt32) &&& (3 : Int32))), .val (.ref b1), .val (.ref b3), .val (.int 0)] [.null, (.ref b1)])) rfl (by rw [hml]; rfl) (Steps.refl _) (argsL := [.null]) (rest := []) (lenOf pd_4 rfl) rfl (by show 2 * 0 + _ ≤ _; exact Nat.le_of_eq rfl) (hb hby at_155) (fun _ _ => ⟨rfl, e11, (by decide : 2 + 0 ≤ _), (by decide : 4 + 0 ≤ _)⟩)
        dsimp only [Pt.U, Pt.locs, Pt.cells, Pt.slots] at X12 l12 y12 z12 st12 hQ12
        subst l12 y12 z12
        obtain ⟨rfl, Nq12, e12⟩ := hQ12
        have N12 := Fr.app N11 Nq12
        refine oS (fun t k => st12.trans k) ?_
        show oG _ _ _ _ _ _ _ (T12.setTop (mkF m 158 #[.val (.long q1), .second, .val (.int p2), .val (.long q3), .second, .val (.int p4), .val (.int p5), .val (.long q7), .second, .val (.int p9), .val .null, .val (.int (((p5.toUInt32 >>> ((2 : Int32) &&& 31).toUInt32).toInt32) &&& (3 : Int32))), .val (.ref b1), .val (.ref b3), .val (.int 0)] [(.int 0)]))
        try clear st12 X11 e11
        refine oS (fun t k => XS.ifNo X12.here hx rfl (hb hby at_158) rfl ((if0 _ _).trans (teq (by decide)).2) k) ?_
        refine oS (fun t k => oIc li_1 X12.here hx rfl (hb hby at_161) k) ?_
        refine oS (fun t k => XS.goto X12.here hx rfl (pc0 := 162) (pc' := 166) rfl (hb hby at_162) (by decide) (by decide) k) ?_
        show oG _ _ _ _ _ _ _ (T12.setTop (mkF m 166 #[.val (.long q1), .second, .val (.int p2), .val (.long q3), .second, .val (.int p4), .val (.int p5), .val (.long q7), .second, .val (.int p9), .val .null, .val (.int (((p5.toUInt32 >>> ((2 : Int32) &&& 31).toUInt32).toInt32) &&& (3 : Int32))), .val (.ref b1), .val (.ref b3), .val (.int 0)] [(.int 1)]))
        exact own_ret (v := some (.int 1)) X12 (fun h => by rw [Bd.returns] at h; cases h) Bd.notSynchronized (fun fs hr => retN X12 hx (t := .boolean) Bd.returns (by simp) (hb hby at_166) hr) (by rw [e12]; exact ⟨rfl, N12⟩) (by decide) (by decide)
    · refine oS (fun t k => XS.ifYes X4.here hx rfl (pc0 := 101) (pc' := 114) rfl (hb hby at_101) rfl ((if0 _ _).trans (feq (fun q => hc101 ((lw_eq q1 q7).mp q))).2) (by decide) (by decide) k) ?_
      refine oS (fun t k => oIc li_0 X4.here hx rfl (hb hby at_114) k) ?_
      show oG _ _ _ _ _ _ _ (T4.setTop (mkF m 115 #[.val (.long q1), .second, .val (.int p2), .val (.long q3), .second, .val (.int p4), .val (.int p5), .val (.long q7), .second, .val (.int p9), .val .null, .val (.int (((p5.toUInt32 >>> ((2 : Int32) &&& 31).toUInt32).toInt32) &&& (3 : Int32))), .val (.ref b1), .val (.ref b3), .unset] [(.int 0)]))
      refine oS (fun t k => XS.istore X4.here hx rfl (hb hby at_115) rfl (l' := #[.val (.long q1), .second, .val (.int p2), .val (.long q3), .second, .val (.int p4), .val (.int p5), .val (.long q7), .second, .val (.int p9), .val .null, .val (.int (((p5.toUInt32 >>> ((2 : Int32) &&& 31).toUInt32).toInt32) &&& (3 : Int32))), .val (.ref b1), .val (.ref b3), .val (.int 0)]) rfl k) ?_
      refine oS (fun t k => XS.aload X4.here hx rfl (hb hby at_117) rfl rfl k) ?_
      refine oS (fun t k => XS.aload X4.here hx rfl (hb hby at_119) rfl rfl k) ?_
      show oG _ _ _ _ _ _ _ (T4.setTop (mkF m 121 #[.val (.long q1), .second, .val (.int p2), .val (.long q3), .second, .val (.int p4), .val (.int p5), .val (.long q7), .second, .val (.int p9), .val .null, .val (.int (((p5.toUInt32 >>> ((2 : Int32) &&& 31).toUInt32).toInt32) &&& (3 : Int32))), .val (.ref b1), .val (.ref b3), .val (.int 0)] [(.ref b3), (.ref b1)]))
      obtain ⟨cq13, kq13, q13a, q13b, q13c⟩ := isOf hZ rfl ((P2_0.ext E3).keep K4)
      obtain ⟨_, _, ⟨T13, L13, k13, n13⟩, -, X13, ⟨Lc13, hQ13, l13, y13, z13⟩, st13⟩ := X4.virtualBack hx (y := mY6) (z := mY6) hown (mvT hZ (oW hw 13 rfl)) (mvT hZ (oW hw 14 rfl)) (notFace_of_selects (args := #[]) (mvT hZ (oW hw 16 rfl))) (mvT hZ (oW hw 16 rfl)) (mvT hZ (oW hw 15 rfl)) (by decide) (backOf (W := 0) (rm_eq_0 l Z a0 hw [] b1 b3 q1 p2 q7 p9  T4.heap n0 O4  P4_0 ((P2_1.ext E3).keep K4 (fun q => ne_b1_b3 (List.mem_singleton.mp q))) ((P2_2.ext E3).keep K4 (fun q => ne_b1_b3 (List.mem_singleton.mp q))) P4_1 P4_2 (fun q => hc101 (Eq.symm q))) hZ (oW hw 17 rfl) (oW hw 2 rfl) (by decide) (by decide)) q13a q13c (g := (mkF m 121 #[.val (.long q1), .second, .val (.int p2), .val (.long q3), .second, .val (.int p4), .val (.int p5), .val (.long q7), .second, .val (.int p9), .val .null, .val (.int (((p5.toUInt32 >>> ((2 : Int32) &&& 31).toUInt32).toInt32) &&& (3 : Int32))), .val (.ref b1), .val (.ref b3), .val (.int 0)] [(.ref b3), (.ref b1)])) rfl (by rw [hml]; rfl) (Steps.refl _) (argsL := [(.ref b3)]) (rest := []) (lenOf pd_4 rfl) rfl (by show 2 * 0 + _ ≤ _; exact Nat.le_of_eq rfl) (hb hby at_121) (fun _ _ => ⟨rfl, rfl, (by decide : 2 + 0 ≤ _), (by decide : 4 + 0 ≤ _)⟩)
      dsimp only [Pt.U, Pt.locs, Pt.cells, Pt.slots] at X13 l13 y13 z13 st13 hQ13
      subst l13 y13 z13
      obtain ⟨rfl, Nq13, e13⟩ := hQ13
      have N13 := Fr.app N4 Nq13
      refine oS (fun t k => st13.trans k) ?_
      show oG _ _ _ _ _ _ _ (T13.setTop (mkF m 124 #[.val (.long q1), .second, .val (.int p2), .val (.long q3), .second, .val (.int p4), .val (.int p5), .val (.long q7), .second, .val (.int p9), .val .null, .val (.int (((p5.toUInt32 >>> ((2 : Int32) &&& 31).toUInt32).toInt32) &&& (3 : Int32))), .val (.ref b1), .val (.ref b3), .val (.int 0)] [(.int 0)]))
      try clear st13 X4 e4
      refine oS (fun t k => XS.iload X13.here hx rfl (hb hby at_124) rfl k) ?_
      refine oS (fun t k => XS.icmpNo X13.here hx rfl (hb hby at_126) rfl (teq (by decide)).2 k) ?_
      refine oS (fun t k => XS.aload X13.here hx rfl (hb hby at_129) rfl rfl k) ?_
      show oG _ _ _ _ _ _ _ (T13.setTop (mkF m 131 #[.val (.long q1), .second, .val (.int p2), .val (.long q3), .second, .val (.int p4), .val (.int p5), .val (.long q7), .second, .val (.int p9), .val .null, .val (.int (((p5.toUInt32 >>> ((2 : Int32) &&& 31).toUInt32).toInt32) &&& (3 : Int32))), .val (.ref b1), .val (.ref b3), .val (.int 0)] [(.ref b3)]))
      refine oS (fun t k => XS.aload X13.here hx rfl (hb hby at_131) rfl rfl k) ?_
      obtain ⟨cq14, kq14, q14a, q14b, q14c⟩ := isOf hZ e13 P4_0
      obtain ⟨_, _, ⟨T14, L14, k14, n14⟩, -, X14, ⟨Lc14, hQ14, l14, y14, z14⟩, st14⟩ := X13.virtualBack hx (y := mY6) (z := mY6) hown (mvT hZ (oW hw 13 rfl)) (mvT hZ (oW hw 14 rfl)) (notFace_of_selects (args := #[]) (mvT hZ (oW hw 16 rfl))) (mvT hZ (oW hw 16 rfl)) (mvT hZ (oW hw 15 rfl)) (by decide) (backOf (W := 0) (rm_eq_0 l Z a0 hw [] b3 b1 q7 p9 q1 p2  T4.heap n0 O4  ((P2_0.ext E3).keep K4) P4_1 P4_2 ((P2_1.ext E3).keep K4 (fun q => ne_b1_b3 (List.mem_singleton.mp q))) ((P2_2.ext E3).keep K4 (fun q => ne_b1_b3 (List.mem_singleton.mp q))) hc101) hZ (oW hw 17 rfl) (oW hw 2 rfl) (by decide) (by decide)) q14a q14c (g := (mkF m 133 #[.val (.long q1), .second, .val (.int p2), .val (.long q3), .second, .val (.int p4), .val (.int p5), .val (.long q7), .second, .val (.int p9), .val .null, .val (.int (((p5.toUInt32 >>> ((2 : Int32) &&& 31).toUInt32).toInt32) &&& (3 : Int32))), .val (.ref b1), .val (.ref b3), .val (.int 0)] [(.ref b1), (.ref b3)])) rfl (by rw [hml]; rfl) (Steps.refl _) (argsL := [(.ref b1)]) (rest := []) (lenOf pd_4 rfl) rfl (by show 2 * 0 + _ ≤ _; exact Nat.le_of_eq rfl) (hb hby at_133) (fun _ _ => ⟨rfl, e13, (by decide : 2 + 0 ≤ _), (by decide : 4 + 0 ≤ _)⟩)
      dsimp only [Pt.U, Pt.locs, Pt.cells, Pt.slots] at X14 l14 y14 z14 st14 hQ14
      subst l14 y14 z14
      obtain ⟨rfl, Nq14, e14⟩ := hQ14
      have N14 := Fr.app N13 Nq14
      refine oS (fun t k => st14.trans k) ?_
      show oG _ _ _ _ _ _ _ (T14.setTop (mkF m 136 #[.val (.long q1), .second, .val (.int p2), .val (.long q3), .second, .val (.int p4), .val (.int p5), .val (.long q7), .second, .val (.int p9), .val .null, .val (.int (((p5.toUInt32 >>> ((2 : Int32) &&& 31).toUInt32).toInt32) &&& (3 : Int32))), .val (.ref b1), .val (.ref b3), .val (.int 0)] [(.int 0)]))
      try clear st14 X13 e13
      refine oS (fun t k => XS.iload X14.here hx rfl (hb hby at_136) rfl k) ?_
      refine oS (fun t k => XS.icmpNo X14.here hx rfl (hb hby at_138) rfl (teq (by decide)).2 k) ?_
      refine oS (fun t k => XS.aload X14.here hx rfl (hb hby at_141) rfl rfl k) ?_
      show oG _ _ _ _ _ _ _ (T14.setTop (mkF m 143 #[.val (.long q1), .second, .val (.int p2), .val (.long q3), .second, .val (.int p4), .val (.int p5), .val (.long q7), .second, .val (.int p9), .val .null, .val (.int (((p5.toUInt32 >>> ((2 : Int32) &&& 31).toUInt32).toInt32) &&& (3 : Int32))), .val (.ref b1), .val (.ref b3), .val (.int 0)] [(.ref b1)]))
      refine oS (fun t k => XS.aload X14.here hx rfl (hb hby at_143) rfl rfl k) ?_
      obtain ⟨cq15, kq15, q15a, q15b, q15c⟩ := isOf hZ e14 ((P2_0.ext E3).keep K4)
      obtain ⟨_, _, ⟨T15, L15, k15, n15⟩, -, X15, ⟨Lc15, hQ15, l15, y15, z15⟩, st15⟩ := X14.virtualBack hx (y := mY6) (z := mY6) hown (mvT hZ (oW hw 13 rfl)) (mvT hZ (oW hw 14 rfl)) (notFace_of_selects (args := #[]) (mvT hZ (oW hw 16 rfl))) (mvT hZ (oW hw 16 rfl)) (mvT hZ (oW hw 15 rfl)) (by decide) (backOf (W := 0) (rm_eq_s l Z a0 hw [] b1 q1 p2  T4.heap n0 O4  ((P2_0.ext E3).keep K4) ((P2_1.ext E3).keep K4 (fun q => ne_b1_b3 (List.mem_singleton.mp q))) ((P2_2.ext E3).keep K4 (fun q => ne_b1_b3 (List.mem_singleton.mp q)))) hZ (oW hw 17 rfl) (oW hw 2 rfl) (by decide) (by decide)) q15a q15c (g := (mkF m 145 #[.val (.long q1), .second, .val (.int p2), .val (.long q3), .second, .val (.int p4), .val (.int p5), .val (.long q7), .second, .val (.int p9), .val .null, .val (.int (((p5.toUInt32 >>> ((2 : Int32) &&& 31).toUInt32).toInt32) &&& (3 : Int32))), .val (.ref b1), .val (.ref b3), .val (.int 0)] [(.ref b1), (.ref b1)])) rfl (by rw [hml]; rfl) (Steps.refl _) (argsL := [(.ref b1)]) (rest := []) (lenOf pd_4 rfl) rfl (by show 2 * 0 + _ ≤ _; exact Nat.le_of_eq rfl) (hb hby at_145) (fun _ _ => ⟨rfl, e14, (by decide : 2 + 0 ≤ _), (by decide : 4 + 0 ≤ _)⟩)
      dsimp only [Pt.U, Pt.locs, Pt.cells, Pt.slots] at X15 l15 y15 z15 st15 hQ15
      subst l15 y15 z15
      obtain ⟨rfl, Nq15, e15⟩ := hQ15
      have N15 := Fr.app N14 Nq15
      refine oS (fun t k => st15.trans k) ?_
      show oG _ _ _ _ _ _ _ (T15.setTop (mkF m 148 #[.val (.long q1), .second, .val (.int p2), .val (.long q3), .second, .val (.int p4), .val (.int p5), .val (.long q7), .second, .val (.int p9), .val .null, .val (.int (((p5.toUInt32 >>> ((2 : Int32) &&& 31).toUInt32).toInt32) &&& (3 : Int32))), .val (.ref b1), .val (.ref b3), .val (.int 0)] [(.int 1)]))
      try clear st15 X14 e14
      refine oS (fun t k => XS.ifNo X15.here hx rfl (hb hby at_148) rfl ((if0 _ _).trans (feq (by decide)).1) k) ?_
      refine oS (fun t k => XS.aload X15.here hx rfl (hb hby at_151) rfl rfl k) ?_
      refine oS (fun t k => XS.aload X15.here hx rfl (hb hby at_153) rfl rfl k) ?_
      show oG _ _ _ _ _ _ _ (T15.setTop (mkF m 155 #[.val (.long q1), .second, .val (.int p2), .val (.long q3), .second, .val (.int p4), .val (.int p5), .val (.long q7), .second, .val (.int p9), .val .null, .val (.int (((p5.toUInt32 >>> ((2 : Int32) &&& 31).toUInt32).toInt32) &&& (3 : Int32))), .val (.ref b1), .val (.ref b3), .val (.int 0)] [.null, (.ref b1)]))
      obtain ⟨cq16, kq16, q16a, q16b, q16c⟩ := isOf hZ e15 ((P2_0.ext E3).keep K4)
      obtain ⟨_, _, ⟨T16, L16, k16, n16⟩, -, X16, ⟨Lc16, hQ16, l16, y16, z16⟩, st16⟩ := X15.virtualBack hx (y := mY6) (z := mY6) hown (mvT hZ (oW hw 13 rfl)) (mvT hZ (oW hw 14 rfl)) (notFace_of_selects (args := #[]) (mvT hZ (oW hw 16 rfl))) (mvT hZ (oW hw 16 rfl)) (mvT hZ (oW hw 15 rfl)) (by decide) (backOf (W := 0) (rm_eq_n l Z a0 hw [] b1  T4.heap n0 O4  ) hZ (oW hw 17 rfl) (oW hw 2 rfl) (by decide) (by decide)) q16a q16c (g := (mkF m 155 #[.val (.long q1), .second, .val (.int p2), .val (.long q3), .second, .val (.int p4), .val (.int p5), .val (.long q7), .second, .val (.int p9), .val .null, .val (.int (((p5.toUInt32 >>> ((2 : Int32) &&& 31).toUInt32).toInt32) &&& (3 : Int32))), .val (.ref b1), .val (.ref b3), .val (.int 0)] [.null, (.ref b1)])) rfl (by rw [hml]; rfl) (Steps.refl _) (argsL := [.null]) (rest := []) (lenOf pd_4 rfl) rfl (by show 2 * 0 + _ ≤ _; exact Nat.le_of_eq rfl) (hb hby at_155) (fun _ _ => ⟨rfl, e15, (by decide : 2 + 0 ≤ _), (by decide : 4 + 0 ≤ _)⟩)
      dsimp only [Pt.U, Pt.locs, Pt.cells, Pt.slots] at X16 l16 y16 z16 st16 hQ16
      subst l16 y16 z16
      obtain ⟨rfl, Nq16, e16⟩ := hQ16
      have N16 := Fr.app N15 Nq16
      refine oS (fun t k => st16.trans k) ?_
      show oG _ _ _ _ _ _ _ (T16.setTop (mkF m 158 #[.val (.long q1), .second, .val (.int p2), .val (.long q3), .second, .val (.int p4), .val (.int p5), .val (.long q7), .second, .val (.int p9), .val .null, .val (.int (((p5.toUInt32 >>> ((2 : Int32) &&& 31).toUInt32).toInt32) &&& (3 : Int32))), .val (.ref b1), .val (.ref b3), .val (.int 0)] [(.int 0)]))
      try clear st16 X15 e15
      refine oS (fun t k => XS.ifNo X16.here hx rfl (hb hby at_158) rfl ((if0 _ _).trans (teq (by decide)).2) k) ?_
      refine oS (fun t k => oIc li_1 X16.here hx rfl (hb hby at_161) k) ?_
      refine oS (fun t k => XS.goto X16.here hx rfl (pc0 := 162) (pc' := 166) rfl (hb hby at_162) (by decide) (by decide) k) ?_
      show oG _ _ _ _ _ _ _ (T16.setTop (mkF m 166 #[.val (.long q1), .second, .val (.int p2), .val (.long q3), .second, .val (.int p4), .val (.int p5), .val (.long q7), .second, .val (.int p9), .val .null, .val (.int (((p5.toUInt32 >>> ((2 : Int32) &&& 31).toUInt32).toInt32) &&& (3 : Int32))), .val (.ref b1), .val (.ref b3), .val (.int 0)] [(.int 1)]))
      exact own_ret (v := some (.int 1)) X16 (fun h => by rw [Bd.returns] at h; cases h) Bd.notSynchronized (fun fs hr => retN X16 hx (t := .boolean) Bd.returns (by simp) (hb hby at_166) hr) (by rw [e16]; exact ⟨rfl, N16⟩) (by decide) (by decide)
  · refine oS (fun t k => XS.ifYes X0.here hx rfl (pc0 := 43) (pc' := 52) rfl (hb hby at_43) rfl ((if0 _ _).trans (feq hc43).2) (by decide) (by decide) k) ?_
    refine oS (fun t k => XS.iload X0.here hx rfl (hb hby at_52) rfl k) ?_
    show oG _ _ _ _ _ _ _ (s₁.setTop (mkF m 54 #[.val (.long q1), .second, .val (.int p2), .val (.long q3), .second, .val (.int p4), .val (.int p5), .val (.long q7), .second, .val (.int p9), .unset, .val (.int (((p5.toUInt32 >>> ((2 : Int32) &&& 31).toUInt32).toInt32) &&& (3 : Int32))), .unset, .unset, .unset] [(.int (((p5.toUInt32 >>> ((2 : Int32) &&& 31).toUInt32).toInt32) &&& (3 : Int32)))]))
    refine oS (fun t k => oIc li_1 X0.here hx rfl (hb hby at_54) k) ?_
    by_cases hc55 : (((p5.toUInt32 >>> ((2 : Int32) &&& 31).toUInt32).toInt32) &&& (3 : Int32)) = (1 : Int32)
    · refine oS (fun t k => XS.icmpNo X0.here hx rfl (hb hby at_55) rfl (teq hc55).2 k) ?_
      refine oS (fun t k => XS.lloadN X0.here hx rfl (hb hby at_58) rfl k) ?_
      show oG _ _ _ _ _ _ _ (s₁.setTop (mkF m 59 #[.val (.long q1), .second, .val (.int p2), .val (.long q3), .second, .val (.int p4), .val (.int p5), .val (.long q7), .second, .val (.int p9), .unset, .val (.int (((p5.toUInt32 >>> ((2 : Int32) &&& 31).toUInt32).toInt32) &&& (3 : Int32))), .unset, .unset, .unset] [(.long q1)]))
      obtain ⟨_, _, ⟨T17, L17, k17, n17⟩, -, X17, ⟨Lc17, hQ17, l17, y17, z17⟩, st17⟩ := Jvm.LawKit.callS X0 hx (y := mY5) hown (mvT hZ (oW hw 44 rfl)) (mvT hZ (oW hw 45 rfl)) (mvT hZ (oW hw 46 rfl)) (mvT hZ (oW hw 47 rfl)) (by decide) (backOf (W := 0) (rm_lval l Z a0 hw [] q1 w h0 n0 O0 W ) hZ (oW hw 47 rfl) (oW hw 46 rfl) (by decide) (by decide)) (g := (mkF m 59 #[.val (.long q1), .second, .val (.int p2), .val (.long q3), .second, .val (.int p4), .val (.int p5), .val (.long q7), .second, .val (.int p9), .unset, .val (.int (((p5.toUInt32 >>> ((2 : Int32) &&& 31).toUInt32).toInt32) &&& (3 : Int32))), .unset, .unset, .unset] [(.long q1)])) rfl (by rw [hml]; rfl) (argsL := [(.long q1)]) (rest := []) (lenOf pd_5 rfl) rfl (by show 2 * 0 + _ ≤ _; exact Nat.le_of_eq rfl) (hb hby at_59) (fun _ _ => ⟨rfl, e0, (by decide : 0 + 1 ≤ _), (by decide : 0 + 1 ≤ _)⟩)
      dsimp only [Pt.U, Pt.locs, Pt.cells, Pt.slots] at X17 l17 y17 z17 st17 hQ17
      subst l17 y17 z17
      obtain ⟨r17, rfl, Nq17, K17, P17_0⟩ := hQ17
      have N17 := Fr.app N0 Nq17
      have O17 := O0.keep K17 (fun x q => absurd q List.not_mem_nil)
      refine oS (fun t k => st17 t k) ?_
      show oG _ _ _ _ _ _ _ (T17.setTop (mkF m 62 #[.val (.long q1), .second, .val (.int p2), .val (.long q3), .second, .val (.int p4), .val (.int p5), .val (.long q7), .second, .val (.int p9), .unset, .val (.int (((p5.toUInt32 >>> ((2 : Int32) &&& 31).toUInt32).toInt32) &&& (3 : Int32))), .unset, .unset, .unset] [(.ref r17)]))
      try clear st17
      refine oS (fun t k => XS.astore X17.here hx rfl (hb hby at_62) rfl rfl (l' := #[.val (.long q1), .second, .val (.int p2), .val (.long q3), .second, .val (.int p4), .val (.int p5), .val (.long q7), .second, .val (.int p9), .val (.ref r17), .val (.int (((p5.toUInt32 >>> ((2 : Int32) &&& 31).toUInt32).toInt32) &&& (3 : Int32))), .unset, .unset, .unset]) rfl k) ?_
      refine oS (fun t k => XS.goto X17.here hx rfl (pc0 := 64) (pc' := 73) rfl (hb hby at_64) (by decide) (by decide) k) ?_
      obtain ⟨T18, h18, X18, e18, E18, A18, D18, -, st18⟩ := newO X17 hx hZ hown (oW hw 0 rfl) (oW hw 1 rfl) (oW hw 2 rfl) rfl (g := (mkF m 73 #[.val (.long q1), .second, .val (.int p2), .val (.long q3), .second, .val (.int p4), .val (.int p5), .val (.long q7), .second, .val (.int p9), .val (.ref r17), .val (.int (((p5.toUInt32 >>> ((2 : Int32) &&& 31).toUInt32).toInt32) &&& (3 : Int32))), .unset, .unset, .unset] [])) rfl (hb hby at_73) (by decide) (by decide)
      obtain ⟨b18, g18⟩ : ∃ z, z = T17.heap.size := ⟨_, rfl⟩
      rw [← g18] at A18 D18 st18
      have gx18 : n0 ≤ b18 := Nat.le_trans (O17.1 ▸ O17.2.1) (Nat.le_of_eq g18.symm)
      have O18 := O17.ext E18
      have F_addresses_b18 : Fld Z h18 b18 "com/example/loudline/loudline/packet/UdpFlow" "addresses" "J" (.long 0) := D18 (Or.inr (oW hw 10 rfl)) (ty := .long) (by decide)
      have F_ports_b18 : Fld Z h18 b18 "com/example/loudline/loudline/packet/UdpFlow" "ports" "I" (.int 0) := D18 (Or.inr (oW hw 12 rfl)) (ty := .int) (by decide)
      refine oS (fun t k => st18 t k) ?_
      show oG _ _ _ _ _ _ _ (T18.setTop (mkF m 76 #[.val (.long q1), .second, .val (.int p2), .val (.long q3), .second, .val (.int p4), .val (.int p5), .val (.long q7), .second, .val (.int p9), .val (.ref r17), .val (.int (((p5.toUInt32 >>> ((2 : Int32) &&& 31).toUInt32).toInt32) &&& (3 : Int32))), .unset, .unset, .unset] [(.ref b18)]))
      try clear st18 X17 e17
      refine oS (fun t k => XS.dup X18.here hx rfl (hb hby at_76) rfl rfl k) ?_
      refine oS (fun t k => XS.lloadN X18.here hx rfl (hb hby at_77) rfl k) ?_
      refine oS (fun t k => XS.iloadN X18.here hx rfl (hb hby at_78) rfl k) ?_
      show oG _ _ _ _ _ _ _ (T18.setTop (mkF m 79 #[.val (.long q1), .second, .val (.int p2), .val (.long q3), .second, .val (.int p4), .val (.int p5), .val (.long q7), .second, .val (.int p9), .val (.ref r17), .val (.int (((p5.toUInt32 >>> ((2 : Int32) &&& 31).toUInt32).toInt32) &&& (3 : Int32))), .unset, .unset, .unset] [(.int p2), (.long q1), (.ref b18), (.ref b18)]))
      obtain ⟨_, _, ⟨T19, L19, k19, n19⟩, -, X19, ⟨Lc19, hQ19, l19, y19, z19⟩, st19⟩ := X18.specialBack hx (y := mY0) rfl hown (mvT hZ (oW hw 3 rfl)) (mvT hZ (oW hw 4 rfl)) (mvT hZ (oW hw 5 rfl)) (by decide) (backOf (W := 1) (rm_init l Z a0 hw [] b18 q1 p2 (.long 0) (.int 0) w h18 n0 O18 W A18 gx18 F_addresses_b18 F_ports_b18) hZ (oW hw 5 rfl) (oW hw 2 rfl) (by decide) (by decide)) (g := (mkF m 79 #[.val (.long q1), .second, .val (.int p2), .val (.long q3), .second, .val (.int p4), .val (.int p5), .val (.long q7), .second, .val (.int p9), .val (.ref r17), .val (.int (((p5.toUInt32 >>> ((2 : Int32) &&& 31).toUInt32).toInt32) &&& (3 : Int32))), .unset, .unset, .unset] [(.int p2), (.long q1), (.ref b18), (.ref b18)])) rfl (by rw [hml]; rfl) (Steps.refl _) (a := b18) (argsL := [(.long q1), (.int p2)]) (rest := [(.ref b18)]) (lenOf pd_3 rfl) rfl (by show 2 * 0 + _ ≤ _; exact Nat.le_of_eq rfl) (hb hby at_79) (fun _ _ => ⟨rfl, e18, (by decide : 2 + 0 ≤ _), (by decide : 3 + 0 ≤ _)⟩)
      dsimp only [Pt.U, Pt.locs, Pt.cells, Pt.slots] at X19 l19 y19 z19 st19 hQ19
      subst l19 y19 z19
      obtain ⟨rfl, Nq19, K19, P19_0, P19_1, P19_2⟩ := hQ19
      have N19 := Fr.app N17 Nq19
      have O19 := O18.keep K19 (allS gx18 all0)
      refine oS (fun t k => st19.trans k) ?_
      show oG _ _ _ _ _ _ _ (T19.setTop (mkF m 82 #[.val (.long q1), .second, .val (.int p2), .val (.long q3), .second, .val (.int p4), .val (.int p5), .val (.long q7), .second, .val (.int p9), .val (.ref r17), .val (.int (((p5.toUInt32 >>> ((2 : Int32) &&& 31).toUInt32).toInt32) &&& (3 : Int32))), .unset, .unset, .unset] [(.ref b18)]))
      try clear st19 X18 e18
      try clear T18
      refine oS (fun t k => XS.astore X19.here hx rfl (hb hby at_82) rfl rfl (l' := #[.val (.long q1), .second, .val (.int p2), .val (.long q3), .second, .val (.int p4), .val (.int p5), .val (.long q7), .second, .val (.int p9), .val (.ref r17), .val (.int (((p5.toUInt32 >>> ((2 : Int32) &&& 31).toUInt32).toInt32) &&& (3 : Int32))), .val (.ref b18), .unset, .unset]) rfl k) ?_
      obtain ⟨T20, h20, X20, e20, E20, A20, D20, -, st20⟩ := newO X19 hx hZ hown (oW hw 0 rfl) (oW hw 1 rfl) (oW hw 2 rfl) rfl (g := (mkF m 84 #[.val (.long q1), .second, .val (.int p2), .val (.long q3), .second, .val (.int p4), .val (.int p5), .val (.long q7), .second, .val (.int p9), .val (.ref r17), .val (.int (((p5.toUInt32 >>> ((2 : Int32) &&& 31).toUInt32).toInt32) &&& (3 : Int32))), .val (.ref b18), .unset, .unset] [])) rfl (hb hby at_84) (by decide) (by decide)
      obtain ⟨b20, g20⟩ : ∃ z, z = T19.heap.size := ⟨_, rfl⟩
      rw [← g20] at A20 D20 st20
      have gx20 : n0 ≤ b20 := Nat.le_trans (O19.1 ▸ O19.2.1) (Nat.le_of_eq g20.symm)
      have ne_b18_b20 : b18 ≠ b20 := Nat.ne_of_lt (Nat.lt_of_lt_of_le P19_0.lt (Nat.le_of_eq g20.symm))
      have O20 := O19.ext E20
      have F_addresses_b20 : Fld Z h20 b20 "com/example/loudline/loudline/packet/UdpFlow" "addresses" "J" (.long 0) := D20 (Or.inr (oW hw 10 rfl)) (ty := .long) (by decide)
      have F_ports_b20 : Fld Z h20 b20 "com/example/loudline/loudline/packet/UdpFlow" "ports" "I" (.int 0) := D20 (Or.inr (oW hw 12 rfl)) (ty := .int) (by decide)
      refine oS (fun t k => st20 t k) ?_
      try clear st20 X19 e19
      refine oS (fun t k => XS.dup X20.here hx rfl (hb hby at_87) rfl rfl k) ?_
      show oG _ _ _ _ _ _ _ (T20.setTop (mkF m 88 #[.val (.long q1), .second, .val (.int p2), .val (.long q3), .second, .val (.int p4), .val (.int p5), .val (.long q7), .second, .val (.int p9), .val (.ref r17), .val (.int (((p5.toUInt32 >>> ((2 : Int32) &&& 31).toUInt32).toInt32) &&& (3 : Int32))), .val (.ref b18), .unset, .unset] [(.ref b20), (.ref b20)]))
      refine oS (fun t k => XS.lload X20.here hx rfl (hb hby at_88) rfl k) ?_
      refine oS (fun t k => XS.iload X20.here hx rfl (hb hby at_90) rfl k) ?_
      obtain ⟨_, _, ⟨T21, L21, k21, n21⟩, -, X21, ⟨Lc21, hQ21, l21, y21, z21⟩, st21⟩ := X20.specialBack hx (y := mY0) rfl hown (mvT hZ (oW hw 3 rfl)) (mvT hZ (oW hw 4 rfl)) (mvT hZ (oW hw 5 rfl)) (by decide) (backOf (W := 1) (rm_init l Z a0 hw [] b20 q7 p9 (.long 0) (.int 0) w h20 n0 O20 W A20 gx20 F_addresses_b20 F_ports_b20) hZ (oW hw 5 rfl) (oW hw 2 rfl) (by decide) (by decide)) (g := (mkF m 92 #[.val (.long q1), .second, .val (.int p2), .val (.long q3), .second, .val (.int p4), .val (.int p5), .val (.long q7), .second, .val (.int p9), .val (.ref r17), .val (.int (((p5.toUInt32 >>> ((2 : Int32) &&& 31).toUInt32).toInt32) &&& (3 : Int32))), .val (.ref b18), .unset, .unset] [(.int p9), (.long q7), (.ref b20), (.ref b20)])) rfl (by rw [hml]; rfl) (Steps.refl _) (a := b20) (argsL := [(.long q7), (.int p9)]) (rest := [(.ref b20)]) (lenOf pd_3 rfl) rfl (by show 2 * 0 + _ ≤ _; exact Nat.le_of_eq rfl) (hb hby at_92) (fun _ _ => ⟨rfl, e20, (by decide : 3 + 0 ≤ _), (by decide : 5 + 0 ≤ _)⟩)
      dsimp only [Pt.U, Pt.locs, Pt.cells, Pt.slots] at X21 l21 y21 z21 st21 hQ21
      subst l21 y21 z21
      obtain ⟨rfl, Nq21, K21, P21_0, P21_1, P21_2⟩ := hQ21
      have N21 := Fr.app N19 Nq21
      have O21 := O20.keep K21 (allS gx20 all0)
      refine oS (fun t k => st21.trans k) ?_
      show oG _ _ _ _ _ _ _ (T21.setTop (mkF m 95 #[.val (.long q1), .second, .val (.int p2), .val (.long q3), .second, .val (.int p4), .val (.int p5), .val (.long q7), .second, .val (.int p9), .val (.ref r17), .val (.int (((p5.toUInt32 >>> ((2 : Int32) &&& 31).toUInt32).toInt32) &&& (3 : Int32))), .val (.ref b18), .unset, .unset] [(.ref b20)]))
      try clear st21 X20 e20
      try clear T20
      refine oS (fun t k => XS.astore X21.here hx rfl (hb hby at_95) rfl rfl (l' := #[.val (.long q1), .second, .val (.int p2), .val (.long q3), .second, .val (.int p4), .val (.int p5), .val (.long q7), .second, .val (.int p9), .val (.ref r17), .val (.int (((p5.toUInt32 >>> ((2 : Int32) &&& 31).toUInt32).toInt32) &&& (3 : Int32))), .val (.ref b18), .val (.ref b20), .unset]) rfl k) ?_
      refine oS (fun t k => XS.lloadN X21.here hx rfl (hb hby at_97) rfl k) ?_
      refine oS (fun t k => XS.lload X21.here hx rfl (hb hby at_98) rfl k) ?_
      show oG _ _ _ _ _ _ _ (T21.setTop (mkF m 100 #[.val (.long q1), .second, .val (.int p2), .val (.long q3), .second, .val (.int p4), .val (.int p5), .val (.long q7), .second, .val (.int p9), .val (.ref r17), .val (.int (((p5.toUInt32 >>> ((2 : Int32) &&& 31).toUInt32).toInt32) &&& (3 : Int32))), .val (.ref b18), .val (.ref b20), .unset] [(.long q7), (.long q1)]))
      refine oS (fun t k => XS.lcmp X21.here hx rfl (hb hby at_100) rfl k) ?_
      by_cases hc101 : q1 = q7
      · refine oS (fun t k => XS.ifNo X21.here hx rfl (hb hby at_101) rfl ((if0 _ _).trans (teq ((lw_eq q1 q7).mpr hc101)).2) k) ?_
        refine oS (fun t k => XS.iloadN X21.here hx rfl (hb hby at_104) rfl k) ?_
        show oG _ _ _ _ _ _ _ (T21.setTop (mkF m 105 #[.val (.long q1), .second, .val (.int p2), .val (.long q3), .second, .val (.int p4), .val (.int p5), .val (.long q7), .second, .val (.int p9), .val (.ref r17), .val (.int (((p5.toUInt32 >>> ((2 : Int32) &&& 31).toUInt32).toInt32) &&& (3 : Int32))), .val (.ref b18), .val (.ref b20), .unset] [(.int p2)]))
        refine oS (fun t k => XS.iload X21.here hx rfl (hb hby at_105) rfl k) ?_
        by_cases hc107 : p2 = p9
        · refine oS (fun t k => XS.icmpNo X21.here hx rfl (hb hby at_107) rfl (teq hc107).2 k) ?_
          refine oS (fun t k => oIc li_1 X21.here hx rfl (hb hby at_110) k) ?_
          show oG _ _ _ _ _ _ _ (T21.setTop (mkF m 111 #[.val (.long q1), .second, .val (.int p2), .val (.long q3), .second, .val (.int p4), .val (.int p5), .val (.long q7), .second, .val (.int p9), .val (.ref r17), .val (.int (((p5.toUInt32 >>> ((2 : Int32) &&& 31).toUInt32).toInt32) &&& (3 : Int32))), .val (.ref b18), .val (.ref b20), .unset] [(.int 1)]))
          refine oS (fun t k => XS.goto X21.here hx rfl (pc0 := 111) (pc' := 115) rfl (hb hby at_111) (by decide) (by decide) k) ?_
          refine oS (fun t k => XS.istore X21.here hx rfl (hb hby at_115) rfl (l' := #[.val (.long q1), .second, .val (.int p2), .val (.long q3), .second, .val (.int p4), .val (.int p5), .val (.long q7), .second, .val (.int p9), .val (.ref r17), .val (.int (((p5.toUInt32 >>> ((2 : Int32) &&& 31).toUInt32).toInt32) &&& (3 : Int32))), .val (.ref b18), .val (.ref b20), .val (.int 1)]) rfl k) ?_
          refine oS (fun t k => XS.aload X21.here hx rfl (hb hby at_117) rfl rfl k) ?_
          show oG _ _ _ _ _ _ _ (T21.setTop (mkF m 119 #[.val (.long q1), .second, .val (.int p2), .val (.long q3), .second, .val (.int p4), .val (.int p5), .val (.long q7), .second, .val (.int p9), .val (.ref r17), .val (.int (((p5.toUInt32 >>> ((2 : Int32) &&& 31).toUInt32).toInt32) &&& (3 : Int32))), .val (.ref b18), .val (.ref b20), .val (.int 1)] [(.ref b18)]))
          refine oS (fun t k => XS.aload X21.here hx rfl (hb hby at_119) rfl rfl k) ?_
          obtain ⟨cq22, kq22, q22a, q22b, q22c⟩ := isOf hZ rfl ((P19_0.ext E20).keep K21)
          obtain ⟨_, _, ⟨T22, L22, k22, n22⟩, -, X22, ⟨Lc22, hQ22, l22, y22, z22⟩, st22⟩ := X21.virtualBack hx (y := mY6) (z := mY6) hown (mvT hZ (oW hw 13 rfl)) (mvT hZ (oW hw 14 rfl)) (notFace_of_selects (args := #[]) (mvT hZ (oW hw 16 rfl))) (mvT hZ (oW hw 16 rfl)) (mvT hZ (oW hw 15 rfl)) (by decide) (backOf (W := 0) (rm_eq_11 l Z a0 hw [] b18 b20 q1 p2 q7 p9  T21.heap n0 O21  P21_0 ((P19_1.ext E20).keep K21 (fun q => ne_b18_b20 (List.mem_singleton.mp q))) ((P19_2.ext E20).keep K21 (fun q => ne_b18_b20 (List.mem_singleton.mp q))) P21_1 P21_2 (Eq.symm hc101) (Eq.symm hc107)) hZ (oW hw 17 rfl) (oW hw 2 rfl) (by decide) (by decide)) q22a q22c (g := (mkF m 121 #[.val (.long q1), .second, .val (.int p2), .val (.long q3), .second, .val (.int p4), .val (.int p5), .val (.long q7), .second, .val (.int p9), .val (.ref r17), .val (.int (((p5.toUInt32 >>> ((2 : Int32) &&& 31).toUInt32).toInt32) &&& (3 : Int32))), .val (.ref b18), .val (.ref b20), .val (.int 1)] [(.ref b20), (.ref b18)])) rfl (by rw [hml]; rfl) (Steps.refl _) (argsL := [(.ref b20)]) (rest := []) (lenOf pd_4 rfl) rfl (by show 2 * 0 + _ ≤ _; exact Nat.le_of_eq rfl) (hb hby at_121) (fun _ _ => ⟨rfl, rfl, (by decide : 3 + 0 ≤ _), (by decide : 5 + 0 ≤ _)⟩)
          dsimp only [Pt.U, Pt.locs, Pt.cells, Pt.slots] at X22 l22 y22 z22 st22 hQ22
          subst l22 y22 z22
          obtain ⟨rfl, Nq22, e22⟩ := hQ22
          have N22 := Fr.app N21 Nq22
          refine oS (fun t k => st22.trans k) ?_
          show oG _ _ _ _ _ _ _ (T22.setTop (mkF m 124 #[.val (.long q1), .second, .val (.int p2), .val (.long q3), .second, .val (.int p4), .val (.int p5), .val (.long q7), .second, .val (.int p9), .val (.ref r17), .val (.int (((p5.toUInt32 >>> ((2 : Int32) &&& 31).toUInt32).toInt32) &&& (3 : Int32))), .val (.ref b18), .val (.ref b20), .val (.int 1)] [(.int 1)]))
          try clear st22 X21 e21
          refine oS (fun t k => XS.iload X22.here hx rfl (hb hby at_124) rfl k) ?_
          refine oS (fun t k => XS.icmpNo X22.here hx rfl (hb hby at_126) rfl (teq (by decide)).2 k) ?_
          refine oS (fun t k => XS.aload X22.here hx rfl (hb hby at_129) rfl rfl k) ?_
          show oG _ _ _ _ _ _ _ (T22.setTop (mkF m 131 #[.val (.long q1), .second, .val (.int p2), .val (.long q3), .second, .val (.int p4), .val (.int p5), .val (.long q7), .second, .val (.int p9), .val (.ref r17), .val (.int (((p5.toUInt32 >>> ((2 : Int32) &&& 31).toUInt32).toInt32) &&& (3 : Int32))), .val (.ref b18), .val (.ref b20), .val (.int 1)] [(.ref b20)]))
          refine oS (fun t k => XS.aload X22.here hx rfl (hb hby at_131) rfl rfl k) ?_
          obtain ⟨cq23, kq23, q23a, q23b, q23c⟩ := isOf hZ e22 P21_0
          obtain ⟨_, _, ⟨T23, L23, k23, n23⟩, -, X23, ⟨Lc23, hQ23, l23, y23, z23⟩, st23⟩ := X22.virtualBack hx (y := mY6) (z := mY6) hown (mvT hZ (oW hw 13 rfl)) (mvT hZ (oW hw 14 rfl)) (notFace_of_selects (args := #[]) (mvT hZ (oW hw 16 rfl))) (mvT hZ (oW hw 16 rfl)) (mvT hZ (oW hw 15 rfl)) (by decide) (backOf (W := 0) (rm_eq_11 l Z a0 hw [] b20 b18 q7 p9 q1 p2  T21.heap n0 O21  ((P19_0.ext E20).keep K21) P21_1 P21_2 ((P19_1.ext E20).keep K21 (fun q => ne_b18_b20 (List.mem_singleton.mp q))) ((P19_2.ext E20).keep K21 (fun q => ne_b18_b20 (List.mem_singleton.mp q))) hc101 hc107) hZ (oW hw 17 rfl) (oW hw 2 rfl) (by decide) (by decide)) q23a q23c (g := (mkF m 133 #[.val (.long q1), .second, .val (.int p2), .val (.long q3), .second, .val (.int p4), .val (.int p5), .val (.long q7), .second, .val (.int p9), .val (.ref r17), .val (.int (((p5.toUInt32 >>> ((2 : Int32) &&& 31).toUInt32).toInt32) &&& (3 : Int32))), .val (.ref b18), .val (.ref b20), .val (.int 1)] [(.ref b18), (.ref b20)])) rfl (by rw [hml]; rfl) (Steps.refl _) (argsL := [(.ref b18)]) (rest := []) (lenOf pd_4 rfl) rfl (by show 2 * 0 + _ ≤ _; exact Nat.le_of_eq rfl) (hb hby at_133) (fun _ _ => ⟨rfl, e22, (by decide : 3 + 0 ≤ _), (by decide : 5 + 0 ≤ _)⟩)
          dsimp only [Pt.U, Pt.locs, Pt.cells, Pt.slots] at X23 l23 y23 z23 st23 hQ23
          subst l23 y23 z23
          obtain ⟨rfl, Nq23, e23⟩ := hQ23
          have N23 := Fr.app N22 Nq23
          refine oS (fun t k => st23.trans k) ?_
          show oG _ _ _ _ _ _ _ (T23.setTop (mkF m 136 #[.val (.long q1), .second, .val (.int p2), .val (.long q3), .second, .val (.int p4), .val (.int p5), .val (.long q7), .second, .val (.int p9), .val (.ref r17), .val (.int (((p5.toUInt32 >>> ((2 : Int32) &&& 31).toUInt32).toInt32) &&& (3 : Int32))), .val (.ref b18), .val (.ref b20), .val (.int 1)] [(.int 1)]))
          try clear st23 X22 e22
          refine oS (fun t k => XS.iload X23.here hx rfl (hb hby at_136) rfl k) ?_
          refine oS (fun t k => XS.icmpNo X23.here hx rfl (hb hby at_138) rfl (teq (by decide)).2 k) ?_
          refine oS (fun t k => XS.aload X23.here hx rfl (hb hby at_141) rfl rfl k) ?_
          show oG _ _ _ _ _ _ _ (T23.setTop (mkF m 143 #[.val (.long q1), .second, .val (.int p2), .val (.long q3), .second, .val (.int p4), .val (.int p5), .val (.long q7), .second, .val (.int p9), .val (.ref r17), .val (.int (((p5.toUInt32 >>> ((2 : Int32) &&& 31).toUInt32).toInt32) &&& (3 : Int32))), .val (.ref b18), .val (.ref b20), .val (.int 1)] [(.ref b18)]))
          refine oS (fun t k => XS.aload X23.here hx rfl (hb hby at_143) rfl rfl k) ?_
          obtain ⟨cq24, kq24, q24a, q24b, q24c⟩ := isOf hZ e23 ((P19_0.ext E20).keep K21)
          obtain ⟨_, _, ⟨T24, L24, k24, n24⟩, -, X24, ⟨Lc24, hQ24, l24, y24, z24⟩, st24⟩ := X23.virtualBack hx (y := mY6) (z := mY6) hown (mvT hZ (oW hw 13 rfl)) (mvT hZ (oW hw 14 rfl)) (notFace_of_selects (args := #[]) (mvT hZ (oW hw 16 rfl))) (mvT hZ (oW hw 16 rfl)) (mvT hZ (oW hw 15 rfl)) (by decide) (backOf (W := 0) (rm_eq_s l Z a0 hw [] b18 q1 p2  T21.heap n0 O21  ((P19_0.ext E20).keep K21) ((P19_1.ext E20).keep K21 (fun q => ne_b18_b20 (List.mem_singleton.mp q))) ((P19_2.ext E20).keep K21 (fun q => ne_b18_b20 (List.mem_singleton.mp q)))) hZ (oW hw 17 rfl) (oW hw 2 rfl) (by decide) (by decide)) q24a q24c (g := (mkF m 145 #[.val (.long q1), .second, .val (.int p2), .val (.long q3), .second, .val (.int p4), .val (.int p5), .val (.long q7), .second, .val (.int p9), .val (.ref r17), .val (.int (((p5.toUInt32 >>> ((2 : Int32) &&& 31).toUInt32).toInt32) &&& (3 : Int32))), .val (.ref b18), .val (.ref b20), .val (.int 1)] [(.ref b18), (.ref b18)])) rfl (by rw [hml]; rfl) (Steps.refl _) (argsL := [(.ref b18)]) (rest := []) (lenOf pd_4 rfl) rfl (by show 2 * 0 + _ ≤ _; exact Nat.le_of_eq rfl) (hb hby at_145) (fun _ _ => ⟨rfl, e23, (by decide : 3 + 0 ≤ _), (by decide : 5 + 0 ≤ _)⟩)
          dsimp only [Pt.U, Pt.locs, Pt.cells, Pt.slots] at X24 l24 y24 z24 st24 hQ24
          subst l24 y24 z24
          obtain ⟨rfl, Nq24, e24⟩ := hQ24
          have N24 := Fr.app N23 Nq24
          refine oS (fun t k => st24.trans k) ?_
          show oG _ _ _ _ _ _ _ (T24.setTop (mkF m 148 #[.val (.long q1), .second, .val (.int p2), .val (.long q3), .second, .val (.int p4), .val (.int p5), .val (.long q7), .second, .val (.int p9), .val (.ref r17), .val (.int (((p5.toUInt32 >>> ((2 : Int32) &&& 31).toUInt32).toInt32) &&& (3 : Int32))), .val (.ref b18), .val (.ref b20), .val (.int 1)] [(.int 1)]))
          try clear st24 X23 e23
          refine oS (fun t k => XS.ifNo X24.here hx rfl (hb hby at_148) rfl ((if0 _ _).trans (feq (by decide)).1) k) ?_
          refine oS (fun t k => XS.aload X24.here hx rfl (hb hby at_151) rfl rfl k) ?_
          refine oS (fun t k => XS.aload X24.here hx rfl (hb hby at_153) rfl rfl k) ?_
          show oG _ _ _ _ _ _ _ (T24.setTop (mkF m 155 #[.val (.long q1), .second, .val (.int p2), .val (.long q3), .second, .val (.int p4), .val (.int p5), .val (.long q7), .second, .val (.int p9), .val (.ref r17), .val (.int (((p5.toUInt32 >>> ((2 : Int32) &&& 31).toUInt32).toInt32) &&& (3 : Int32))), .val (.ref b18), .val (.ref b20), .val (.int 1)] [(.ref r17), (.ref b18)]))
          obtain ⟨cq25, kq25, q25a, q25b, q25c⟩ := isOf hZ e24 ((P19_0.ext E20).keep K21)
          obtain ⟨_, _, ⟨T25, L25, k25, n25⟩, -, X25, ⟨Lc25, hQ25, l25, y25, z25⟩, st25⟩ := X24.virtualBack hx (y := mY6) (z := mY6) hown (mvT hZ (oW hw 13 rfl)) (mvT hZ (oW hw 14 rfl)) (notFace_of_selects (args := #[]) (mvT hZ (oW hw 16 rfl))) (mvT hZ (oW hw 16 rfl)) (mvT hZ (oW hw 15 rfl)) (by decide) (backOf (W := 0) (rm_eq_Long l Z a0 hw [] b18 r17  T21.heap n0 O21  ((((P17_0.ext E18).keep K19).ext E20).keep K21)) hZ (oW hw 17 rfl) (oW hw 2 rfl) (by decide) (by decide)) q25a q25c (g := (mkF m 155 #[.val (.long q1), .second, .val (.int p2), .val (.long q3), .second, .val (.int p4), .val (.int p5), .val (.long q7), .second, .val (.int p9), .val (.ref r17), .val (.int (((p5.toUInt32 >>> ((2 : Int32) &&& 31).toUInt32).toInt32) &&& (3 : Int32))), .val (.ref b18), .val (.ref b20), .val (.int 1)] [(.ref r17), (.ref b18)])) rfl (by rw [hml]; rfl) (Steps.refl _) (argsL := [(.ref r17)]) (rest := []) (lenOf pd_4 rfl) rfl (by show 2 * 0 + _ ≤ _; exact Nat.le_of_eq rfl) (hb hby at_155) (fun _ _ => ⟨rfl, e24, (by decide : 3 + 0 ≤ _), (by decide : 5 + 0 ≤ _)⟩)
          dsimp only [Pt.U, Pt.locs, Pt.cells, Pt.slots] at X25 l25 y25 z25 st25 hQ25
          subst l25 y25 z25
          obtain ⟨rfl, Nq25, e25⟩ := hQ25
          have N25 := Fr.app N24 Nq25
          refine oS (fun t k => st25.trans k) ?_
          show oG _ _ _ _ _ _ _ (T25.setTop (mkF m 158 #[.val (.long q1), .second, .val (.int p2), .val (.long q3), .second, .val (.int p4), .val (.int p5), .val (.long q7), .second, .val (.int p9), .val (.ref r17), .val (.int (((p5.toUInt32 >>> ((2 : Int32) &&& 31).toUInt32).toInt32) &&& (3 : Int32))), .val (.ref b18), .val (.ref b20), .val (.int 1)] [(.int 0)]))
          try clear st25 X24 e24
          refine oS (fun t k => XS.ifNo X25.here hx rfl (hb hby at_158) rfl ((if0 _ _).trans (teq (by decide)).2) k) ?_
          refine oS (fun t k => oIc li_1 X25.here hx rfl (hb hby at_161) k) ?_
          refine oS (fun t k => XS.goto X25.here hx rfl (pc0 := 162) (pc' := 166) rfl (hb hby at_162) (by decide) (by decide) k) ?_
          show oG _ _ _ _ _ _ _ (T25.setTop (mkF m 166 #[.val (.long q1), .second, .val (.int p2), .val (.long q3), .second, .val (.int p4), .val (.int p5), .val (.long q7), .second, .val (.int p9), .val (.ref r17), .val (.int (((p5.toUInt32 >>> ((2 : Int32) &&& 31).toUInt32).toInt32) &&& (3 : Int32))), .val (.ref b18), .val (.ref b20), .val (.int 1)] [(.int 1)]))
          exact own_ret (v := some (.int 1)) X25 (fun h => by rw [Bd.returns] at h; cases h) Bd.notSynchronized (fun fs hr => retN X25 hx (t := .boolean) Bd.returns (by simp) (hb hby at_166) hr) (by rw [e25]; exact ⟨rfl, N25⟩) (by decide) (by decide)
        · refine oS (fun t k => XS.icmpYes X21.here hx rfl (pc0 := 107) (pc' := 114) rfl (hb hby at_107) rfl (feq hc107).2 (by decide) (by decide) k) ?_
          refine oS (fun t k => oIc li_0 X21.here hx rfl (hb hby at_114) k) ?_
          show oG _ _ _ _ _ _ _ (T21.setTop (mkF m 115 #[.val (.long q1), .second, .val (.int p2), .val (.long q3), .second, .val (.int p4), .val (.int p5), .val (.long q7), .second, .val (.int p9), .val (.ref r17), .val (.int (((p5.toUInt32 >>> ((2 : Int32) &&& 31).toUInt32).toInt32) &&& (3 : Int32))), .val (.ref b18), .val (.ref b20), .unset] [(.int 0)]))
          refine oS (fun t k => XS.istore X21.here hx rfl (hb hby at_115) rfl (l' := #[.val (.long q1), .second, .val (.int p2), .val (.long q3), .second, .val (.int p4), .val (.int p5), .val (.long q7), .second, .val (.int p9), .val (.ref r17), .val (.int (((p5.toUInt32 >>> ((2 : Int32) &&& 31).toUInt32).toInt32) &&& (3 : Int32))), .val (.ref b18), .val (.ref b20), .val (.int 0)]) rfl k) ?_
          refine oS (fun t k => XS.aload X21.here hx rfl (hb hby at_117) rfl rfl k) ?_
          refine oS (fun t k => XS.aload X21.here hx rfl (hb hby at_119) rfl rfl k) ?_
          show oG _ _ _ _ _ _ _ (T21.setTop (mkF m 121 #[.val (.long q1), .second, .val (.int p2), .val (.long q3), .second, .val (.int p4), .val (.int p5), .val (.long q7), .second, .val (.int p9), .val (.ref r17), .val (.int (((p5.toUInt32 >>> ((2 : Int32) &&& 31).toUInt32).toInt32) &&& (3 : Int32))), .val (.ref b18), .val (.ref b20), .val (.int 0)] [(.ref b20), (.ref b18)]))
          obtain ⟨cq26, kq26, q26a, q26b, q26c⟩ := isOf hZ rfl ((P19_0.ext E20).keep K21)
          obtain ⟨_, _, ⟨T26, L26, k26, n26⟩, -, X26, ⟨Lc26, hQ26, l26, y26, z26⟩, st26⟩ := X21.virtualBack hx (y := mY6) (z := mY6) hown (mvT hZ (oW hw 13 rfl)) (mvT hZ (oW hw 14 rfl)) (notFace_of_selects (args := #[]) (mvT hZ (oW hw 16 rfl))) (mvT hZ (oW hw 16 rfl)) (mvT hZ (oW hw 15 rfl)) (by decide) (backOf (W := 0) (rm_eq_10 l Z a0 hw [] b18 b20 q1 p2 q7 p9  T21.heap n0 O21  P21_0 ((P19_1.ext E20).keep K21 (fun q => ne_b18_b20 (List.mem_singleton.mp q))) ((P19_2.ext E20).keep K21 (fun q => ne_b18_b20 (List.mem_singleton.mp q))) P21_1 P21_2 (Eq.symm hc101) (fun q => hc107 (Eq.symm q))) hZ (oW hw 17 rfl) (oW hw 2 rfl) (by decide) (by decide)) q26a q26c (g := (mkF m 121 #[.val (.long q1), .second, .val (.int p2), .val (.long q3), .second, .val (.int p4), .val (.int p5), .val (.long q7), .second, .val (.int p9), .val (.ref r17), .val (.int (((p5.toUInt32 >>> ((2 : Int32) &&& 31).toUInt32).toInt32) &&& (3 : Int32))), .val (.ref b18), .val (.ref b20), .val (.int 0)] [(.ref b20), (.ref b18)])) rfl (by rw [hml]; rfl) (Steps.refl _) (argsL := [(.ref b20)]) (rest := []) (lenOf pd_4 rfl) rfl (by show 2 * 0 + _ ≤ _; exact Nat.le_of_eq rfl) (hb hby at_121) (fun _ _ => ⟨rfl, rfl, (by decide : 3 + 0 ≤ _), (by decide : 5 + 0 ≤ _)⟩)
          dsimp only [Pt.U, Pt.locs, Pt.cells, Pt.slots] at X26 l26 y26 z26 st26 hQ26
          subst l26 y26 z26
          obtain ⟨rfl, Nq26, e26⟩ := hQ26
          have N26 := Fr.app N21 Nq26
          refine oS (fun t k => st26.trans k) ?_
          show oG _ _ _ _ _ _ _ (T26.setTop (mkF m 124 #[.val (.long q1), .second, .val (.int p2), .val (.long q3), .second, .val (.int p4), .val (.int p5), .val (.long q7), .second, .val (.int p9), .val (.ref r17), .val (.int (((p5.toUInt32 >>> ((2 : Int32) &&& 31).toUInt32).toInt32) &&& (3 : Int32))), .val (.ref b18), .val (.ref b20), .val (.int 0)] [(.int 0)]))
          try clear st26 X21 e21
          refine oS (fun t k => XS.iload X26.here hx rfl (hb hby at_124) rfl k) ?_
          refine oS (fun t k => XS.icmpNo X26.here hx rfl (hb hby at_126) rfl (teq (by decide)).2 k) ?_
          refine oS (fun t k => XS.aload X26.here hx rfl (hb hby at_129) rfl rfl k) ?_
          show oG _ _ _ _ _ _ _ (T26.setTop (mkF m 131 #[.val (.long q1), .second, .val (.int p2), .val (.long q3), .second, .val (.int p4), .val (.int p5), .val (.long q7), .second, .val (.int p9), .val (.ref r17), .val (.int (((p5.toUInt32 >>> ((2 : Int32) &&& 31).toUInt32).toInt32) &&& (3 : Int32))), .val (.ref b18), .val (.ref b20), .val (.int 0)] [(.ref b20)]))
          refine oS (fun t k => XS.aload X26.here hx rfl (hb hby at_131) rfl rfl k) ?_
          obtain ⟨cq27, kq27, q27a, q27b, q27c⟩ := isOf hZ e26 P21_0
          obtain ⟨_, _, ⟨T27, L27, k27, n27⟩, -, X27, ⟨Lc27, hQ27, l27, y27, z27⟩, st27⟩ := X26.virtualBack hx (y := mY6) (z := mY6) hown (mvT hZ (oW hw 13 rfl)) (mvT hZ (oW hw 14 rfl)) (notFace_of_selects (args := #[]) (mvT hZ (oW hw 16 rfl))) (mvT hZ (oW hw 16 rfl)) (mvT hZ (oW hw 15 rfl)) (by decide) (backOf (W := 0) (rm_eq_10 l Z a0 hw [] b20 b18 q7 p9 q1 p2  T21.heap n0 O21  ((P19_0.ext E20).keep K21) P21_1 P21_2 ((P19_1.ext E20).keep K21 (fun q => ne_b18_b20 (List.mem_singleton.mp q))) ((P19_2.ext E20).keep K21 (fun q => ne_b18_b20 (List.mem_singleton.mp q))) hc101 hc107) hZ (oW hw 17 rfl) (oW hw 2 rfl) (by decide) (by decide)) q27a q27c (g := (mkF m 133 #[.val (.long q1), .second, .val (.int p2), .val (.long q3), .second, .val (.int p4), .val (.int p5), .val (.long q7), .second, .val (.int p9), .val (.ref r17), .val (.int (((p5.toUInt32 >>> ((2 : Int32) &&& 31).toUInt32).toInt32) &&& (3 : Int32))), .val (.ref b18), .val (.ref b20), .val (.int 0)] [(.ref b18), (.ref b20)])) rfl (by rw [hml]; rfl) (Steps.refl _) (argsL := [(.ref b18)]) (rest := []) (lenOf pd_4 rfl) rfl (by show 2 * 0 + _ ≤ _; exact Nat.le_of_eq rfl) (hb hby at_133) (fun _ _ => ⟨rfl, e26, (by decide : 3 + 0 ≤ _), (by decide : 5 + 0 ≤ _)⟩)
          dsimp only [Pt.U, Pt.locs, Pt.cells, Pt.slots] at X27 l27 y27 z27 st27 hQ27
          subst l27 y27 z27
          obtain ⟨rfl, Nq27, e27⟩ := hQ27
          have N27 := Fr.app N26 Nq27
          refine oS (fun t k => st27.trans k) ?_
          show oG _ _ _ _ _ _ _ (T27.setTop (mkF m 136 #[.val (.long q1), .second, .val (.int p2), .val (.long q3), .second, .val (.int p4), .val (.int p5), .val (.long q7), .second, .val (.int p9), .val (.ref r17), .val (.int (((p5.toUInt32 >>> ((2 : Int32) &&& 31).toUInt32).toInt32) &&& (3 : Int32))), .val (.ref b18), .val (.ref b20), .val (.int 0)] [(.int 0)]))
          try clear st27 X26 e26
          refine oS (fun t k => XS.iload X27.here hx rfl (hb hby at_136) rfl k) ?_
          refine oS (fun t k => XS.icmpNo X27.here hx rfl (hb hby at_138) rfl (teq (by decide)).2 k) ?_
          refine oS (fun t k => XS.aload X27.here hx rfl (hb hby at_141) rfl rfl k) ?_
          show oG _ _ _ _ _ _ _ (T27.setTop (mkF m 143 #[.val (.long q1), .second, .val (.int p2), .val (.long q3), .second, .val (.int p4), .val (.int p5), .val (.long q7), .second, .val (.int p9), .val (.ref r17), .val (.int (((p5.toUInt32 >>> ((2 : Int32) &&& 31).toUInt32).toInt32) &&& (3 : Int32))), .val (.ref b18), .val (.ref b20), .val (.int 0)] [(.ref b18)]))
          refine oS (fun t k => XS.aload X27.here hx rfl (hb hby at_143) rfl rfl k) ?_
          obtain ⟨cq28, kq28, q28a, q28b, q28c⟩ := isOf hZ e27 ((P19_0.ext E20).keep K21)
          obtain ⟨_, _, ⟨T28, L28, k28, n28⟩, -, X28, ⟨Lc28, hQ28, l28, y28, z28⟩, st28⟩ := X27.virtualBack hx (y := mY6) (z := mY6) hown (mvT hZ (oW hw 13 rfl)) (mvT hZ (oW hw 14 rfl)) (notFace_of_selects (args := #[]) (mvT hZ (oW hw 16 rfl))) (mvT hZ (oW hw 16 rfl)) (mvT hZ (oW hw 15 rfl)) (by decide) (backOf (W := 0) (rm_eq_s l Z a0 hw [] b18 q1 p2  T21.heap n0 O21  ((P19_0.ext E20).keep K21) ((P19_1.ext E20).keep K21 (fun q => ne_b18_b20 (List.mem_singleton.mp q))) ((P19_2.ext E20).keep K21 (fun q => ne_b18_b20 (List.mem_singleton.mp q)))) hZ (oW hw 17 rfl) (oW hw 2 rfl) (by decide) (by decide)) q28a q28c (g := (mkF m 145 #[.val (.long q1), .second, .val (.int p2), .val (.long q3), .second, .val (.int p4), .val (.int p5), .val (.long q7), .second, .val (.int p9), .val (.ref r17), .val (.int (((p5.toUInt32 >>> ((2 : Int32) &&& 31).toUInt32).toInt32) &&& (3 : Int32))), .val (.ref b18), .val (.ref b20), .val (.int 0)] [(.ref b18), (.ref b18)])) rfl (by rw [hml]; rfl) (Steps.refl _) (argsL := [(.ref b18)]) (rest := []) (lenOf pd_4 rfl) rfl (by show 2 * 0 + _ ≤ _; exact Nat.le_of_eq rfl) (hb hby at_145) (fun _ _ => ⟨rfl, e27, (by decide : 3 + 0 ≤ _), (by decide : 5 + 0 ≤ _)⟩)
          dsimp only [Pt.U, Pt.locs, Pt.cells, Pt.slots] at X28 l28 y28 z28 st28 hQ28
          subst l28 y28 z28
          obtain ⟨rfl, Nq28, e28⟩ := hQ28
          have N28 := Fr.app N27 Nq28
          refine oS (fun t k => st28.trans k) ?_
          show oG _ _ _ _ _ _ _ (T28.setTop (mkF m 148 #[.val (.long q1), .second, .val (.int p2), .val (.long q3), .second, .val (.int p4), .val (.int p5), .val (.long q7), .second, .val (.int p9), .val (.ref r17), .val (.int (((p5.toUInt32 >>> ((2 : Int32) &&& 31).toUInt32).toInt32) &&& (3 : Int32))), .val (.ref b18), .val (.ref b20), .val (.int 0)] [(.int 1)]))
          try clear st28 X27 e27
          refine oS (fun t k => XS.ifNo X28.here hx rfl (hb hby at_148) rfl ((if0 _ _).trans (feq (by decide)).1) k) ?_
          refine oS (fun t k => XS.aload X28.here hx rfl (hb hby at_151) rfl rfl k) ?_
          refine oS (fun t k => XS.aload X28.here hx rfl (hb hby at_153) rfl rfl k) ?_
          show oG _ _ _ _ _ _ _ (T28.setTop (mkF m 155 #[.val (.long q1), .second, .val (.int p2), .val (.long q3), .second, .val (.int p4), .val (.int p5), .val (.long q7), .second, .val (.int p9), .val (.ref r17), .val (.int (((p5.toUInt32 >>> ((2 : Int32) &&& 31).toUInt32).toInt32) &&& (3 : Int32))), .val (.ref b18), .val (.ref b20), .val (.int 0)] [(.ref r17), (.ref b18)]))
          obtain ⟨cq29, kq29, q29a, q29b, q29c⟩ := isOf hZ e28 ((P19_0.ext E20).keep K21)
          obtain ⟨_, _, ⟨T29, L29, k29, n29⟩, -, X29, ⟨Lc29, hQ29, l29, y29, z29⟩, st29⟩ := X28.virtualBack hx (y := mY6) (z := mY6) hown (mvT hZ (oW hw 13 rfl)) (mvT hZ (oW hw 14 rfl)) (notFace_of_selects (args := #[]) (mvT hZ (oW hw 16 rfl))) (mvT hZ (oW hw 16 rfl)) (mvT hZ (oW hw 15 rfl)) (by decide) (backOf (W := 0) (rm_eq_Long l Z a0 hw [] b18 r17  T21.heap n0 O21  ((((P17_0.ext E18).keep K19).ext E20).keep K21)) hZ (oW hw 17 rfl) (oW hw 2 rfl) (by decide) (by decide)) q29a q29c (g := (mkF m 155 #[.val (.long q1), .second, .val (.int p2), .val (.long q3), .second, .val (.int p4), .val (.int p5), .val (.long q7), .second, .val (.int p9), .val (.ref r17), .val (.int (((p5.toUInt32 >>> ((2 : Int32) &&& 31).toUInt32).toInt32) &&& (3 : Int32))), .val (.ref b18), .val (.ref b20), .val (.int 0)] [(.ref r17), (.ref b18)])) rfl (by rw [hml]; rfl) (Steps.refl _) (argsL := [(.ref r17)]) (rest := []) (lenOf pd_4 rfl) rfl (by show 2 * 0 + _ ≤ _; exact Nat.le_of_eq rfl) (hb hby at_155) (fun _ _ => ⟨rfl, e28, (by decide : 3 + 0 ≤ _), (by decide : 5 + 0 ≤ _)⟩)
          dsimp only [Pt.U, Pt.locs, Pt.cells, Pt.slots] at X29 l29 y29 z29 st29 hQ29
          subst l29 y29 z29
          obtain ⟨rfl, Nq29, e29⟩ := hQ29
          have N29 := Fr.app N28 Nq29
          refine oS (fun t k => st29.trans k) ?_
          show oG _ _ _ _ _ _ _ (T29.setTop (mkF m 158 #[.val (.long q1), .second, .val (.int p2), .val (.long q3), .second, .val (.int p4), .val (.int p5), .val (.long q7), .second, .val (.int p9), .val (.ref r17), .val (.int (((p5.toUInt32 >>> ((2 : Int32) &&& 31).toUInt32).toInt32) &&& (3 : Int32))), .val (.ref b18), .val (.ref b20), .val (.int 0)] [(.int 0)]))
          try clear st29 X28 e28
          refine oS (fun t k => XS.ifNo X29.here hx rfl (hb hby at_158) rfl ((if0 _ _).trans (teq (by decide)).2) k) ?_
          refine oS (fun t k => oIc li_1 X29.here hx rfl (hb hby at_161) k) ?_
          refine oS (fun t k => XS.goto X29.here hx rfl (pc0 := 162) (pc' := 166) rfl (hb hby at_162) (by decide) (by decide) k) ?_
          show oG _ _ _ _ _ _ _ (T29.setTop (mkF m 166 #[.val (.long q1), .second, .val (.int p2), .val (.long q3), .second, .val (.int p4), .val (.int p5), .val (.long q7), .second, .val (.int p9), .val (.ref r17), .val (.int (((p5.toUInt32 >>> ((2 : Int32) &&& 31).toUInt32).toInt32) &&& (3 : Int32))), .val (.ref b18), .val (.ref b20), .val (.int 0)] [(.int 1)]))
          exact own_ret (v := some (.int 1)) X29 (fun h => by rw [Bd.returns] at h; cases h) Bd.notSynchronized (fun fs hr => retN X29 hx (t := .boolean) Bd.returns (by simp) (hb hby at_166) hr) (by rw [e29]; exact ⟨rfl, N29⟩) (by decide) (by decide)
      · refine oS (fun t k => XS.ifYes X21.here hx rfl (pc0 := 101) (pc' := 114) rfl (hb hby at_101) rfl ((if0 _ _).trans (feq (fun q => hc101 ((lw_eq q1 q7).mp q))).2) (by decide) (by decide) k) ?_
        refine oS (fun t k => oIc li_0 X21.here hx rfl (hb hby at_114) k) ?_
        show oG _ _ _ _ _ _ _ (T21.setTop (mkF m 115 #[.val (.long q1), .second, .val (.int p2), .val (.long q3), .second, .val (.int p4), .val (.int p5), .val (.long q7), .second, .val (.int p9), .val (.ref r17), .val (.int (((p5.toUInt32 >>> ((2 : Int32) &&& 31).toUInt32).toInt32) &&& (3 : Int32))), .val (.ref b18), .val (.ref b20), .unset] [(.int 0)]))
        refine oS (fun t k => XS.istore X21.here hx rfl (hb hby at_115) rfl (l' := #[.val (.long q1), .second, .val (.int p2), .val (.long q3), .second, .val (.int p4), .val (.int p5), .val (.long q7), .second, .val (.int p9), .val (.ref r17), .val (.int (((p5.toUInt32 >>> ((2 : Int32) &&& 31).toUInt32).toInt32) &&& (3 : Int32))), .val (.ref b18), .val (.ref b20), .val (.int 0)]) rfl k) ?_
        refine oS (fun t k => XS.aload X21.here hx rfl (hb hby at_117) rfl rfl k) ?_
        refine oS (fun t k => XS.aload X21.here hx rfl (hb hby at_119) rfl rfl k) ?_
        show oG _ _ _ _ _ _ _ (T21.setTop (mkF m 121 #[.val (.long q1), .second, .val (.int p2), .val (.long q3), .second, .val (.int p4), .val (.int p5), .val (.long q7), .second, .val (.int p9), .val (.ref r17), .val (.int (((p5.toUInt32 >>> ((2 : Int32) &&& 31).toUInt32).toInt32) &&& (3 : Int32))), .val (.ref b18), .val (.ref b20), .val (.int 0)] [(.ref b20), (.ref b18)]))
        obtain ⟨cq30, kq30, q30a, q30b, q30c⟩ := isOf hZ rfl ((P19_0.ext E20).keep K21)
        obtain ⟨_, _, ⟨T30, L30, k30, n30⟩, -, X30, ⟨Lc30, hQ30, l30, y30, z30⟩, st30⟩ := X21.virtualBack hx (y := mY6) (z := mY6) hown (mvT hZ (oW hw 13 rfl)) (mvT hZ (oW hw 14 rfl)) (notFace_of_selects (args := #[]) (mvT hZ (oW hw 16 rfl))) (mvT hZ (oW hw 16 rfl)) (mvT hZ (oW hw 15 rfl)) (by decide) (backOf (W := 0) (rm_eq_0 l Z a0 hw [] b18 b20 q1 p2 q7 p9  T21.heap n0 O21  P21_0 ((P19_1.ext E20).keep K21 (fun q => ne_b18_b20 (List.mem_singleton.mp q))) ((P19_2.ext E20).keep K21 (fun q => ne_b18_b20 (List.mem_singleton.mp q))) P21_1 P21_2 (fun q => hc101 (Eq.symm q))) hZ (oW hw 17 rfl) (oW hw 2 rfl) (by decide) (by decide)) q30a q30c (g := (mkF m 121 #[.val (.long q1), .second, .val (.int p2), .val (.long q3), .second, .val (.int p4), .val (.int p5), .val (.long q7), .second, .val (.int p9), .val (.ref r17), .val (.int (((p5.toUInt32 >>> ((2 : Int32) &&& 31).toUInt32).toInt32) &&& (3 : Int32))), .val (.ref b18), .val (.ref b20), .val (.int 0)] [(.ref b20), (.ref b18)])) rfl (by rw [hml]; rfl) (Steps.refl _) (argsL := [(.ref b20)]) (rest := []) (lenOf pd_4 rfl) rfl (by show 2 * 0 + _ ≤ _; exact Nat.le_of_eq rfl) (hb hby at_121) (fun _ _ => ⟨rfl, rfl, (by decide : 3 + 0 ≤ _), (by decide : 5 + 0 ≤ _)⟩)
        dsimp only [Pt.U, Pt.locs, Pt.cells, Pt.slots] at X30 l30 y30 z30 st30 hQ30
        subst l30 y30 z30
        obtain ⟨rfl, Nq30, e30⟩ := hQ30
        have N30 := Fr.app N21 Nq30
        refine oS (fun t k => st30.trans k) ?_
        show oG _ _ _ _ _ _ _ (T30.setTop (mkF m 124 #[.val (.long q1), .second, .val (.int p2), .val (.long q3), .second, .val (.int p4), .val (.int p5), .val (.long q7), .second, .val (.int p9), .val (.ref r17), .val (.int (((p5.toUInt32 >>> ((2 : Int32) &&& 31).toUInt32).toInt32) &&& (3 : Int32))), .val (.ref b18), .val (.ref b20), .val (.int 0)] [(.int 0)]))
        try clear st30 X21 e21
        refine oS (fun t k => XS.iload X30.here hx rfl (hb hby at_124) rfl k) ?_
        refine oS (fun t k => XS.icmpNo X30.here hx rfl (hb hby at_126) rfl (teq (by decide)).2 k) ?_
        refine oS (fun t k => XS.aload X30.here hx rfl (hb hby at_129) rfl rfl k) ?_
        show oG _ _ _ _ _ _ _ (T30.setTop (mkF m 131 #[.val (.long q1), .second, .val (.int p2), .val (.long q3), .second, .val (.int p4), .val (.int p5), .val (.long q7), .second, .val (.int p9), .val (.ref r17), .val (.int (((p5.toUInt32 >>> ((2 : Int32) &&& 31).toUInt32).toInt32) &&& (3 : Int32))), .val (.ref b18), .val (.ref b20), .val (.int 0)] [(.ref b20)]))
        refine oS (fun t k => XS.aload X30.here hx rfl (hb hby at_131) rfl rfl k) ?_
        obtain ⟨cq31, kq31, q31a, q31b, q31c⟩ := isOf hZ e30 P21_0
        obtain ⟨_, _, ⟨T31, L31, k31, n31⟩, -, X31, ⟨Lc31, hQ31, l31, y31, z31⟩, st31⟩ := X30.virtualBack hx (y := mY6) (z := mY6) hown (mvT hZ (oW hw 13 rfl)) (mvT hZ (oW hw 14 rfl)) (notFace_of_selects (args := #[]) (mvT hZ (oW hw 16 rfl))) (mvT hZ (oW hw 16 rfl)) (mvT hZ (oW hw 15 rfl)) (by decide) (backOf (W := 0) (rm_eq_0 l Z a0 hw [] b20 b18 q7 p9 q1 p2  T21.heap n0 O21  ((P19_0.ext E20).keep K21) P21_1 P21_2 ((P19_1.ext E20).keep K21 (fun q => ne_b18_b20 (List.mem_singleton.mp q))) ((P19_2.ext E20).keep K21 (fun q => ne_b18_b20 (List.mem_singleton.mp q))) hc101) hZ (oW hw 17 rfl) (oW hw 2 rfl) (by decide) (by decide)) q31a q31c (g := (mkF m 133 #[.val (.long q1), .second, .val (.int p2), .val (.long q3), .second, .val (.int p4), .val (.int p5), .val (.long q7), .second, .val (.int p9), .val (.ref r17), .val (.int (((p5.toUInt32 >>> ((2 : Int32) &&& 31).toUInt32).toInt32) &&& (3 : Int32))), .val (.ref b18), .val (.ref b20), .val (.int 0)] [(.ref b18), (.ref b20)])) rfl (by rw [hml]; rfl) (Steps.refl _) (argsL := [(.ref b18)]) (rest := []) (lenOf pd_4 rfl) rfl (by show 2 * 0 + _ ≤ _; exact Nat.le_of_eq rfl) (hb hby at_133) (fun _ _ => ⟨rfl, e30, (by decide : 3 + 0 ≤ _), (by decide : 5 + 0 ≤ _)⟩)
        dsimp only [Pt.U, Pt.locs, Pt.cells, Pt.slots] at X31 l31 y31 z31 st31 hQ31
        subst l31 y31 z31
        obtain ⟨rfl, Nq31, e31⟩ := hQ31
        have N31 := Fr.app N30 Nq31
        refine oS (fun t k => st31.trans k) ?_
        show oG _ _ _ _ _ _ _ (T31.setTop (mkF m 136 #[.val (.long q1), .second, .val (.int p2), .val (.long q3), .second, .val (.int p4), .val (.int p5), .val (.long q7), .second, .val (.int p9), .val (.ref r17), .val (.int (((p5.toUInt32 >>> ((2 : Int32) &&& 31).toUInt32).toInt32) &&& (3 : Int32))), .val (.ref b18), .val (.ref b20), .val (.int 0)] [(.int 0)]))
        try clear st31 X30 e30
        refine oS (fun t k => XS.iload X31.here hx rfl (hb hby at_136) rfl k) ?_
        refine oS (fun t k => XS.icmpNo X31.here hx rfl (hb hby at_138) rfl (teq (by decide)).2 k) ?_
        refine oS (fun t k => XS.aload X31.here hx rfl (hb hby at_141) rfl rfl k) ?_
        show oG _ _ _ _ _ _ _ (T31.setTop (mkF m 143 #[.val (.long q1), .second, .val (.int p2), .val (.long q3), .second, .val (.int p4), .val (.int p5), .val (.long q7), .second, .val (.int p9), .val (.ref r17), .val (.int (((p5.toUInt32 >>> ((2 : Int32) &&& 31).toUInt32).toInt32) &&& (3 : Int32))), .val (.ref b18), .val (.ref b20), .val (.int 0)] [(.ref b18)]))
        refine oS (fun t k => XS.aload X31.here hx rfl (hb hby at_143) rfl rfl k) ?_
        obtain ⟨cq32, kq32, q32a, q32b, q32c⟩ := isOf hZ e31 ((P19_0.ext E20).keep K21)
        obtain ⟨_, _, ⟨T32, L32, k32, n32⟩, -, X32, ⟨Lc32, hQ32, l32, y32, z32⟩, st32⟩ := X31.virtualBack hx (y := mY6) (z := mY6) hown (mvT hZ (oW hw 13 rfl)) (mvT hZ (oW hw 14 rfl)) (notFace_of_selects (args := #[]) (mvT hZ (oW hw 16 rfl))) (mvT hZ (oW hw 16 rfl)) (mvT hZ (oW hw 15 rfl)) (by decide) (backOf (W := 0) (rm_eq_s l Z a0 hw [] b18 q1 p2  T21.heap n0 O21  ((P19_0.ext E20).keep K21) ((P19_1.ext E20).keep K21 (fun q => ne_b18_b20 (List.mem_singleton.mp q))) ((P19_2.ext E20).keep K21 (fun q => ne_b18_b20 (List.mem_singleton.mp q)))) hZ (oW hw 17 rfl) (oW hw 2 rfl) (by decide) (by decide)) q32a q32c (g := (mkF m 145 #[.val (.long q1), .second, .val (.int p2), .val (.long q3), .second, .val (.int p4), .val (.int p5), .val (.long q7), .second, .val (.int p9), .val (.ref r17), .val (.int (((p5.toUInt32 >>> ((2 : Int32) &&& 31).toUInt32).toInt32) &&& (3 : Int32))), .val (.ref b18), .val (.ref b20), .val (.int 0)] [(.ref b18), (.ref b18)])) rfl (by rw [hml]; rfl) (Steps.refl _) (argsL := [(.ref b18)]) (rest := []) (lenOf pd_4 rfl) rfl (by show 2 * 0 + _ ≤ _; exact Nat.le_of_eq rfl) (hb hby at_145) (fun _ _ => ⟨rfl, e31, (by decide : 3 + 0 ≤ _), (by decide : 5 + 0 ≤ _)⟩)
        dsimp only [Pt.U, Pt.locs, Pt.cells, Pt.slots] at X32 l32 y32 z32 st32 hQ32
        subst l32 y32 z32
        obtain ⟨rfl, Nq32, e32⟩ := hQ32
        have N32 := Fr.app N31 Nq32
        refine oS (fun t k => st32.trans k) ?_
        show oG _ _ _ _ _ _ _ (T32.setTop (mkF m 148 #[.val (.long q1), .second, .val (.int p2), .val (.long q3), .second, .val (.int p4), .val (.int p5), .val (.long q7), .second, .val (.int p9), .val (.ref r17), .val (.int (((p5.toUInt32 >>> ((2 : Int32) &&& 31).toUInt32).toInt32) &&& (3 : Int32))), .val (.ref b18), .val (.ref b20), .val (.int 0)] [(.int 1)]))
        try clear st32 X31 e31
        refine oS (fun t k => XS.ifNo X32.here hx rfl (hb hby at_148) rfl ((if0 _ _).trans (feq (by decide)).1) k) ?_
        refine oS (fun t k => XS.aload X32.here hx rfl (hb hby at_151) rfl rfl k) ?_
        refine oS (fun t k => XS.aload X32.here hx rfl (hb hby at_153) rfl rfl k) ?_
        show oG _ _ _ _ _ _ _ (T32.setTop (mkF m 155 #[.val (.long q1), .second, .val (.int p2), .val (.long q3), .second, .val (.int p4), .val (.int p5), .val (.long q7), .second, .val (.int p9), .val (.ref r17), .val (.int (((p5.toUInt32 >>> ((2 : Int32) &&& 31).toUInt32).toInt32) &&& (3 : Int32))), .val (.ref b18), .val (.ref b20), .val (.int 0)] [(.ref r17), (.ref b18)]))
        obtain ⟨cq33, kq33, q33a, q33b, q33c⟩ := isOf hZ e32 ((P19_0.ext E20).keep K21)
        obtain ⟨_, _, ⟨T33, L33, k33, n33⟩, -, X33, ⟨Lc33, hQ33, l33, y33, z33⟩, st33⟩ := X32.virtualBack hx (y := mY6) (z := mY6) hown (mvT hZ (oW hw 13 rfl)) (mvT hZ (oW hw 14 rfl)) (notFace_of_selects (args := #[]) (mvT hZ (oW hw 16 rfl))) (mvT hZ (oW hw 16 rfl)) (mvT hZ (oW hw 15 rfl)) (by decide) (backOf (W := 0) (rm_eq_Long l Z a0 hw [] b18 r17  T21.heap n0 O21  ((((P17_0.ext E18).keep K19).ext E20).keep K21)) hZ (oW hw 17 rfl) (oW hw 2 rfl) (by decide) (by decide)) q33a q33c (g := (mkF m 155 #[.val (.long q1), .second, .val (.int p2), .val (.long q3), .second, .val (.int p4), .val (.int p5), .val (.long q7), .second, .val (.int p9), .val (.ref r17), .val (.int (((p5.toUInt32 >>> ((2 : Int32) &&& 31).toUInt32).toInt32) &&& (3 : Int32))), .val (.ref b18), .val (.ref b20), .val (.int 0)] [(.ref r17), (.ref b18)])) rfl (by rw [hml]; rfl) (Steps.refl _) (argsL := [(.ref r17)]) (rest := []) (lenOf pd_4 rfl) rfl (by show 2 * 0 + _ ≤ _; exact Nat.le_of_eq rfl) (hb hby at_155) (fun _ _ => ⟨rfl, e32, (by decide : 3 + 0 ≤ _), (by decide : 5 + 0 ≤ _)⟩)
        dsimp only [Pt.U, Pt.locs, Pt.cells, Pt.slots] at X33 l33 y33 z33 st33 hQ33
        subst l33 y33 z33
        obtain ⟨rfl, Nq33, e33⟩ := hQ33
        have N33 := Fr.app N32 Nq33
        refine oS (fun t k => st33.trans k) ?_
        show oG _ _ _ _ _ _ _ (T33.setTop (mkF m 158 #[.val (.long q1), .second, .val (.int p2), .val (.long q3), .second, .val (.int p4), .val (.int p5), .val (.long q7), .second, .val (.int p9), .val (.ref r17), .val (.int (((p5.toUInt32 >>> ((2 : Int32) &&& 31).toUInt32).toInt32) &&& (3 : Int32))), .val (.ref b18), .val (.ref b20), .val (.int 0)] [(.int 0)]))
        try clear st33 X32 e32
        refine oS (fun t k => XS.ifNo X33.here hx rfl (hb hby at_158) rfl ((if0 _ _).trans (teq (by decide)).2) k) ?_
        refine oS (fun t k => oIc li_1 X33.here hx rfl (hb hby at_161) k) ?_
        refine oS (fun t k => XS.goto X33.here hx rfl (pc0 := 162) (pc' := 166) rfl (hb hby at_162) (by decide) (by decide) k) ?_
        show oG _ _ _ _ _ _ _ (T33.setTop (mkF m 166 #[.val (.long q1), .second, .val (.int p2), .val (.long q3), .second, .val (.int p4), .val (.int p5), .val (.long q7), .second, .val (.int p9), .val (.ref r17), .val (.int (((p5.toUInt32 >>> ((2 : Int32) &&& 31).toUInt32).toInt32) &&& (3 : Int32))), .val (.ref b18), .val (.ref b20), .val (.int 0)] [(.int 1)]))
        exact own_ret (v := some (.int 1)) X33 (fun h => by rw [Bd.returns] at h; cases h) Bd.notSynchronized (fun fs hr => retN X33 hx (t := .boolean) Bd.returns (by simp) (hb hby at_166) hr) (by rw [e33]; exact ⟨rfl, N33⟩) (by decide) (by decide)
    · refine oS (fun t k => XS.icmpYes X0.here hx rfl (pc0 := 55) (pc' := 67) rfl (hb hby at_55) rfl (feq hc55).2 (by decide) (by decide) k) ?_
      refine oS (fun t k => XS.iloadN X0.here hx rfl (hb hby at_67) rfl k) ?_
      show oG _ _ _ _ _ _ _ (s₁.setTop (mkF m 68 #[.val (.long q1), .second, .val (.int p2), .val (.long q3), .second, .val (.int p4), .val (.int p5), .val (.long q7), .second, .val (.int p9), .unset, .val (.int (((p5.toUInt32 >>> ((2 : Int32) &&& 31).toUInt32).toInt32) &&& (3 : Int32))), .unset, .unset, .unset] [(.int p2)]))
      obtain ⟨_, _, ⟨T34, L34, k34, n34⟩, -, X34, ⟨Lc34, hQ34, l34, y34, z34⟩, st34⟩ := Jvm.LawKit.callS X0 hx (y := mY4) hown (mvT hZ (oW hw 20 rfl)) (mvT hZ (oW hw 21 rfl)) (mvT hZ (oW hw 22 rfl)) (mvT hZ (oW hw 23 rfl)) (by decide) (backOf (W := 0) (rm_ival l Z a0 hw [] p2 w h0 n0 O0 W ) hZ (oW hw 23 rfl) (oW hw 22 rfl) (by decide) (by decide)) (g := (mkF m 68 #[.val (.long q1), .second, .val (.int p2), .val (.long q3), .second, .val (.int p4), .val (.int p5), .val (.long q7), .second, .val (.int p9), .unset, .val (.int (((p5.toUInt32 >>> ((2 : Int32) &&& 31).toUInt32).toInt32) &&& (3 : Int32))), .unset, .unset, .unset] [(.int p2)])) rfl (by rw [hml]; rfl) (argsL := [(.int p2)]) (rest := []) (lenOf pd_6 rfl) rfl (by show 2 * 0 + _ ≤ _; exact Nat.le_of_eq rfl) (hb hby at_68) (fun _ _ => ⟨rfl, e0, (by decide : 0 + 1 ≤ _), (by decide : 0 + 1 ≤ _)⟩)
      dsimp only [Pt.U, Pt.locs, Pt.cells, Pt.slots] at X34 l34 y34 z34 st34 hQ34
      subst l34 y34 z34
      obtain ⟨r34, rfl, Nq34, K34, P34_0⟩ := hQ34
      have N34 := Fr.app N0 Nq34
      have O34 := O0.keep K34 (fun x q => absurd q List.not_mem_nil)
      refine oS (fun t k => st34 t k) ?_
      show oG _ _ _ _ _ _ _ (T34.setTop (mkF m 71 #[.val (.long q1), .second, .val (.int p2), .val (.long q3), .second, .val (.int p4), .val (.int p5), .val (.long q7), .second, .val (.int p9), .unset, .val (.int (((p5.toUInt32 >>> ((2 : Int32) &&& 31).toUInt32).toInt32) &&& (3 : Int32))), .unset, .unset, .unset] [(.ref r34)]))
      try clear st34
      refine oS (fun t k => XS.astore X34.here hx rfl (hb hby at_71) rfl rfl (l' := #[.val (.long q1), .second, .val (.int p2), .val (.long q3), .second, .val (.int p4), .val (.int p5), .val (.long q7), .second, .val (.int p9), .val (.ref r34), .val (.int (((p5.toUInt32 >>> ((2 : Int32) &&& 31).toUInt32).toInt32) &&& (3 : Int32))), .unset, .unset, .unset]) rfl k) ?_
      obtain ⟨T35, h35, X35, e35, E35, A35, D35, -, st35⟩ := newO X34 hx hZ hown (oW hw 0 rfl) (oW hw 1 rfl) (oW hw 2 rfl) rfl (g := (mkF m 73 #[.val (.long q1), .second, .val (.int p2), .val (.long q3), .second, .val (.int p4), .val (.int p5), .val (.long q7), .second, .val (.int p9), .val (.ref r34), .val (.int (((p5.toUInt32 >>> ((2 : Int32) &&& 31).toUInt32).toInt32) &&& (3 : Int32))), .unset, .unset, .unset] [])) rfl (hb hby at_73) (by decide) (by decide)
      obtain ⟨b35, g35⟩ : ∃ z, z = T34.heap.size := ⟨_, rfl⟩
      rw [← g35] at A35 D35 st35
      have gx35 : n0 ≤ b35 := Nat.le_trans (O34.1 ▸ O34.2.1) (Nat.le_of_eq g35.symm)
      have O35 := O34.ext E35
      have F_addresses_b35 : Fld Z h35 b35 "com/example/loudline/loudline/packet/UdpFlow" "addresses" "J" (.long 0) := D35 (Or.inr (oW hw 10 rfl)) (ty := .long) (by decide)
      have F_ports_b35 : Fld Z h35 b35 "com/example/loudline/loudline/packet/UdpFlow" "ports" "I" (.int 0) := D35 (Or.inr (oW hw 12 rfl)) (ty := .int) (by decide)
      refine oS (fun t k => st35 t k) ?_
      try clear st35 X34 e34
      refine oS (fun t k => XS.dup X35.here hx rfl (hb hby at_76) rfl rfl k) ?_
      show oG _ _ _ _ _ _ _ (T35.setTop (mkF m 77 #[.val (.long q1), .second, .val (.int p2), .val (.long q3), .second, .val (.int p4), .val (.int p5), .val (.long q7), .second, .val (.int p9), .val (.ref r34), .val (.int (((p5.toUInt32 >>> ((2 : Int32) &&& 31).toUInt32).toInt32) &&& (3 : Int32))), .unset, .unset, .unset] [(.ref b35), (.ref b35)]))
      refine oS (fun t k => XS.lloadN X35.here hx rfl (hb hby at_77) rfl k) ?_
      refine oS (fun t k => XS.iloadN X35.here hx rfl (hb hby at_78) rfl k) ?_
      obtain ⟨_, _, ⟨T36, L36, k36, n36⟩, -, X36, ⟨Lc36, hQ36, l36, y36, z36⟩, st36⟩ := X35.specialBack hx (y := mY0) rfl hown (mvT hZ (oW hw 3 rfl)) (mvT hZ (oW hw 4 rfl)) (mvT hZ (oW hw 5 rfl)) (by decide) (backOf (W := 1) (rm_init l Z a0 hw [] b35 q1 p2 (.long 0) (.int 0) w h35 n0 O35 W A35 gx35 F_addresses_b35 F_ports_b35) hZ (oW hw 5 rfl) (oW hw 2 rfl) (by decide) (by decide)) (g := (mkF m 79 #[.val (.long q1), .second, .val (.int p2), .val (.long q3), .second, .val (.int p4), .val (.int p5), .val (.long q7), .second, .val (.int p9), .val (.ref r34), .val (.int (((p5.toUInt32 >>> ((2 : Int32) &&& 31).toUInt32).toInt32) &&& (3 : Int32))), .unset, .unset, .unset] [(.int p2), (.long q1), (.ref b35), (.ref b35)])) rfl (by rw [hml]; rfl) (Steps.refl _) (a := b35) (argsL := [(.long q1), (.int p2)]) (rest := [(.ref b35)]) (lenOf pd_3 rfl) rfl (by show 2 * 0 + _ ≤ _; exact Nat.le_of_eq rfl) (hb hby at_79) (fun _ _ => ⟨rfl, e35, (by decide : 2 + 0 ≤ _), (by decide : 3 + 0 ≤ _)⟩)
      dsimp only [Pt.U, Pt.locs, Pt.cells, Pt.slots] at X36 l36 y36 z36 st36 hQ36
      subst l36 y36 z36
      obtain ⟨rfl, Nq36, K36, P36_0, P36_1, P36_2⟩ := hQ36
      have N36 := Fr.app N34 Nq36
      have O36 := O35.keep K36 (allS gx35 all0)
      refine oS (fun t k => st36.trans k) ?_
      show oG _ _ _ _ _ _ _ (T36.setTop (mkF m 82 #[.val (.long q1), .second, .val (.int p2), .val (.long q3), .second, .val (.int p4), .val (.int p5), .val (.long q7), .second, .val (.int p9), .val (.ref r34), .val (.int (((p5.toUInt32 >>> ((2 : Int32) &&& 31).toUInt32).toInt32) &&& (3 : Int32))), .unset, .unset, .unset] [(.ref b35)]))
      try clear st36 X35 e35
      try clear T35
      refine oS (fun t k => XS.astore X36.here hx rfl (hb hby at_82) rfl rfl (l' := #[.val (.long q1), .second, .val (.int p2), .val (.long q3), .second, .val (.int p4), .val (.int p5), .val (.long q7), .second, .val (.int p9), .val (.ref r34), .val (.int (((p5.toUInt32 >>> ((2 : Int32) &&& 31).toUInt32).toInt32) &&& (3 : Int32))), .val (.ref b35), .unset, .unset]) rfl k) ?_
      obtain ⟨T37, h37, X37, e37, E37, A37, D37, -, st37⟩ := newO X36 hx hZ hown (oW hw 0 rfl) (oW hw 1 rfl) (oW hw 2 rfl) rfl (g := (mkF m 84 #[.val (.long q1), .second, .val (.int p2), .val (.long q3), .second, .val (.int p4), .val (.int p5), .val (.long q7), .second, .val (.int p9), .val (.ref r34), .val (.int (((p5.toUInt32 >>> ((2 : Int32) &&& 31).toUInt32).toInt32) &&& (3 : Int32))), .val (.ref b35), .unset, .unset] [])) rfl (hb hby at_84) (by decide) (by decide)
      obtain ⟨b37, g37⟩ : ∃ z, z = T36.heap.size := ⟨_, rfl⟩
      rw [← g37] at A37 D37 st37
      have gx37 : n0 ≤ b37 := Nat.le_trans (O36.1 ▸ O36.2.1) (Nat.le_of_eq g37.symm)
      have ne_b35_b37 : b35 ≠ b37 := Nat.ne_of_lt (Nat.lt_of_lt_of_le P36_0.lt (Nat.le_of_eq g37.symm))
      have O37 := O36.ext E37
      have F_addresses_b37 : Fld Z h37 b37 "com/example/loudline/loudline/packet/UdpFlow" "addresses" "J" (.long 0) := D37 (Or.inr (oW hw 10 rfl)) (ty := .long) (by decide)
      have F_ports_b37 : Fld Z h37 b37 "com/example/loudline/loudline/packet/UdpFlow" "ports" "I" (.int 0) := D37 (Or.inr (oW hw 12 rfl)) (ty := .int) (by decide)
      refine oS (fun t k => st37 t k) ?_
      try clear st37 X36 e36
      refine oS (fun t k => XS.dup X37.here hx rfl (hb hby at_87) rfl rfl k) ?_
      show oG _ _ _ _ _ _ _ (T37.setTop (mkF m 88 #[.val (.long q1), .second, .val (.int p2), .val (.long q3), .second, .val (.int p4), .val (.int p5), .val (.long q7), .second, .val (.int p9), .val (.ref r34), .val (.int (((p5.toUInt32 >>> ((2 : Int32) &&& 31).toUInt32).toInt32) &&& (3 : Int32))), .val (.ref b35), .unset, .unset] [(.ref b37), (.ref b37)]))
      refine oS (fun t k => XS.lload X37.here hx rfl (hb hby at_88) rfl k) ?_
      refine oS (fun t k => XS.iload X37.here hx rfl (hb hby at_90) rfl k) ?_
      obtain ⟨_, _, ⟨T38, L38, k38, n38⟩, -, X38, ⟨Lc38, hQ38, l38, y38, z38⟩, st38⟩ := X37.specialBack hx (y := mY0) rfl hown (mvT hZ (oW hw 3 rfl)) (mvT hZ (oW hw 4 rfl)) (mvT hZ (oW hw 5 rfl)) (by decide) (backOf (W := 1) (rm_init l Z a0 hw [] b37 q7 p9 (.long 0) (.int 0) w h37 n0 O37 W A37 gx37 F_addresses_b37 F_ports_b37) hZ (oW hw 5 rfl) (oW hw 2 rfl) (by decide) (by decide)) (g := (mkF m 92 #[.val (.long q1), .second, .val (.int p2), .val (.long q3), .second, .val (.int p4), .val (.int p5), .val (.long q7), .second, .val (.int p9), .val (.ref r34), .val (.int (((p5.toUInt32 >>> ((2 : Int32) &&& 31).toUInt32).toInt32) &&& (3 : Int32))), .val (.ref b35), .unset, .unset] [(.int p9), (.long q7), (.ref b37), (.ref b37)])) rfl (by rw [hml]; rfl) (Steps.refl _) (a := b37) (argsL := [(.long q7), (.int p9)]) (rest := [(.ref b37)]) (lenOf pd_3 rfl) rfl (by show 2 * 0 + _ ≤ _; exact Nat.le_of_eq rfl) (hb hby at_92) (fun _ _ => ⟨rfl, e37, (by decide : 3 + 0 ≤ _), (by decide : 5 + 0 ≤ _)⟩)
      dsimp only [Pt.U, Pt.locs, Pt.cells, Pt.slots] at X38 l38 y38 z38 st38 hQ38
      subst l38 y38 z38
      obtain ⟨rfl, Nq38, K38, P38_0, P38_1, P38_2⟩ := hQ38
      have N38 := Fr.app N36 Nq38
      have O38 := O37.keep K38 (allS gx37 all0)
      refine oS (fun t k => st38.trans k) ?_
      show oG _ _ _ _ _ _ _ (T38.setTop (mkF m 95 #[.val (.long q1), .second, .val (.int p2), .val (.long q3), .second, .val (.int p4), .val (.int p5), .val (.long q7), .second, .val (.int p9), .val (.ref r34), .val (.int (((p5.toUInt32 >>> ((2 : Int32) &&& 31).toUInt32).toInt32) &&& (3 : Int32))), .val (.ref b35), .unset, .unset] [(.ref b37)]))
      try clear st38 X37 e37
      try clear T37
      refine oS (fun t k => XS.astore X38.here hx rfl (hb hby at_95) rfl rfl (l' := #[.val (.long q1), .second, .val (.int p2), .val (.long q3), .second, .val (.int p4), .val (.int p5), .val (.long q7), .second, .val (.int p9), .val (.ref r34), .val (.int (((p5.toUInt32 >>> ((2 : Int32) &&& 31).toUInt32).toInt32) &&& (3 : Int32))), .val (.ref b35), .val (.ref b37), .unset]) rfl k) ?_
      refine oS (fun t k => XS.lloadN X38.here hx rfl (hb hby at_97) rfl k) ?_
      refine oS (fun t k => XS.lload X38.here hx rfl (hb hby at_98) rfl k) ?_
      show oG _ _ _ _ _ _ _ (T38.setTop (mkF m 100 #[.val (.long q1), .second, .val (.int p2), .val (.long q3), .second, .val (.int p4), .val (.int p5), .val (.long q7), .second, .val (.int p9), .val (.ref r34), .val (.int (((p5.toUInt32 >>> ((2 : Int32) &&& 31).toUInt32).toInt32) &&& (3 : Int32))), .val (.ref b35), .val (.ref b37), .unset] [(.long q7), (.long q1)]))
      refine oS (fun t k => XS.lcmp X38.here hx rfl (hb hby at_100) rfl k) ?_
      by_cases hc101 : q1 = q7
      · refine oS (fun t k => XS.ifNo X38.here hx rfl (hb hby at_101) rfl ((if0 _ _).trans (teq ((lw_eq q1 q7).mpr hc101)).2) k) ?_
        refine oS (fun t k => XS.iloadN X38.here hx rfl (hb hby at_104) rfl k) ?_
        show oG _ _ _ _ _ _ _ (T38.setTop (mkF m 105 #[.val (.long q1), .second, .val (.int p2), .val (.long q3), .second, .val (.int p4), .val (.int p5), .val (.long q7), .second, .val (.int p9), .val (.ref r34), .val (.int (((p5.toUInt32 >>> ((2 : Int32) &&& 31).toUInt32).toInt32) &&& (3 : Int32))), .val (.ref b35), .val (.ref b37), .unset] [(.int p2)]))
        refine oS (fun t k => XS.iload X38.here hx rfl (hb hby at_105) rfl k) ?_
        by_cases hc107 : p2 = p9
        · refine oS (fun t k => XS.icmpNo X38.here hx rfl (hb hby at_107) rfl (teq hc107).2 k) ?_
          refine oS (fun t k => oIc li_1 X38.here hx rfl (hb hby at_110) k) ?_
          show oG _ _ _ _ _ _ _ (T38.setTop (mkF m 111 #[.val (.long q1), .second, .val (.int p2), .val (.long q3), .second, .val (.int p4), .val (.int p5), .val (.long q7), .second, .val (.int p9), .val (.ref r34), .val (.int (((p5.toUInt32 >>> ((2 : Int32) &&& 31).toUInt32).toInt32) &&& (3 : Int32))), .val (.ref b35), .val (.ref b37), .unset] [(.int 1)]))
          refine oS (fun t k => XS.goto X38.here hx rfl (pc0 := 111) (pc' := 115) rfl (hb hby at_111) (by decide) (by decide) k) ?_
          refine oS (fun t k => XS.istore X38.here hx rfl (hb hby at_115) rfl (l' := #[.val (.long q1), .second, .val (.int p2), .val (.long q3), .second, .val (.int p4), .val (.int p5), .val (.long q7), .second, .val (.int p9), .val (.ref r34), .val (.int (((p5.toUInt32 >>> ((2 : Int32) &&& 31).toUInt32).toInt32) &&& (3 : Int32))), .val (.ref b35), .val (.ref b37), .val (.int 1)]) rfl k) ?_
          refine oS (fun t k => XS.aload X38.here hx rfl (hb hby at_117) rfl rfl k) ?_
          show oG _ _ _ _ _ _ _ (T38.setTop (mkF m 119 #[.val (.long q1), .second, .val (.int p2), .val (.long q3), .second, .val (.int p4), .val (.int p5), .val (.long q7), .second, .val (.int p9), .val (.ref r34), .val (.int (((p5.toUInt32 >>> ((2 : Int32) &&& 31).toUInt32).toInt32) &&& (3 : Int32))), .val (.ref b35), .val (.ref b37), .val (.int 1)] [(.ref b35)]))
          refine oS (fun t k => XS.aload X38.here hx rfl (hb hby at_119) rfl rfl k) ?_
          obtain ⟨cq39, kq39, q39a, q39b, q39c⟩ := isOf hZ rfl ((P36_0.ext E37).keep K38)
          obtain ⟨_, _, ⟨T39, L39, k39, n39⟩, -, X39, ⟨Lc39, hQ39, l39, y39, z39⟩, st39⟩ := X38.virtualBack hx (y := mY6) (z := mY6) hown (mvT hZ (oW hw 13 rfl)) (mvT hZ (oW hw 14 rfl)) (notFace_of_selects (args := #[]) (mvT hZ (oW hw 16 rfl))) (mvT hZ (oW hw 16 rfl)) (mvT hZ (oW hw 15 rfl)) (by decide) (backOf (W := 0) (rm_eq_11 l Z a0 hw [] b35 b37 q1 p2 q7 p9  T38.heap n0 O38  P38_0 ((P36_1.ext E37).keep K38 (fun q => ne_b35_b37 (List.mem_singleton.mp q))) ((P36_2.ext E37).keep K38 (fun q => ne_b35_b37 (List.mem_singleton.mp q))) P38_1 P38_2 (Eq.symm hc101) (Eq.symm hc107)) hZ (oW hw 17 rfl) (oW hw 2 rfl) (by decide) (by decide)) q39a q39c (g := (mkF m 121 #[.val (.long q1), .second, .val (.int p2), .val (.long q3), .second, .val (.int p4), .val (.int p5), .val (.long q7), .second, .val (.int p9), .val (.ref r34), .val (.int (((p5.toUInt32 >>> ((2 : Int32) &&& 31).toUInt32).toInt32) &&& (3 : Int32))), .val (.ref b35), .val (.ref b37), .val (.int 1)] [(.ref b37), (.ref b35)])) rfl (by rw [hml]; rfl) (Steps.refl _) (argsL := [(.ref b37)]) (rest := []) (lenOf pd_4 rfl) rfl (by show 2 * 0 + _ ≤ _; exact Nat.le_of_eq rfl) (hb hby at_121) (fun _ _ => ⟨rfl, rfl, (by decide : 3 + 0 ≤ _), (by decide : 5 + 0 ≤ _)⟩)
          dsimp only [Pt.U, Pt.locs, Pt.cells, Pt.slots] at X39 l39 y39 z39 st39 hQ39
          subst l39 y39 z39
          obtain ⟨rfl, Nq39, e39⟩ := hQ39
          have N39 := Fr.app N38 Nq39
          refine oS (fun t k => st39.trans k) ?_
          show oG _ _ _ _ _ _ _ (T39.setTop (mkF m 124 #[.val (.long q1), .second, .val (.int p2), .val (.long q3), .second, .val (.int p4), .val (.int p5), .val (.long q7), .second, .val (.int p9), .val (.ref r34), .val (.int (((p5.toUInt32 >>> ((2 : Int32) &&& 31).toUInt32).toInt32) &&& (3 : Int32))), .val (.ref b35), .val (.ref b37), .val (.int 1)] [(.int 1)]))
          try clear st39 X38 e38
          refine oS (fun t k => XS.iload X39.here hx rfl (hb hby at_124) rfl k) ?_
          refine oS (fun t k => XS.icmpNo X39.here hx rfl (hb hby at_126) rfl (teq (by decide)).2 k) ?_
          refine oS (fun t k => XS.aload X39.here hx rfl (hb hby at_129) rfl rfl k) ?_
          show oG _ _ _ _ _ _ _ (T39.setTop (mkF m 131 #[.val (.long q1), .second, .val (.int p2), .val (.long q3), .second, .val (.int p4), .val (.int p5), .val (.long q7), .second, .val (.int p9), .val (.ref r34), .val (.int (((p5.toUInt32 >>> ((2 : Int32) &&& 31).toUInt32).toInt32) &&& (3 : Int32))), .val (.ref b35), .val (.ref b37), .val (.int 1)] [(.ref b37)]))
          refine oS (fun t k => XS.aload X39.here hx rfl (hb hby at_131) rfl rfl k) ?_
          obtain ⟨cq40, kq40, q40a, q40b, q40c⟩ := isOf hZ e39 P38_0
          obtain ⟨_, _, ⟨T40, L40, k40, n40⟩, -, X40, ⟨Lc40, hQ40, l40, y40, z40⟩, st40⟩ := X39.virtualBack hx (y := mY6) (z := mY6) hown (mvT hZ (oW hw 13 rfl)) (mvT hZ (oW hw 14 rfl)) (notFace_of_selects (args := #[]) (mvT hZ (oW hw 16 rfl))) (mvT hZ (oW hw 16 rfl)) (mvT hZ (oW hw 15 rfl)) (by decide) (backOf (W := 0) (rm_eq_11 l Z a0 hw [] b37 b35 q7 p9 q1 p2  T38.heap n0 O38  ((P36_0.ext E37).keep K38) P38_1 P38_2 ((P36_1.ext E37).keep K38 (fun q => ne_b35_b37 (List.mem_singleton.mp q))) ((P36_2.ext E37).keep K38 (fun q => ne_b35_b37 (List.mem_singleton.mp q))) hc101 hc107) hZ (oW hw 17 rfl) (oW hw 2 rfl) (by decide) (by decide)) q40a q40c (g := (mkF m 133 #[.val (.long q1), .second, .val (.int p2), .val (.long q3), .second, .val (.int p4), .val (.int p5), .val (.long q7), .second, .val (.int p9), .val (.ref r34), .val (.int (((p5.toUInt32 >>> ((2 : Int32) &&& 31).toUInt32).toInt32) &&& (3 : Int32))), .val (.ref b35), .val (.ref b37), .val (.int 1)] [(.ref b35), (.ref b37)])) rfl (by rw [hml]; rfl) (Steps.refl _) (argsL := [(.ref b35)]) (rest := []) (lenOf pd_4 rfl) rfl (by show 2 * 0 + _ ≤ _; exact Nat.le_of_eq rfl) (hb hby at_133) (fun _ _ => ⟨rfl, e39, (by decide : 3 + 0 ≤ _), (by decide : 5 + 0 ≤ _)⟩)
          dsimp only [Pt.U, Pt.locs, Pt.cells, Pt.slots] at X40 l40 y40 z40 st40 hQ40
          subst l40 y40 z40
          obtain ⟨rfl, Nq40, e40⟩ := hQ40
          have N40 := Fr.app N39 Nq40
          refine oS (fun t k => st40.trans k) ?_
          show oG _ _ _ _ _ _ _ (T40.setTop (mkF m 136 #[.val (.long q1), .second, .val (.int p2), .val (.long q3), .second, .val (.int p4), .val (.int p5), .val (.long q7), .second, .val (.int p9), .val (.ref r34), .val (.int (((p5.toUInt32 >>> ((2 : Int32) &&& 31).toUInt32).toInt32) &&& (3 : Int32))), .val (.ref b35), .val (.ref b37), .val (.int 1)] [(.int 1)]))
          try clear st40 X39 e39
          refine oS (fun t k => XS.iload X40.here hx rfl (hb hby at_136) rfl k) ?_
          refine oS (fun t k => XS.icmpNo X40.here hx rfl (hb hby at_138) rfl (teq (by decide)).2 k) ?_
          refine oS (fun t k => XS.aload X40.here hx rfl (hb hby at_141) rfl rfl k) ?_
          show oG _ _ _ _ _ _ _ (T40.setTop (mkF m 143 #[.val (.long q1), .second, .val (.int p2), .val (.long q3), .second, .val (.int p4), .val (.int p5), .val (.long q7), .second, .val (.int p9), .val (.ref r34), .val (.int (((p5.toUInt32 >>> ((2 : Int32) &&& 31).toUInt32).toInt32) &&& (3 : Int32))), .val (.ref b35), .val (.ref b37), .val (.int 1)] [(.ref b35)]))
          refine oS (fun t k => XS.aload X40.here hx rfl (hb hby at_143) rfl rfl k) ?_
          obtain ⟨cq41, kq41, q41a, q41b, q41c⟩ := isOf hZ e40 ((P36_0.ext E37).keep K38)
          obtain ⟨_, _, ⟨T41, L41, k41, n41⟩, -, X41, ⟨Lc41, hQ41, l41, y41, z41⟩, st41⟩ := X40.virtualBack hx (y := mY6) (z := mY6) hown (mvT hZ (oW hw 13 rfl)) (mvT hZ (oW hw 14 rfl)) (notFace_of_selects (args := #[]) (mvT hZ (oW hw 16 rfl))) (mvT hZ (oW hw 16 rfl)) (mvT hZ (oW hw 15 rfl)) (by decide) (backOf (W := 0) (rm_eq_s l Z a0 hw [] b35 q1 p2  T38.heap n0 O38  ((P36_0.ext E37).keep K38) ((P36_1.ext E37).keep K38 (fun q => ne_b35_b37 (List.mem_singleton.mp q))) ((P36_2.ext E37).keep K38 (fun q => ne_b35_b37 (List.mem_singleton.mp q)))) hZ (oW hw 17 rfl) (oW hw 2 rfl) (by decide) (by decide)) q41a q41c (g := (mkF m 145 #[.val (.long q1), .second, .val (.int p2), .val (.long q3), .second, .val (.int p4), .val (.int p5), .val (.long q7), .second, .val (.int p9), .val (.ref r34), .val (.int (((p5.toUInt32 >>> ((2 : Int32) &&& 31).toUInt32).toInt32) &&& (3 : Int32))), .val (.ref b35), .val (.ref b37), .val (.int 1)] [(.ref b35), (.ref b35)])) rfl (by rw [hml]; rfl) (Steps.refl _) (argsL := [(.ref b35)]) (rest := []) (lenOf pd_4 rfl) rfl (by show 2 * 0 + _ ≤ _; exact Nat.le_of_eq rfl) (hb hby at_145) (fun _ _ => ⟨rfl, e40, (by decide : 3 + 0 ≤ _), (by decide : 5 + 0 ≤ _)⟩)
          dsimp only [Pt.U, Pt.locs, Pt.cells, Pt.slots] at X41 l41 y41 z41 st41 hQ41
          subst l41 y41 z41
          obtain ⟨rfl, Nq41, e41⟩ := hQ41
          have N41 := Fr.app N40 Nq41
          refine oS (fun t k => st41.trans k) ?_
          show oG _ _ _ _ _ _ _ (T41.setTop (mkF m 148 #[.val (.long q1), .second, .val (.int p2), .val (.long q3), .second, .val (.int p4), .val (.int p5), .val (.long q7), .second, .val (.int p9), .val (.ref r34), .val (.int (((p5.toUInt32 >>> ((2 : Int32) &&& 31).toUInt32).toInt32) &&& (3 : Int32))), .val (.ref b35), .val (.ref b37), .val (.int 1)] [(.int 1)]))
          try clear st41 X40 e40
          refine oS (fun t k => XS.ifNo X41.here hx rfl (hb hby at_148) rfl ((if0 _ _).trans (feq (by decide)).1) k) ?_
          refine oS (fun t k => XS.aload X41.here hx rfl (hb hby at_151) rfl rfl k) ?_
          refine oS (fun t k => XS.aload X41.here hx rfl (hb hby at_153) rfl rfl k) ?_
          show oG _ _ _ _ _ _ _ (T41.setTop (mkF m 155 #[.val (.long q1), .second, .val (.int p2), .val (.long q3), .second, .val (.int p4), .val (.int p5), .val (.long q7), .second, .val (.int p9), .val (.ref r34), .val (.int (((p5.toUInt32 >>> ((2 : Int32) &&& 31).toUInt32).toInt32) &&& (3 : Int32))), .val (.ref b35), .val (.ref b37), .val (.int 1)] [(.ref r34), (.ref b35)]))
          obtain ⟨cq42, kq42, q42a, q42b, q42c⟩ := isOf hZ e41 ((P36_0.ext E37).keep K38)
          obtain ⟨_, _, ⟨T42, L42, k42, n42⟩, -, X42, ⟨Lc42, hQ42, l42, y42, z42⟩, st42⟩ := X41.virtualBack hx (y := mY6) (z := mY6) hown (mvT hZ (oW hw 13 rfl)) (mvT hZ (oW hw 14 rfl)) (notFace_of_selects (args := #[]) (mvT hZ (oW hw 16 rfl))) (mvT hZ (oW hw 16 rfl)) (mvT hZ (oW hw 15 rfl)) (by decide) (backOf (W := 0) (rm_eq_eger l Z a0 hw [] b35 r34  T38.heap n0 O38  ((((P34_0.ext E35).keep K36).ext E37).keep K38)) hZ (oW hw 17 rfl) (oW hw 2 rfl) (by decide) (by decide)) q42a q42c (g := (mkF m 155 #[.val (.long q1), .second, .val (.int p2), .val (.long q3), .second, .val (.int p4), .val (.int p5), .val (.long q7), .second, .val (.int p9), .val (.ref r34), .val (.int (((p5.toUInt32 >>> ((2 : Int32) &&& 31).toUInt32).toInt32) &&& (3 : Int32))), .val (.ref b35), .val (.ref b37), .val (.int 1)] [(.ref r34), (.ref b35)])) rfl (by rw [hml]; rfl) (Steps.refl _) (argsL := [(.ref r34)]) (rest := []) (lenOf pd_4 rfl) rfl (by show 2 * 0 + _ ≤ _; exact Nat.le_of_eq rfl) (hb hby at_155) (fun _ _ => ⟨rfl, e41, (by decide : 3 + 0 ≤ _), (by decide : 5 + 0 ≤ _)⟩)
          dsimp only [Pt.U, Pt.locs, Pt.cells, Pt.slots] at X42 l42 y42 z42 st42 hQ42
          subst l42 y42 z42
          obtain ⟨rfl, Nq42, e42⟩ := hQ42
          have N42 := Fr.app N41 Nq42
          refine oS (fun t k => st42.trans k) ?_
          show oG _ _ _ _ _ _ _ (T42.setTop (mkF m 158 #[.val (.long q1), .second, .val (.int p2), .val (.long q3), .second, .val (.int p4), .val (.int p5), .val (.long q7), .second, .val (.int p9), .val (.ref r34), .val (.int (((p5.toUInt32 >>> ((2 : Int32) &&& 31).toUInt32).toInt32) &&& (3 : Int32))), .val (.ref b35), .val (.ref b37), .val (.int 1)] [(.int 0)]))
          try clear st42 X41 e41
          refine oS (fun t k => XS.ifNo X42.here hx rfl (hb hby at_158) rfl ((if0 _ _).trans (teq (by decide)).2) k) ?_
          refine oS (fun t k => oIc li_1 X42.here hx rfl (hb hby at_161) k) ?_
          refine oS (fun t k => XS.goto X42.here hx rfl (pc0 := 162) (pc' := 166) rfl (hb hby at_162) (by decide) (by decide) k) ?_
          show oG _ _ _ _ _ _ _ (T42.setTop (mkF m 166 #[.val (.long q1), .second, .val (.int p2), .val (.long q3), .second, .val (.int p4), .val (.int p5), .val (.long q7), .second, .val (.int p9), .val (.ref r34), .val (.int (((p5.toUInt32 >>> ((2 : Int32) &&& 31).toUInt32).toInt32) &&& (3 : Int32))), .val (.ref b35), .val (.ref b37), .val (.int 1)] [(.int 1)]))
          exact own_ret (v := some (.int 1)) X42 (fun h => by rw [Bd.returns] at h; cases h) Bd.notSynchronized (fun fs hr => retN X42 hx (t := .boolean) Bd.returns (by simp) (hb hby at_166) hr) (by rw [e42]; exact ⟨rfl, N42⟩) (by decide) (by decide)
        · refine oS (fun t k => XS.icmpYes X38.here hx rfl (pc0 := 107) (pc' := 114) rfl (hb hby at_107) rfl (feq hc107).2 (by decide) (by decide) k) ?_
          refine oS (fun t k => oIc li_0 X38.here hx rfl (hb hby at_114) k) ?_
          show oG _ _ _ _ _ _ _ (T38.setTop (mkF m 115 #[.val (.long q1), .second, .val (.int p2), .val (.long q3), .second, .val (.int p4), .val (.int p5), .val (.long q7), .second, .val (.int p9), .val (.ref r34), .val (.int (((p5.toUInt32 >>> ((2 : Int32) &&& 31).toUInt32).toInt32) &&& (3 : Int32))), .val (.ref b35), .val (.ref b37), .unset] [(.int 0)]))
          refine oS (fun t k => XS.istore X38.here hx rfl (hb hby at_115) rfl (l' := #[.val (.long q1), .second, .val (.int p2), .val (.long q3), .second, .val (.int p4), .val (.int p5), .val (.long q7), .second, .val (.int p9), .val (.ref r34), .val (.int (((p5.toUInt32 >>> ((2 : Int32) &&& 31).toUInt32).toInt32) &&& (3 : Int32))), .val (.ref b35), .val (.ref b37), .val (.int 0)]) rfl k) ?_
          refine oS (fun t k => XS.aload X38.here hx rfl (hb hby at_117) rfl rfl k) ?_
          refine oS (fun t k => XS.aload X38.here hx rfl (hb hby at_119) rfl rfl k) ?_
          show oG _ _ _ _ _ _ _ (T38.setTop (mkF m 121 #[.val (.long q1), .second, .val (.int p2), .val (.long q3), .second, .val (.int p4), .val (.int p5), .val (.long q7), .second, .val (.int p9), .val (.ref r34), .val (.int (((p5.toUInt32 >>> ((2 : Int32) &&& 31).toUInt32).toInt32) &&& (3 : Int32))), .val (.ref b35), .val (.ref b37), .val (.int 0)] [(.ref b37), (.ref b35)]))
          obtain ⟨cq43, kq43, q43a, q43b, q43c⟩ := isOf hZ rfl ((P36_0.ext E37).keep K38)
          obtain ⟨_, _, ⟨T43, L43, k43, n43⟩, -, X43, ⟨Lc43, hQ43, l43, y43, z43⟩, st43⟩ := X38.virtualBack hx (y := mY6) (z := mY6) hown (mvT hZ (oW hw 13 rfl)) (mvT hZ (oW hw 14 rfl)) (notFace_of_selects (args := #[]) (mvT hZ (oW hw 16 rfl))) (mvT hZ (oW hw 16 rfl)) (mvT hZ (oW hw 15 rfl)) (by decide) (backOf (W := 0) (rm_eq_10 l Z a0 hw [] b35 b37 q1 p2 q7 p9  T38.heap n0 O38  P38_0 ((P36_1.ext E37).keep K38 (fun q => ne_b35_b37 (List.mem_singleton.mp q))) ((P36_2.ext E37).keep K38 (fun q => ne_b35_b37 (List.mem_singleton.mp q))) P38_1 P38_2 (Eq.symm hc101) (fun q => hc107 (Eq.symm q))) hZ (oW hw 17 rfl) (oW hw 2 rfl) (by decide) (by decide)) q43a q43c (g := (mkF m 121 #[.val (.long q1), .second, .val (.int p2), .val (.long q3), .second, .val (.int p4), .val (.int p5), .val (.long q7), .second, .val (.int p9), .val (.ref r34), .val (.int (((p5.toUInt32 >>> ((2 : Int32) &&& 31).toUInt32).toInt32) &&& (3 : Int32))), .val (.ref b35), .val (.ref b37), .val (.int 0)] [(.ref b37), (.ref b35)])) rfl (by rw [hml]; rfl) (Steps.refl _) (argsL := [(.ref b37)]) (rest := []) (lenOf pd_4 rfl) rfl (by show 2 * 0 + _ ≤ _; exact Nat.le_of_eq rfl) (hb hby at_121) (fun _ _ => ⟨rfl, rfl, (by decide : 3 + 0 ≤ _), (by decide : 5 + 0 ≤ _)⟩)
          dsimp only [Pt.U, Pt.locs, Pt.cells, Pt.slots] at X43 l43 y43 z43 st43 hQ43
          subst l43 y43 z43
          obtain ⟨rfl, Nq43, e43⟩ := hQ43
          have N43 := Fr.app N38 Nq43
          refine oS (fun t k => st43.trans k) ?_
          show oG _ _ _ _ _ _ _ (T43.setTop (mkF m 124 #[.val (.long q1), .second, .val (.int p2), .val (.long q3), .second, .val (.int p4), .val (.int p5), .val (.long q7), .second, .val (.int p9), .val (.ref r34), .val (.int (((p5.toUInt32 >>> ((2 : Int32) &&& 31).toUInt32).toInt32) &&& (3 : Int32))), .val (.ref b35), .val (.ref b37), .val (.int 0)] [(.int 0)]))
          try clear st43 X38 e38
          refine oS (fun t k => XS.iload X43.here hx rfl (hb hby at_124) rfl k) ?_
          refine oS (fun t k => XS.icmpNo X43.here hx rfl (hb hby at_126) rfl (teq (by decide)).2 k) ?_
          refine oS (fun t k => XS.aload X43.here hx rfl (hb hby at_129) rfl rfl k) ?_
          show oG _ _ _ _ _ _ _ (T43.setTop (mkF m 131 #[.val (.long q1), .second, .val (.int p2), .val (.long q3), .second, .val (.int p4), .val (.int p5), .val (.long q7), .second, .val (.int p9), .val (.ref r34), .val (.int (((p5.toUInt32 >>> ((2 : Int32) &&& 31).toUInt32).toInt32) &&& (3 : Int32))), .val (.ref b35), .val (.ref b37), .val (.int 0)] [(.ref b37)]))
          refine oS (fun t k => XS.aload X43.here hx rfl (hb hby at_131) rfl rfl k) ?_
          obtain ⟨cq44, kq44, q44a, q44b, q44c⟩ := isOf hZ e43 P38_0
          obtain ⟨_, _, ⟨T44, L44, k44, n44⟩, -, X44, ⟨Lc44, hQ44, l44, y44, z44⟩, st44⟩ := X43.virtualBack hx (y := mY6) (z := mY6) hown (mvT hZ (oW hw 13 rfl)) (mvT hZ (oW hw 14 rfl)) (notFace_of_selects (args := #[]) (mvT hZ (oW hw 16 rfl))) (mvT hZ (oW hw 16 rfl)) (mvT hZ (oW hw 15 rfl)) (by decide) (backOf (W := 0) (rm_eq_10 l Z a0 hw [] b37 b35 q7 p9 q1 p2  T38.heap n0 O38  ((P36_0.ext E37).keep K38) P38_1 P38_2 ((P36_1.ext E37).keep K38 (fun q => ne_b35_b37 (List.mem_singleton.mp q))) ((P36_2.ext E37).keep K38 (fun q => ne_b35_b37 (List.mem_singleton.mp q))) hc101 hc107) hZ (oW hw 17 rfl) (oW hw 2 rfl) (by decide) (by decide)) q44a q44c (g := (mkF m 133 #[.val (.long q1), .second, .val (.int p2), .val (.long q3), .second, .val (.int p4), .val (.int p5), .val (.long q7), .second, .val (.int p9), .val (.ref r34), .val (.int (((p5.toUInt32 >>> ((2 : Int32) &&& 31).toUInt32).toInt32) &&& (3 : Int32))), .val (.ref b35), .val (.ref b37), .val (.int 0)] [(.ref b35), (.ref b37)])) rfl (by rw [hml]; rfl) (Steps.refl _) (argsL := [(.ref b35)]) (rest := []) (lenOf pd_4 rfl) rfl (by show 2 * 0 + _ ≤ _; exact Nat.le_of_eq rfl) (hb hby at_133) (fun _ _ => ⟨rfl, e43, (by decide : 3 + 0 ≤ _), (by decide : 5 + 0 ≤ _)⟩)
          dsimp only [Pt.U, Pt.locs, Pt.cells, Pt.slots] at X44 l44 y44 z44 st44 hQ44
          subst l44 y44 z44
          obtain ⟨rfl, Nq44, e44⟩ := hQ44
          have N44 := Fr.app N43 Nq44
          refine oS (fun t k => st44.trans k) ?_
          show oG _ _ _ _ _ _ _ (T44.setTop (mkF m 136 #[.val (.long q1), .second, .val (.int p2), .val (.long q3), .second, .val (.int p4), .val (.int p5), .val (.long q7), .second, .val (.int p9), .val (.ref r34), .val (.int (((p5.toUInt32 >>> ((2 : Int32) &&& 31).toUInt32).toInt32) &&& (3 : Int32))), .val (.ref b35), .val (.ref b37), .val (.int 0)] [(.int 0)]))
          try clear st44 X43 e43
          refine oS (fun t k => XS.iload X44.here hx rfl (hb hby at_136) rfl k) ?_
          refine oS (fun t k => XS.icmpNo X44.here hx rfl (hb hby at_138) rfl (teq (by decide)).2 k) ?_
          refine oS (fun t k => XS.aload X44.here hx rfl (hb hby at_141) rfl rfl k) ?_
          show oG _ _ _ _ _ _ _ (T44.setTop (mkF m 143 #[.val (.long q1), .second, .val (.int p2), .val (.long q3), .second, .val (.int p4), .val (.int p5), .val (.long q7), .second, .val (.int p9), .val (.ref r34), .val (.int (((p5.toUInt32 >>> ((2 : Int32) &&& 31).toUInt32).toInt32) &&& (3 : Int32))), .val (.ref b35), .val (.ref b37), .val (.int 0)] [(.ref b35)]))
          refine oS (fun t k => XS.aload X44.here hx rfl (hb hby at_143) rfl rfl k) ?_
          obtain ⟨cq45, kq45, q45a, q45b, q45c⟩ := isOf hZ e44 ((P36_0.ext E37).keep K38)
          obtain ⟨_, _, ⟨T45, L45, k45, n45⟩, -, X45, ⟨Lc45, hQ45, l45, y45, z45⟩, st45⟩ := X44.virtualBack hx (y := mY6) (z := mY6) hown (mvT hZ (oW hw 13 rfl)) (mvT hZ (oW hw 14 rfl)) (notFace_of_selects (args := #[]) (mvT hZ (oW hw 16 rfl))) (mvT hZ (oW hw 16 rfl)) (mvT hZ (oW hw 15 rfl)) (by decide) (backOf (W := 0) (rm_eq_s l Z a0 hw [] b35 q1 p2  T38.heap n0 O38  ((P36_0.ext E37).keep K38) ((P36_1.ext E37).keep K38 (fun q => ne_b35_b37 (List.mem_singleton.mp q))) ((P36_2.ext E37).keep K38 (fun q => ne_b35_b37 (List.mem_singleton.mp q)))) hZ (oW hw 17 rfl) (oW hw 2 rfl) (by decide) (by decide)) q45a q45c (g := (mkF m 145 #[.val (.long q1), .second, .val (.int p2), .val (.long q3), .second, .val (.int p4), .val (.int p5), .val (.long q7), .second, .val (.int p9), .val (.ref r34), .val (.int (((p5.toUInt32 >>> ((2 : Int32) &&& 31).toUInt32).toInt32) &&& (3 : Int32))), .val (.ref b35), .val (.ref b37), .val (.int 0)] [(.ref b35), (.ref b35)])) rfl (by rw [hml]; rfl) (Steps.refl _) (argsL := [(.ref b35)]) (rest := []) (lenOf pd_4 rfl) rfl (by show 2 * 0 + _ ≤ _; exact Nat.le_of_eq rfl) (hb hby at_145) (fun _ _ => ⟨rfl, e44, (by decide : 3 + 0 ≤ _), (by decide : 5 + 0 ≤ _)⟩)
          dsimp only [Pt.U, Pt.locs, Pt.cells, Pt.slots] at X45 l45 y45 z45 st45 hQ45
          subst l45 y45 z45
          obtain ⟨rfl, Nq45, e45⟩ := hQ45
          have N45 := Fr.app N44 Nq45
          refine oS (fun t k => st45.trans k) ?_
          show oG _ _ _ _ _ _ _ (T45.setTop (mkF m 148 #[.val (.long q1), .second, .val (.int p2), .val (.long q3), .second, .val (.int p4), .val (.int p5), .val (.long q7), .second, .val (.int p9), .val (.ref r34), .val (.int (((p5.toUInt32 >>> ((2 : Int32) &&& 31).toUInt32).toInt32) &&& (3 : Int32))), .val (.ref b35), .val (.ref b37), .val (.int 0)] [(.int 1)]))
          try clear st45 X44 e44
          refine oS (fun t k => XS.ifNo X45.here hx rfl (hb hby at_148) rfl ((if0 _ _).trans (feq (by decide)).1) k) ?_
          refine oS (fun t k => XS.aload X45.here hx rfl (hb hby at_151) rfl rfl k) ?_
          refine oS (fun t k => XS.aload X45.here hx rfl (hb hby at_153) rfl rfl k) ?_
          show oG _ _ _ _ _ _ _ (T45.setTop (mkF m 155 #[.val (.long q1), .second, .val (.int p2), .val (.long q3), .second, .val (.int p4), .val (.int p5), .val (.long q7), .second, .val (.int p9), .val (.ref r34), .val (.int (((p5.toUInt32 >>> ((2 : Int32) &&& 31).toUInt32).toInt32) &&& (3 : Int32))), .val (.ref b35), .val (.ref b37), .val (.int 0)] [(.ref r34), (.ref b35)]))
          obtain ⟨cq46, kq46, q46a, q46b, q46c⟩ := isOf hZ e45 ((P36_0.ext E37).keep K38)
          obtain ⟨_, _, ⟨T46, L46, k46, n46⟩, -, X46, ⟨Lc46, hQ46, l46, y46, z46⟩, st46⟩ := X45.virtualBack hx (y := mY6) (z := mY6) hown (mvT hZ (oW hw 13 rfl)) (mvT hZ (oW hw 14 rfl)) (notFace_of_selects (args := #[]) (mvT hZ (oW hw 16 rfl))) (mvT hZ (oW hw 16 rfl)) (mvT hZ (oW hw 15 rfl)) (by decide) (backOf (W := 0) (rm_eq_eger l Z a0 hw [] b35 r34  T38.heap n0 O38  ((((P34_0.ext E35).keep K36).ext E37).keep K38)) hZ (oW hw 17 rfl) (oW hw 2 rfl) (by decide) (by decide)) q46a q46c (g := (mkF m 155 #[.val (.long q1), .second, .val (.int p2), .val (.long q3), .second, .val (.int p4), .val (.int p5), .val (.long q7), .second, .val (.int p9), .val (.ref r34), .val (.int (((p5.toUInt32 >>> ((2 : Int32) &&& 31).toUInt32).toInt32) &&& (3 : Int32))), .val (.ref b35), .val (.ref b37), .val (.int 0)] [(.ref r34), (.ref b35)])) rfl (by rw [hml]; rfl) (Steps.refl _) (argsL := [(.ref r34)]) (rest := []) (lenOf pd_4 rfl) rfl (by show 2 * 0 + _ ≤ _; exact Nat.le_of_eq rfl) (hb hby at_155) (fun _ _ => ⟨rfl, e45, (by decide : 3 + 0 ≤ _), (by decide : 5 + 0 ≤ _)⟩)
          dsimp only [Pt.U, Pt.locs, Pt.cells, Pt.slots] at X46 l46 y46 z46 st46 hQ46
          subst l46 y46 z46
          obtain ⟨rfl, Nq46, e46⟩ := hQ46
          have N46 := Fr.app N45 Nq46
          refine oS (fun t k => st46.trans k) ?_
          show oG _ _ _ _ _ _ _ (T46.setTop (mkF m 158 #[.val (.long q1), .second, .val (.int p2), .val (.long q3), .second, .val (.int p4), .val (.int p5), .val (.long q7), .second, .val (.int p9), .val (.ref r34), .val (.int (((p5.toUInt32 >>> ((2 : Int32) &&& 31).toUInt32).toInt32) &&& (3 : Int32))), .val (.ref b35), .val (.ref b37), .val (.int 0)] [(.int 0)]))
          try clear st46 X45 e45
          refine oS (fun t k => XS.ifNo X46.here hx rfl (hb hby at_158) rfl ((if0 _ _).trans (teq (by decide)).2) k) ?_
          refine oS (fun t k => oIc li_1 X46.here hx rfl (hb hby at_161) k) ?_
          refine oS (fun t k => XS.goto X46.here hx rfl (pc0 := 162) (pc' := 166) rfl (hb hby at_162) (by decide) (by decide) k) ?_
          show oG _ _ _ _ _ _ _ (T46.setTop (mkF m 166 #[.val (.long q1), .second, .val (.int p2), .val (.long q3), .second, .val (.int p4), .val (.int p5), .val (.long q7), .second, .val (.int p9), .val (.ref r34), .val (.int (((p5.toUInt32 >>> ((2 : Int32) &&& 31).toUInt32).toInt32) &&& (3 : Int32))), .val (.ref b35), .val (.ref b37), .val (.int 0)] [(.int 1)]))
          exact own_ret (v := some (.int 1)) X46 (fun h => by rw [Bd.returns] at h; cases h) Bd.notSynchronized (fun fs hr => retN X46 hx (t := .boolean) Bd.returns (by simp) (hb hby at_166) hr) (by rw [e46]; exact ⟨rfl, N46⟩) (by decide) (by decide)
      · refine oS (fun t k => XS.ifYes X38.here hx rfl (pc0 := 101) (pc' := 114) rfl (hb hby at_101) rfl ((if0 _ _).trans (feq (fun q => hc101 ((lw_eq q1 q7).mp q))).2) (by decide) (by decide) k) ?_
        refine oS (fun t k => oIc li_0 X38.here hx rfl (hb hby at_114) k) ?_
        show oG _ _ _ _ _ _ _ (T38.setTop (mkF m 115 #[.val (.long q1), .second, .val (.int p2), .val (.long q3), .second, .val (.int p4), .val (.int p5), .val (.long q7), .second, .val (.int p9), .val (.ref r34), .val (.int (((p5.toUInt32 >>> ((2 : Int32) &&& 31).toUInt32).toInt32) &&& (3 : Int32))), .val (.ref b35), .val (.ref b37), .unset] [(.int 0)]))
        refine oS (fun t k => XS.istore X38.here hx rfl (hb hby at_115) rfl (l' := #[.val (.long q1), .second, .val (.int p2), .val (.long q3), .second, .val (.int p4), .val (.int p5), .val (.long q7), .second, .val (.int p9), .val (.ref r34), .val (.int (((p5.toUInt32 >>> ((2 : Int32) &&& 31).toUInt32).toInt32) &&& (3 : Int32))), .val (.ref b35), .val (.ref b37), .val (.int 0)]) rfl k) ?_
        refine oS (fun t k => XS.aload X38.here hx rfl (hb hby at_117) rfl rfl k) ?_
        refine oS (fun t k => XS.aload X38.here hx rfl (hb hby at_119) rfl rfl k) ?_
        show oG _ _ _ _ _ _ _ (T38.setTop (mkF m 121 #[.val (.long q1), .second, .val (.int p2), .val (.long q3), .second, .val (.int p4), .val (.int p5), .val (.long q7), .second, .val (.int p9), .val (.ref r34), .val (.int (((p5.toUInt32 >>> ((2 : Int32) &&& 31).toUInt32).toInt32) &&& (3 : Int32))), .val (.ref b35), .val (.ref b37), .val (.int 0)] [(.ref b37), (.ref b35)]))
        obtain ⟨cq47, kq47, q47a, q47b, q47c⟩ := isOf hZ rfl ((P36_0.ext E37).keep K38)
        obtain ⟨_, _, ⟨T47, L47, k47, n47⟩, -, X47, ⟨Lc47, hQ47, l47, y47, z47⟩, st47⟩ := X38.virtualBack hx (y := mY6) (z := mY6) hown (mvT hZ (oW hw 13 rfl)) (mvT hZ (oW hw 14 rfl)) (notFace_of_selects (args := #[]) (mvT hZ (oW hw 16 rfl))) (mvT hZ (oW hw 16 rfl)) (mvT hZ (oW hw 15 rfl)) (by decide) (backOf (W := 0) (rm_eq_0 l Z a0 hw [] b35 b37 q1 p2 q7 p9  T38.heap n0 O38  P38_0 ((P36_1.ext E37).keep K38 (fun q => ne_b35_b37 (List.mem_singleton.mp q))) ((P36_2.ext E37).keep K38 (fun q => ne_b35_b37 (List.mem_singleton.mp q))) P38_1 P38_2 (fun q => hc101 (Eq.symm q))) hZ (oW hw 17 rfl) (oW hw 2 rfl) (by decide) (by decide)) q47a q47c (g := (mkF m 121 #[.val (.long q1), .second, .val (.int p2), .val (.long q3), .second, .val (.int p4), .val (.int p5), .val (.long q7), .second, .val (.int p9), .val (.ref r34), .val (.int (((p5.toUInt32 >>> ((2 : Int32) &&& 31).toUInt32).toInt32) &&& (3 : Int32))), .val (.ref b35), .val (.ref b37), .val (.int 0)] [(.ref b37), (.ref b35)])) rfl (by rw [hml]; rfl) (Steps.refl _) (argsL := [(.ref b37)]) (rest := []) (lenOf pd_4 rfl) rfl (by show 2 * 0 + _ ≤ _; exact Nat.le_of_eq rfl) (hb hby at_121) (fun _ _ => ⟨rfl, rfl, (by decide : 3 + 0 ≤ _), (by decide : 5 + 0 ≤ _)⟩)
        dsimp only [Pt.U, Pt.locs, Pt.cells, Pt.slots] at X47 l47 y47 z47 st47 hQ47
        subst l47 y47 z47
        obtain ⟨rfl, Nq47, e47⟩ := hQ47
        have N47 := Fr.app N38 Nq47
        refine oS (fun t k => st47.trans k) ?_
        show oG _ _ _ _ _ _ _ (T47.setTop (mkF m 124 #[.val (.long q1), .second, .val (.int p2), .val (.long q3), .second, .val (.int p4), .val (.int p5), .val (.long q7), .second, .val (.int p9), .val (.ref r34), .val (.int (((p5.toUInt32 >>> ((2 : Int32) &&& 31).toUInt32).toInt32) &&& (3 : Int32))), .val (.ref b35), .val (.ref b37), .val (.int 0)] [(.int 0)]))
        try clear st47 X38 e38
        refine oS (fun t k => XS.iload X47.here hx rfl (hb hby at_124) rfl k) ?_
        refine oS (fun t k => XS.icmpNo X47.here hx rfl (hb hby at_126) rfl (teq (by decide)).2 k) ?_
        refine oS (fun t k => XS.aload X47.here hx rfl (hb hby at_129) rfl rfl k) ?_
        show oG _ _ _ _ _ _ _ (T47.setTop (mkF m 131 #[.val (.long q1), .second, .val (.int p2), .val (.long q3), .second, .val (.int p4), .val (.int p5), .val (.long q7), .second, .val (.int p9), .val (.ref r34), .val (.int (((p5.toUInt32 >>> ((2 : Int32) &&& 31).toUInt32).toInt32) &&& (3 : Int32))), .val (.ref b35), .val (.ref b37), .val (.int 0)] [(.ref b37)]))
        refine oS (fun t k => XS.aload X47.here hx rfl (hb hby at_131) rfl rfl k) ?_
        obtain ⟨cq48, kq48, q48a, q48b, q48c⟩ := isOf hZ e47 P38_0
        obtain ⟨_, _, ⟨T48, L48, k48, n48⟩, -, X48, ⟨Lc48, hQ48, l48, y48, z48⟩, st48⟩ := X47.virtualBack hx (y := mY6) (z := mY6) hown (mvT hZ (oW hw 13 rfl)) (mvT hZ (oW hw 14 rfl)) (notFace_of_selects (args := #[]) (mvT hZ (oW hw 16 rfl))) (mvT hZ (oW hw 16 rfl)) (mvT hZ (oW hw 15 rfl)) (by decide) (backOf (W := 0) (rm_eq_0 l Z a0 hw [] b37 b35 q7 p9 q1 p2  T38.heap n0 O38  ((P36_0.ext E37).keep K38) P38_1 P38_2 ((P36_1.ext E37).keep K38 (fun q => ne_b35_b37 (List.mem_singleton.mp q))) ((P36_2.ext E37).keep K38 (fun q => ne_b35_b37 (List.mem_singleton.mp q))) hc101) hZ (oW hw 17 rfl) (oW hw 2 rfl) (by decide) (by decide)) q48a q48c (g := (mkF m 133 #[.val (.long q1), .second, .val (.int p2), .val (.long q3), .second, .val (.int p4), .val (.int p5), .val (.long q7), .second, .val (.int p9), .val (.ref r34), .val (.int (((p5.toUInt32 >>> ((2 : Int32) &&& 31).toUInt32).toInt32) &&& (3 : Int32))), .val (.ref b35), .val (.ref b37), .val (.int 0)] [(.ref b35), (.ref b37)])) rfl (by rw [hml]; rfl) (Steps.refl _) (argsL := [(.ref b35)]) (rest := []) (lenOf pd_4 rfl) rfl (by show 2 * 0 + _ ≤ _; exact Nat.le_of_eq rfl) (hb hby at_133) (fun _ _ => ⟨rfl, e47, (by decide : 3 + 0 ≤ _), (by decide : 5 + 0 ≤ _)⟩)
        dsimp only [Pt.U, Pt.locs, Pt.cells, Pt.slots] at X48 l48 y48 z48 st48 hQ48
        subst l48 y48 z48
        obtain ⟨rfl, Nq48, e48⟩ := hQ48
        have N48 := Fr.app N47 Nq48
        refine oS (fun t k => st48.trans k) ?_
        show oG _ _ _ _ _ _ _ (T48.setTop (mkF m 136 #[.val (.long q1), .second, .val (.int p2), .val (.long q3), .second, .val (.int p4), .val (.int p5), .val (.long q7), .second, .val (.int p9), .val (.ref r34), .val (.int (((p5.toUInt32 >>> ((2 : Int32) &&& 31).toUInt32).toInt32) &&& (3 : Int32))), .val (.ref b35), .val (.ref b37), .val (.int 0)] [(.int 0)]))
        try clear st48 X47 e47
        refine oS (fun t k => XS.iload X48.here hx rfl (hb hby at_136) rfl k) ?_
        refine oS (fun t k => XS.icmpNo X48.here hx rfl (hb hby at_138) rfl (teq (by decide)).2 k) ?_
        refine oS (fun t k => XS.aload X48.here hx rfl (hb hby at_141) rfl rfl k) ?_
        show oG _ _ _ _ _ _ _ (T48.setTop (mkF m 143 #[.val (.long q1), .second, .val (.int p2), .val (.long q3), .second, .val (.int p4), .val (.int p5), .val (.long q7), .second, .val (.int p9), .val (.ref r34), .val (.int (((p5.toUInt32 >>> ((2 : Int32) &&& 31).toUInt32).toInt32) &&& (3 : Int32))), .val (.ref b35), .val (.ref b37), .val (.int 0)] [(.ref b35)]))
        refine oS (fun t k => XS.aload X48.here hx rfl (hb hby at_143) rfl rfl k) ?_
        obtain ⟨cq49, kq49, q49a, q49b, q49c⟩ := isOf hZ e48 ((P36_0.ext E37).keep K38)
        obtain ⟨_, _, ⟨T49, L49, k49, n49⟩, -, X49, ⟨Lc49, hQ49, l49, y49, z49⟩, st49⟩ := X48.virtualBack hx (y := mY6) (z := mY6) hown (mvT hZ (oW hw 13 rfl)) (mvT hZ (oW hw 14 rfl)) (notFace_of_selects (args := #[]) (mvT hZ (oW hw 16 rfl))) (mvT hZ (oW hw 16 rfl)) (mvT hZ (oW hw 15 rfl)) (by decide) (backOf (W := 0) (rm_eq_s l Z a0 hw [] b35 q1 p2  T38.heap n0 O38  ((P36_0.ext E37).keep K38) ((P36_1.ext E37).keep K38 (fun q => ne_b35_b37 (List.mem_singleton.mp q))) ((P36_2.ext E37).keep K38 (fun q => ne_b35_b37 (List.mem_singleton.mp q)))) hZ (oW hw 17 rfl) (oW hw 2 rfl) (by decide) (by decide)) q49a q49c (g := (mkF m 145 #[.val (.long q1), .second, .val (.int p2), .val (.long q3), .second, .val (.int p4), .val (.int p5), .val (.long q7), .second, .val (.int p9), .val (.ref r34), .val (.int (((p5.toUInt32 >>> ((2 : Int32) &&& 31).toUInt32).toInt32) &&& (3 : Int32))), .val (.ref b35), .val (.ref b37), .val (.int 0)] [(.ref b35), (.ref b35)])) rfl (by rw [hml]; rfl) (Steps.refl _) (argsL := [(.ref b35)]) (rest := []) (lenOf pd_4 rfl) rfl (by show 2 * 0 + _ ≤ _; exact Nat.le_of_eq rfl) (hb hby at_145) (fun _ _ => ⟨rfl, e48, (by decide : 3 + 0 ≤ _), (by decide : 5 + 0 ≤ _)⟩)
        dsimp only [Pt.U, Pt.locs, Pt.cells, Pt.slots] at X49 l49 y49 z49 st49 hQ49
        subst l49 y49 z49
        obtain ⟨rfl, Nq49, e49⟩ := hQ49
        have N49 := Fr.app N48 Nq49
        refine oS (fun t k => st49.trans k) ?_
        show oG _ _ _ _ _ _ _ (T49.setTop (mkF m 148 #[.val (.long q1), .second, .val (.int p2), .val (.long q3), .second, .val (.int p4), .val (.int p5), .val (.long q7), .second, .val (.int p9), .val (.ref r34), .val (.int (((p5.toUInt32 >>> ((2 : Int32) &&& 31).toUInt32).toInt32) &&& (3 : Int32))), .val (.ref b35), .val (.ref b37), .val (.int 0)] [(.int 1)]))
        try clear st49 X48 e48
        refine oS (fun t k => XS.ifNo X49.here hx rfl (hb hby at_148) rfl ((if0 _ _).trans (feq (by decide)).1) k) ?_
        refine oS (fun t k => XS.aload X49.here hx rfl (hb hby at_151) rfl rfl k) ?_
        refine oS (fun t k => XS.aload X49.here hx rfl (hb hby at_153) rfl rfl k) ?_
        show oG _ _ _ _ _ _ _ (T49.setTop (mkF m 155 #[.val (.long q1), .second, .val (.int p2), .val (.long q3), .second, .val (.int p4), .val (.int p5), .val (.long q7), .second, .val (.int p9), .val (.ref r34), .val (.int (((p5.toUInt32 >>> ((2 : Int32) &&& 31).toUInt32).toInt32) &&& (3 : Int32))), .val (.ref b35), .val (.ref b37), .val (.int 0)] [(.ref r34), (.ref b35)]))
        obtain ⟨cq50, kq50, q50a, q50b, q50c⟩ := isOf hZ e49 ((P36_0.ext E37).keep K38)
        obtain ⟨_, _, ⟨T50, L50, k50, n50⟩, -, X50, ⟨Lc50, hQ50, l50, y50, z50⟩, st50⟩ := X49.virtualBack hx (y := mY6) (z := mY6) hown (mvT hZ (oW hw 13 rfl)) (mvT hZ (oW hw 14 rfl)) (notFace_of_selects (args := #[]) (mvT hZ (oW hw 16 rfl))) (mvT hZ (oW hw 16 rfl)) (mvT hZ (oW hw 15 rfl)) (by decide) (backOf (W := 0) (rm_eq_eger l Z a0 hw [] b35 r34  T38.heap n0 O38  ((((P34_0.ext E35).keep K36).ext E37).keep K38)) hZ (oW hw 17 rfl) (oW hw 2 rfl) (by decide) (by decide)) q50a q50c (g := (mkF m 155 #[.val (.long q1), .second, .val (.int p2), .val (.long q3), .second, .val (.int p4), .val (.int p5), .val (.long q7), .second, .val (.int p9), .val (.ref r34), .val (.int (((p5.toUInt32 >>> ((2 : Int32) &&& 31).toUInt32).toInt32) &&& (3 : Int32))), .val (.ref b35), .val (.ref b37), .val (.int 0)] [(.ref r34), (.ref b35)])) rfl (by rw [hml]; rfl) (Steps.refl _) (argsL := [(.ref r34)]) (rest := []) (lenOf pd_4 rfl) rfl (by show 2 * 0 + _ ≤ _; exact Nat.le_of_eq rfl) (hb hby at_155) (fun _ _ => ⟨rfl, e49, (by decide : 3 + 0 ≤ _), (by decide : 5 + 0 ≤ _)⟩)
        dsimp only [Pt.U, Pt.locs, Pt.cells, Pt.slots] at X50 l50 y50 z50 st50 hQ50
        subst l50 y50 z50
        obtain ⟨rfl, Nq50, e50⟩ := hQ50
        have N50 := Fr.app N49 Nq50
        refine oS (fun t k => st50.trans k) ?_
        show oG _ _ _ _ _ _ _ (T50.setTop (mkF m 158 #[.val (.long q1), .second, .val (.int p2), .val (.long q3), .second, .val (.int p4), .val (.int p5), .val (.long q7), .second, .val (.int p9), .val (.ref r34), .val (.int (((p5.toUInt32 >>> ((2 : Int32) &&& 31).toUInt32).toInt32) &&& (3 : Int32))), .val (.ref b35), .val (.ref b37), .val (.int 0)] [(.int 0)]))
        try clear st50 X49 e49
        refine oS (fun t k => XS.ifNo X50.here hx rfl (hb hby at_158) rfl ((if0 _ _).trans (teq (by decide)).2) k) ?_
        refine oS (fun t k => oIc li_1 X50.here hx rfl (hb hby at_161) k) ?_
        refine oS (fun t k => XS.goto X50.here hx rfl (pc0 := 162) (pc' := 166) rfl (hb hby at_162) (by decide) (by decide) k) ?_
        show oG _ _ _ _ _ _ _ (T50.setTop (mkF m 166 #[.val (.long q1), .second, .val (.int p2), .val (.long q3), .second, .val (.int p4), .val (.int p5), .val (.long q7), .second, .val (.int p9), .val (.ref r34), .val (.int (((p5.toUInt32 >>> ((2 : Int32) &&& 31).toUInt32).toInt32) &&& (3 : Int32))), .val (.ref b35), .val (.ref b37), .val (.int 0)] [(.int 1)]))
        exact own_ret (v := some (.int 1)) X50 (fun h => by rw [Bd.returns] at h; cases h) Bd.notSynchronized (fun fs hr => retN X50 hx (t := .boolean) Bd.returns (by simp) (hb hby at_166) hr) (by rw [e50]; exact ⟨rfl, N50⟩) (by decide) (by decide)
set_option maxRecDepth 65536 in
set_option maxHeartbeats 40000000 in
theorem comes_1 {Post : Tables → Env → Array Value → State → Outcome → State → Prop} (hpost : ∀ tb e args s v u, (limb_1_1.after args s (.returned v) u = true ∧ limb_1_2.after args s (.returned v) u = true ∧ True) → FrameEnd s (.returned v) u (Jvm.fieldLocs frame_1_writes args s ++ Jvm.arrayLocs frame_1_arrays args s ++ Jvm.staticLocs frame_1_statics s) 16 128 → Post tb e args s (.returned v) u) :
    ArmFor flags0 classFile x code maxLocals ret World_1 tables_1 room_1 Calls_1 rest_1 Pre_1 Post := by
  intro l hfl _ _ p e ha hc hk s m args below hf hA hF happ hP
  obtain ⟨hcalls, hrest, hpre⟩ := hP
  obtain ⟨-, -, -, hnamed, -, -, -, hat⟩ := (Spec.applies_iff hf).mp happ
  obtain ⟨hg, hn⟩ := and_e (Cond.before_iff.mp (show (Jvm.Cond.and given_1 narrow_1).before args s = true from hpre))
  obtain ⟨g0, g1⟩ := and_e hg
  obtain ⟨g2, g3⟩ := and_e g1
  obtain ⟨g4, g5⟩ := and_e g3
  obtain ⟨g6, g7⟩ := and_e g5
  obtain ⟨g8, g9⟩ := and_e g7
  obtain ⟨w0, w1, w2, w3, w4, rfl⟩ : ∃ w0 w1 w2 w3 w4 : Value, args = #[w0, w1, w2, w3, w4] := by
    have hs : args.size = 5 := by simpa [Cond.value, given_1] using g0
    obtain ⟨L⟩ := args
    match L, hs with
    | [w0, w1, w2, w3, w4], _ => exact ⟨w0, w1, w2, w3, w4, rfl⟩
  have hw := fun d (hd : d ∈ tables_1) => atoms_spec (ws := Jvm.Cond.code x code maxLocals ret :: tables_1) hat d (List.mem_cons_of_mem _ hd)
  have hfit : Fit s := fun {y c} hc i hi => by
    obtain ⟨ha, rfl⟩ := Array.getElem?_eq_some_iff.mp hc
    have q := List.all_eq_true.mp ((Array.all_eq_true_iff_forall_mem.mp hF) _ (Array.getElem_mem ha)) i (List.mem_range.mpr hi)
    simpa [Array.getElem?_eq_getElem hi] using q
  obtain ⟨i0, ei0⟩ := isL_v g2
  obtain rfl : w0 = (.long i0) := Option.some.inj ei0
  obtain ⟨i1, ei1⟩ := is_v g4
  obtain rfl : w1 = (.int i1) := Option.some.inj ei1
  obtain ⟨i2, ei2⟩ := isL_v g6
  obtain rfl : w2 = (.long i2) := Option.some.inj ei2
  obtain ⟨i3, ei3⟩ := is_v g8
  obtain rfl : w3 = (.int i3) := Option.some.inj ei3
  obtain ⟨i4, ei4⟩ := is_v g9
  obtain rfl : w4 = (.int i4) := Option.some.inj ei4
  obtain ⟨hsets, hown0⟩ := atoms_of _ (rest_1_c_eq ▸ (show rest_1_c.before _ s = true from hrest))
  have hr0 := Cond.before_iff.mp hown0
  obtain ⟨w, W⟩ := own_world hw hfit hsets hn
  obtain ⟨n, o, h1, h2, h3, _, L, rfl, ⟨rfl, N⟩, hq⟩ := rm_law l s _ hw tables_1 i0 i1 i2 i3 i4 w s.heap s.heap.size (Old.start s) W  p e ha hc hk s m _ below hf ((Spec.applies_iff_loose hf).mp happ).1 ⟨rfl, State.Warmed39.refl s, rfl⟩ trivial
  refine ⟨n, _, h1, h2, h3, hpost _ _ _ _ _ _ ⟨Cond.after_iff.mpr rfl, Cond.after_iff.mpr (eq_i res_at (Term.int_eval (1)) rfl), trivial⟩ ⟨hq.1, hq.2.1, (hq.2.2.sift fun y hy => Or.inr (N y hy)).mono (by decide) (by decide)⟩⟩
theorem main_1_1 : Claimed_1_1 := comes_1 fun _ _ _ _ _ _ h hF => ⟨h.1, hF⟩
theorem main_1_2 : Claimed_1_2 := comes_1 fun _ _ _ _ _ _ h hF => ⟨h.2.1, hF⟩
end Jvm.Pilot.@@N@@
namespace Jvm.Pilot.@@N@@
open Jvm Jvm.ClassFile Sem Op Lib Jvm.Free Jvm.Stand Jvm.Pilot.@@N@@.Jvm.D
/-! MADE BY PROGRAM (witnessworld.py) out of the Statement's table words and the real class files: 19 classes; the members and pool entries that the words name. The judged class is class 1, her method 1. -/
namespace start1
open Jvm.ClassFile
def u (s : String) : CpInfo := .utf8 (stringToUtf16 s)
/-- a pool by its gaps: so many unusable entries, then the entry; so many at the end -/
def gap : Nat → List CpInfo → List CpInfo
  | 0, r => r
  | n + 1, r => .unusable :: gap n r
def poolList (es : List (Nat × CpInfo)) (last : Nat) : List CpInfo := es.foldr (fun e r => gap e.1 (e.2 :: r)) (gap last [])
def pool (es : List (Nat × CpInfo)) (last : Nat) : Array CpInfo := ⟨poolList es last⟩
def fileOf (pool : Array CpInfo) (this : Nat) (attrs : Array Attribute := #[]) (ms : Array MethodInfo := #[]) (fl : Nat := 33) (sup : Nat := 0) (ifs : Array Nat := #[]) (fds : Array FieldInfo := #[]) : ClassFile where
  minorVersion := 0
  majorVersion := 65
  constantPool := pool
  accessFlags := fl
  thisClass := this
  superClass := sup
  interfaces := ifs
  fields := fds
  methods := ms
  attributes := attrs
def plain (name : String) (sup : Option ClassId) : Class where
  name := name
  kind := .ordinary
  loader := none
  accessFlags := 33
  super := sup
  interfaces := #[]
  cf := none
  fields := #[]
  methods := #[]
  instanceTypes := #[]
  staticTypes := #[]
  resolved := #[]
  callSites := []
  init := .initialized
  statics := none
  mirror := none

def pool0 : Array CpInfo := pool [(5, u "<init>"), (0, u "()V"), (1, .class_ 10), (1, u "java/lang/Object")] 113

def k0c0 : Code := { maxStack := 0, maxLocals := 1, code := object_method_1_code, exceptionTable := #[], attributes := #[] }
def k0m0 : Method := { name := "<init>", desc := "()V", sig := { parameters := [], returnType := none }, accessFlags := 1, code := some k0c0 }
/-- java/lang/Object -/
def k0 : Class := { plain "java/lang/Object" none with
  accessFlags := 33
  interfaces := #[]
  cf := some (fileOf pool0 8 #[] #[{ accessFlags := 1, nameIndex := 5, descriptorIndex := 6, attributes := #[] }] 33 0 #[] #[])
  fields := #[]
  methods := #[k0m0]
  instanceTypes := #[]
  staticTypes := #[]
  resolved := Array.replicate 124 none
  statics := none }

def pool1 : Array CpInfo := pool [(2, .class_ 4), (1, u "java/lang/Object"), (0, u "<init>"), (0, u "()V"), (0, .methodref 8 9), (0, .class_ 10), (0, .nameAndType 11 12), (0, u "java/lang/Long"), (0, u "valueOf"), (0, u "(J)Ljava/lang/Long;"), (0, .methodref 14 15), (0, .class_ 16), (0, .nameAndType 11 17), (0, u "java/lang/Integer"), (0, u "(I)Ljava/lang/Integer;"), (0, .class_ 19), (0, u "com/example/loudline/loudline/packet/UdpFlow"), (0, .methodref 18 21), (0, .nameAndType 5 22), (0, u "(JI)V"), (0, .methodref 18 24), (0, .nameAndType 25 26), (0, u "equals"), (0, u "(Ljava/lang/Object;)Z"), (0, .class_ 28), (0, u "com/example/loudline/loudline/packet/UdpFlowEqualsPinLaw"), (2, u "law"), (0, u "(JIJII)Z")] 3

def k1m0 : Method := { name := "<init>", desc := "()V", sig := { parameters := [], returnType := none }, accessFlags := 1, code := none }
def k1c1 : Code := { maxStack := 5, maxLocals := 15, code := code, exceptionTable := #[], attributes := #[] }
def k1m1 : Method := { name := "law", desc := "(JIJII)Z", sig := { parameters := [.long, .int, .long, .int, .int], returnType := some .boolean }, accessFlags := 9, code := some k1c1 }
/-- com/example/loudline/loudline/packet/UdpFlowEqualsPinLaw -/
def k1 : Class := { plain "com/example/loudline/loudline/packet/UdpFlowEqualsPinLaw" (some 0) with
  accessFlags := 49
  interfaces := #[]
  cf := some (fileOf pool1 27 #[] #[{ accessFlags := 1, nameIndex := 5, descriptorIndex := 6, attributes := #[] }, { accessFlags := 9, nameIndex := 31, descriptorIndex := 32, attributes := #[] }] 49 2 #[] #[])
  fields := #[]
  methods := #[k1m0, k1m1]
  instanceTypes := #[]
  staticTypes := #[]
  resolved := Array.replicate 36 none
  statics := none }

def pool2 : Array CpInfo := pool [(1, .methodref 2 3), (0, .class_ 4), (0, .nameAndType 5 6), (0, u "java/lang/Object"), (0, u "<init>"), (0, u "()V"), (0, .fieldref 8 9), (0, .class_ 10), (0, .nameAndType 11 12), (0, u "com/example/loudline/loudline/packet/UdpFlow"), (0, u "addresses"), (0, u "J"), (0, .fieldref 8 14), (0, .nameAndType 15 16), (0, u "ports"), (0, u "I"), (16, u "(JI)V"), (12, u "equals"), (0, u "(Ljava/lang/Object;)Z")] 3

def k2c0 : Code := { maxStack := 3, maxLocals := 4, code := prog_69_method_1_code, exceptionTable := #[], attributes := #[] }
def k2m0 : Method := { name := "<init>", desc := "(JI)V", sig := { parameters := [.long, .int], returnType := none }, accessFlags := 0, code := some k2c0 }
def k2c1 : Code := { maxStack := 4, maxLocals := 3, code := prog_69_method_4_code, exceptionTable := #[], attributes := #[] }
def k2m1 : Method := { name := "equals", desc := "(Ljava/lang/Object;)Z", sig := { parameters := [(.object "java/lang/Object")], returnType := some .boolean }, accessFlags := 1, code := some k2c1 }
/-- com/example/loudline/loudline/packet/UdpFlow -/
def k2 : Class := { plain "com/example/loudline/loudline/packet/UdpFlow" (some 0) with
  accessFlags := 32
  interfaces := #[]
  cf := some (fileOf pool2 8 #[] #[{ accessFlags := 0, nameIndex := 5, descriptorIndex := 33, attributes := #[] }, { accessFlags := 1, nameIndex := 46, descriptorIndex := 47, attributes := #[] }] 32 2 #[] #[{ accessFlags := 18, nameIndex := 11, descriptorIndex := 12, attributes := #[] }, { accessFlags := 18, nameIndex := 15, descriptorIndex := 16, attributes := #[] }])
  fields := #[{ name := "addresses", type := .long, accessFlags := 18, slot := 0, constantValue := 0 }, { name := "ports", type := .int, accessFlags := 18, slot := 1, constantValue := 0 }]
  methods := #[k2m0, k2m1]
  instanceTypes := #[.long, .int]
  staticTypes := #[]
  resolved := Array.replicate 51 none
  statics := none }

def pool3 : Array CpInfo := pool [(1, .class_ 2), (0, u "java/io/Serializable"), (0, .class_ 4), (0, u "java/lang/Object")] 2

/-- java/io/Serializable -/
def k3 : Class := { plain "java/io/Serializable" (some 0) with
  accessFlags := 1537
  interfaces := #[]
  cf := some (fileOf pool3 1 #[] #[] 1537 3 #[] #[])
  fields := #[]
  methods := #[]
  instanceTypes := #[]
  staticTypes := #[]
  resolved := Array.replicate 7 none
  statics := none }

def pool4 : Array CpInfo := pool [(1, .methodref 2 3), (0, .class_ 4), (0, .nameAndType 5 6), (0, u "java/lang/Object"), (0, u "<init>"), (0, u "()V"), (1, .class_ 10), (1, u "java/lang/Number"), (2, .class_ 14), (0, u "java/io/Serializable"), (0, u "serialVersionUID"), (0, u "J")] 20

def k4c0 : Code := { maxStack := 1, maxLocals := 1, code := jdk_18_method_1_code, exceptionTable := #[], attributes := #[] }
def k4m0 : Method := { name := "<init>", desc := "()V", sig := { parameters := [], returnType := none }, accessFlags := 1, code := some k4c0 }
/-- java/lang/Number -/
def k4 : Class := { plain "java/lang/Number" (some 0) with
  accessFlags := 1057
  interfaces := #[3]
  cf := some (fileOf pool4 8 #[] #[{ accessFlags := 1, nameIndex := 5, descriptorIndex := 6, attributes := #[] }] 1057 2 #[13] #[{ accessFlags := 26, nameIndex := 15, descriptorIndex := 16, attributes := #[] }])
  fields := #[{ name := "serialVersionUID", type := .long, accessFlags := 26, slot := 0, constantValue := 0 }]
  methods := #[k4m0]
  instanceTypes := #[]
  staticTypes := #[.long]
  resolved := Array.replicate 37 none
  statics := none }

def pool5 : Array CpInfo := pool [(1, .class_ 2), (0, u "java/lang/Comparable"), (0, .class_ 4), (0, u "java/lang/Object")] 7

/-- java/lang/Comparable -/
def k5 : Class := { plain "java/lang/Comparable" (some 0) with
  accessFlags := 1537
  interfaces := #[]
  cf := some (fileOf pool5 1 #[] #[] 1537 3 #[] #[])
  fields := #[]
  methods := #[]
  instanceTypes := #[]
  staticTypes := #[]
  resolved := Array.replicate 12 none
  statics := none }

def pool6 : Array CpInfo := pool [(1, .class_ 2), (0, u "java/lang/constant/Constable"), (0, .class_ 4), (0, u "java/lang/Object")] 6

/-- java/lang/constant/Constable -/
def k6 : Class := { plain "java/lang/constant/Constable" (some 0) with
  accessFlags := 1537
  interfaces := #[]
  cf := some (fileOf pool6 1 #[] #[] 1537 3 #[] #[])
  fields := #[]
  methods := #[]
  instanceTypes := #[]
  staticTypes := #[]
  resolved := Array.replicate 11 none
  statics := none }

def pool7 : Array CpInfo := pool [(1, .class_ 2), (0, u "java/lang/constant/ConstantDesc"), (0, .class_ 4), (0, u "java/lang/Object")] 32

/-- java/lang/constant/ConstantDesc -/
def k7 : Class := { plain "java/lang/constant/ConstantDesc" (some 0) with
  accessFlags := 1537
  interfaces := #[]
  cf := some (fileOf pool7 1 #[] #[] 1537 3 #[] #[])
  fields := #[]
  methods := #[]
  instanceTypes := #[]
  staticTypes := #[]
  resolved := Array.replicate 37 none
  statics := none }

def pool8 : Array CpInfo := pool [(1, .class_ 2), (0, u "java/lang/Integer"), (16, u "digits"), (0, u "[C"), (46, u "<init>"), (17, u "DigitOnes"), (0, u "[B"), (2, u "DigitTens"), (10, .nameAndType 67 101), (0, u "()V"), (85, u "valueOf"), (0, u "(I)Ljava/lang/Integer;"), (0, .class_ 190), (0, u "java/lang/Integer$IntegerCache"), (0, .fieldref 189 192), (0, .nameAndType 193 194), (0, u "high"), (0, u "I"), (0, .fieldref 189 196), (0, .nameAndType 197 198), (0, u "cache"), (0, u "[Ljava/lang/Integer;"), (0, .methodref 1 200), (0, .nameAndType 67 201), (0, u "(I)V"), (0, .methodref 203 100), (0, .class_ 204), (0, u "java/lang/Number"), (0, .fieldref 1 206), (0, .nameAndType 207 194), (0, u "value"), (94, u "TYPE"), (0, u "Ljava/lang/Class;"), (0, .class_ 305), (0, u "java/lang/Comparable"), (0, .class_ 307), (0, u "java/lang/constant/Constable"), (0, .class_ 309), (0, u "java/lang/constant/ConstantDesc"), (0, u "MIN_VALUE"), (1, u "MAX_VALUE"), (3, u "SIZE"), (1, u "BYTES"), (1, u "serialVersionUID"), (0, u "J")] 131

def k8c0 : Code := { maxStack := 3, maxLocals := 1, code := jdk_33_method_22_code, exceptionTable := #[], attributes := #[] }
def k8m0 : Method := { name := "valueOf", desc := "(I)Ljava/lang/Integer;", sig := { parameters := [.int], returnType := some (.object "java/lang/Integer") }, accessFlags := 9, code := some k8c0 }
def k8c1 : Code := { maxStack := 2, maxLocals := 2, code := jdk_33_method_23_code, exceptionTable := #[], attributes := #[] }
def k8m1 : Method := { name := "<init>", desc := "(I)V", sig := { parameters := [.int], returnType := none }, accessFlags := 1, code := some k8c1 }
/-- java/lang/Integer -/
def k8 : Class := { plain "java/lang/Integer" (some 4) with
  accessFlags := 49
  interfaces := #[5, 6, 7]
  cf := some (fileOf pool8 1 #[.nestMembers #[189]] #[{ accessFlags := 9, nameIndex := 187, descriptorIndex := 188, attributes := #[] }, { accessFlags := 1, nameIndex := 67, descriptorIndex := 201, attributes := #[] }] 49 203 #[304, 306, 308] #[{ accessFlags := 25, nameIndex := 310, descriptorIndex := 194, attributes := #[] }, { accessFlags := 25, nameIndex := 312, descriptorIndex := 194, attributes := #[] }, { accessFlags := 25, nameIndex := 302, descriptorIndex := 303, attributes := #[] }, { accessFlags := 24, nameIndex := 19, descriptorIndex := 20, attributes := #[] }, { accessFlags := 24, nameIndex := 89, descriptorIndex := 86, attributes := #[] }, { accessFlags := 24, nameIndex := 85, descriptorIndex := 86, attributes := #[] }, { accessFlags := 18, nameIndex := 207, descriptorIndex := 194, attributes := #[] }, { accessFlags := 25, nameIndex := 316, descriptorIndex := 194, attributes := #[] }, { accessFlags := 25, nameIndex := 318, descriptorIndex := 194, attributes := #[] }, { accessFlags := 26, nameIndex := 320, descriptorIndex := 321, attributes := #[] }])
  fields := #[{ name := "MIN_VALUE", type := .int, accessFlags := 25, slot := 0, constantValue := 0 }, { name := "MAX_VALUE", type := .int, accessFlags := 25, slot := 1, constantValue := 0 }, { name := "TYPE", type := (.object "java/lang/Class"), accessFlags := 25, slot := 2, constantValue := 0 }, { name := "digits", type := (.array .char), accessFlags := 24, slot := 3, constantValue := 0 }, { name := "DigitTens", type := (.array .byte), accessFlags := 24, slot := 4, constantValue := 0 }, { name := "DigitOnes", type := (.array .byte), accessFlags := 24, slot := 5, constantValue := 0 }, { name := "value", type := .int, accessFlags := 18, slot := 0, constantValue := 0 }, { name := "SIZE", type := .int, accessFlags := 25, slot := 6, constantValue := 0 }, { name := "BYTES", type := .int, accessFlags := 25, slot := 7, constantValue := 0 }, { name := "serialVersionUID", type := .long, accessFlags := 26, slot := 8, constantValue := 0 }]
  methods := #[k8m0, k8m1]
  instanceTypes := #[.int]
  staticTypes := #[.int, .int, (.object "java/lang/Class"), (.array .char), (.array .byte), (.array .byte), .int, .int, .long]
  resolved := Array.replicate 453 none
  statics := none }

def pool9 : Array CpInfo := pool [(2, .class_ 4), (1, u "java/lang/Object"), (0, u "<init>"), (0, u "()V"), (0, .class_ 8), (0, u "java/lang/Integer"), (7, .class_ 18), (1, u "java/lang/Integer$IntegerCache"), (0, u "$assertionsDisabled"), (0, u "Z"), (26, u "high"), (0, u "I"), (8, u "archivedCache"), (0, u "[Ljava/lang/Integer;"), (12, u "cache"), (0, u "low")] 27

def k9m0 : Method := { name := "<init>", desc := "()V", sig := { parameters := [], returnType := none }, accessFlags := 2, code := none }
/-- java/lang/Integer$IntegerCache -/
def k9 : Class := { plain "java/lang/Integer$IntegerCache" (some 0) with
  accessFlags := 48
  interfaces := #[]
  cf := some (fileOf pool9 16 #[.nestHost 7] #[{ accessFlags := 2, nameIndex := 5, descriptorIndex := 6, attributes := #[] }] 48 2 #[] #[{ accessFlags := 24, nameIndex := 72, descriptorIndex := 48, attributes := #[] }, { accessFlags := 24, nameIndex := 47, descriptorIndex := 48, attributes := #[] }, { accessFlags := 24, nameIndex := 71, descriptorIndex := 58, attributes := #[] }, { accessFlags := 8, nameIndex := 57, descriptorIndex := 58, attributes := #[] }, { accessFlags := 4120, nameIndex := 19, descriptorIndex := 20, attributes := #[] }])
  fields := #[{ name := "low", type := .int, accessFlags := 24, slot := 0, constantValue := 0 }, { name := "high", type := .int, accessFlags := 24, slot := 1, constantValue := 0 }, { name := "cache", type := (.array (.object "java/lang/Integer")), accessFlags := 24, slot := 2, constantValue := 0 }, { name := "archivedCache", type := (.array (.object "java/lang/Integer")), accessFlags := 8, slot := 3, constantValue := 0 }, { name := "$assertionsDisabled", type := .boolean, accessFlags := 4120, slot := 4, constantValue := 0 }]
  methods := #[k9m0]
  instanceTypes := #[]
  staticTypes := #[.int, .int, (.array (.object "java/lang/Integer")), (.array (.object "java/lang/Integer")), .boolean]
  resolved := Array.replicate 100 none
  statics := some 0 }

def pool10 : Array CpInfo := pool [(1, .class_ 2), (0, u "java/lang/Long"), (55, .nameAndType 59 60), (0, u "<init>"), (0, u "()V"), (24, u "valueOf"), (143, u "(J)Ljava/lang/Long;"), (0, .long 18446744073709551488), (1, .long 127), (1, .fieldref 235 236), (0, .class_ 237), (0, .nameAndType 238 239), (0, u "java/lang/Long$LongCache"), (0, u "cache"), (0, u "[Ljava/lang/Long;"), (0, .methodref 1 241), (0, .nameAndType 59 242), (0, u "(J)V"), (27, .methodref 271 58), (0, .class_ 272), (0, u "java/lang/Number"), (0, .fieldref 1 274), (0, .nameAndType 275 276), (0, u "value"), (0, u "J"), (84, u "TYPE"), (0, u "Ljava/lang/Class;"), (0, .class_ 364), (0, u "java/lang/Comparable"), (0, .class_ 366), (0, u "java/lang/constant/Constable"), (0, .class_ 368), (0, u "java/lang/constant/ConstantDesc"), (0, u "MIN_VALUE"), (1, u "MAX_VALUE"), (4, u "SIZE"), (0, u "I"), (1, u "BYTES"), (1, u "serialVersionUID")] 142

def k10c0 : Code := { maxStack := 4, maxLocals := 3, code := jdk_35_method_24_code, exceptionTable := #[], attributes := #[] }
def k10m0 : Method := { name := "valueOf", desc := "(J)Ljava/lang/Long;", sig := { parameters := [.long], returnType := some (.object "java/lang/Long") }, accessFlags := 9, code := some k10c0 }
def k10c1 : Code := { maxStack := 3, maxLocals := 3, code := jdk_35_method_26_code, exceptionTable := #[], attributes := #[] }
def k10m1 : Method := { name := "<init>", desc := "(J)V", sig := { parameters := [.long], returnType := none }, accessFlags := 1, code := some k10c1 }
/-- java/lang/Long -/
def k10 : Class := { plain "java/lang/Long" (some 4) with
  accessFlags := 49
  interfaces := #[5, 6, 7]
  cf := some (fileOf pool10 1 #[.nestMembers #[235]] #[{ accessFlags := 9, nameIndex := 85, descriptorIndex := 229, attributes := #[] }, { accessFlags := 1, nameIndex := 59, descriptorIndex := 242, attributes := #[] }] 49 271 #[363, 365, 367] #[{ accessFlags := 25, nameIndex := 369, descriptorIndex := 276, attributes := #[] }, { accessFlags := 25, nameIndex := 371, descriptorIndex := 276, attributes := #[] }, { accessFlags := 25, nameIndex := 361, descriptorIndex := 362, attributes := #[] }, { accessFlags := 18, nameIndex := 275, descriptorIndex := 276, attributes := #[] }, { accessFlags := 25, nameIndex := 376, descriptorIndex := 377, attributes := #[] }, { accessFlags := 25, nameIndex := 379, descriptorIndex := 377, attributes := #[] }, { accessFlags := 26, nameIndex := 381, descriptorIndex := 276, attributes := #[] }])
  fields := #[{ name := "MIN_VALUE", type := .long, accessFlags := 25, slot := 0, constantValue := 0 }, { name := "MAX_VALUE", type := .long, accessFlags := 25, slot := 1, constantValue := 0 }, { name := "TYPE", type := (.object "java/lang/Class"), accessFlags := 25, slot := 2, constantValue := 0 }, { name := "value", type := .long, accessFlags := 18, slot := 0, constantValue := 0 }, { name := "SIZE", type := .int, accessFlags := 25, slot := 3, constantValue := 0 }, { name := "BYTES", type := .int, accessFlags := 25, slot := 4, constantValue := 0 }, { name := "serialVersionUID", type := .long, accessFlags := 26, slot := 5, constantValue := 0 }]
  methods := #[k10m0, k10m1]
  instanceTypes := #[.long]
  staticTypes := #[.long, .long, (.object "java/lang/Class"), .int, .int, .long]
  resolved := Array.replicate 524 none
  statics := none }

def pool11 : Array CpInfo := pool [(2, .class_ 4), (1, u "java/lang/Object"), (0, u "<init>"), (0, u "()V"), (0, .class_ 8), (0, u "java/lang/Long"), (7, .class_ 18), (1, u "java/lang/Long$LongCache"), (0, u "$assertionsDisabled"), (0, u "Z"), (8, u "archivedCache"), (0, u "[Ljava/lang/Long;"), (7, u "cache")] 24

def k11m0 : Method := { name := "<init>", desc := "()V", sig := { parameters := [], returnType := none }, accessFlags := 2, code := none }
/-- java/lang/Long$LongCache -/
def k11 : Class := { plain "java/lang/Long$LongCache" (some 0) with
  accessFlags := 48
  interfaces := #[]
  cf := some (fileOf pool11 16 #[.nestHost 7] #[{ accessFlags := 2, nameIndex := 5, descriptorIndex := 6, attributes := #[] }] 48 2 #[] #[{ accessFlags := 24, nameIndex := 38, descriptorIndex := 30, attributes := #[] }, { accessFlags := 8, nameIndex := 29, descriptorIndex := 30, attributes := #[] }, { accessFlags := 4120, nameIndex := 19, descriptorIndex := 20, attributes := #[] }])
  fields := #[{ name := "cache", type := (.array (.object "java/lang/Long")), accessFlags := 24, slot := 0, constantValue := 0 }, { name := "archivedCache", type := (.array (.object "java/lang/Long")), accessFlags := 8, slot := 1, constantValue := 0 }, { name := "$assertionsDisabled", type := .boolean, accessFlags := 4120, slot := 2, constantValue := 0 }]
  methods := #[k11m0]
  instanceTypes := #[]
  staticTypes := #[(.array (.object "java/lang/Long")), (.array (.object "java/lang/Long")), .boolean]
  resolved := Array.replicate 63 none
  statics := some 1 }

def pool12 : Array CpInfo := pool [(1, u "java/lang/Cloneable"), (0, .class_ 1), (0, u "java/lang/Object"), (0, .class_ 3)] 3

/-- java/lang/Cloneable -/
def k12 : Class := { plain "java/lang/Cloneable" (some 0) with
  accessFlags := 1537
  interfaces := #[]
  cf := some (fileOf pool12 2 #[] #[] 1537 4 #[] #[])
  fields := #[]
  methods := #[]
  instanceTypes := #[]
  staticTypes := #[]
  resolved := Array.replicate 8 none
  statics := none }

/-- the primitive byte -/
def k13 : Class := { plain "byte" none with kind := .primitive 'B', accessFlags := 0x411 }
/-- [B -/
def k14 : Class := { plain "[B" (some 0) with kind := .array 13 .byte, interfaces := #[12, 3], accessFlags := 1041 }

/-- the primitive int -/
def k15 : Class := { plain "int" none with kind := .primitive 'I', accessFlags := 0x411 }
/-- [I -/
def k16 : Class := { plain "[I" (some 0) with kind := .array 15 .int, interfaces := #[12, 3], accessFlags := 1041 }

/-- [Ljava/lang/Integer; -/
def k17 : Class := { plain "[Ljava/lang/Integer;" (some 0) with kind := .array 8 (.object "java/lang/Integer"), interfaces := #[12, 3], accessFlags := 1041 }

/-- [Ljava/lang/Long; -/
def k18 : Class := { plain "[Ljava/lang/Long;" (some 0) with kind := .array 10 (.object "java/lang/Long"), interfaces := #[12, 3], accessFlags := 1041 }

def heap : Heap := #[{ cls := 9, slots := #[.int 0, .int 127, .ref 2, .null, .int 0], vm := .statics 9 },
  { cls := 11, slots := #[.ref 3, .null, .int 0], vm := .statics 11 },
  { cls := 17, slots := #[.ref 4, .ref 5, .ref 6, .ref 7, .ref 8, .ref 9, .ref 10, .ref 11, .ref 12, .ref 13, .ref 14, .ref 15, .ref 16, .ref 17, .ref 18, .ref 19, .ref 20, .ref 21, .ref 22, .ref 23, .ref 24, .ref 25, .ref 26, .ref 27, .ref 28, .ref 29, .ref 30, .ref 31, .ref 32, .ref 33, .ref 34, .ref 35, .ref 36, .ref 37, .ref 38, .ref 39, .ref 40, .ref 41, .ref 42, .ref 43, .ref 44, .ref 45, .ref 46, .ref 47, .ref 48, .ref 49, .ref 50, .ref 51, .ref 52, .ref 53, .ref 54, .ref 55, .ref 56, .ref 57, .ref 58, .ref 59, .ref 60, .ref 61, .ref 62, .ref 63, .ref 64, .ref 65, .ref 66, .ref 67, .ref 68, .ref 69, .ref 70, .ref 71, .ref 72, .ref 73, .ref 74, .ref 75, .ref 76, .ref 77, .ref 78, .ref 79, .ref 80, .ref 81, .ref 82, .ref 83, .ref 84, .ref 85, .ref 86, .ref 87, .ref 88, .ref 89, .ref 90, .ref 91, .ref 92, .ref 93, .ref 94, .ref 95, .ref 96, .ref 97, .ref 98, .ref 99, .ref 100, .ref 101, .ref 102, .ref 103, .ref 104, .ref 105, .ref 106, .ref 107, .ref 108, .ref 109, .ref 110, .ref 111, .ref 112, .ref 113, .ref 114, .ref 115, .ref 116, .ref 117, .ref 118, .ref 119, .ref 120, .ref 121, .ref 122, .ref 123, .ref 124, .ref 125, .ref 126, .ref 127, .ref 128, .ref 129, .ref 130, .ref 131, .ref 132, .ref 133, .ref 134, .ref 135, .ref 136, .ref 137, .ref 138, .ref 139, .ref 140, .ref 141, .ref 142, .ref 143, .ref 144, .ref 145, .ref 146, .ref 147, .ref 148, .ref 149, .ref 150, .ref 151, .ref 152, .ref 153, .ref 154, .ref 155, .ref 156, .ref 157, .ref 158, .ref 159, .ref 160, .ref 161, .ref 162, .ref 163, .ref 164, .ref 165, .ref 166, .ref 167, .ref 168, .ref 169, .ref 170, .ref 171, .ref 172, .ref 173, .ref 174, .ref 175, .ref 176, .ref 177, .ref 178, .ref 179, .ref 180, .ref 181, .ref 182, .ref 183, .ref 184, .ref 185, .ref 186, .ref 187, .ref 188, .ref 189, .ref 190, .ref 191, .ref 192, .ref 193, .ref 194, .ref 195, .ref 196, .ref 197, .ref 198, .ref 199, .ref 200, .ref 201, .ref 202, .ref 203, .ref 204, .ref 205, .ref 206, .ref 207, .ref 208, .ref 209, .ref 210, .ref 211, .ref 212, .ref 213, .ref 214, .ref 215, .ref 216, .ref 217, .ref 218, .ref 219, .ref 220, .ref 221, .ref 222, .ref 223, .ref 224, .ref 225, .ref 226, .ref 227, .ref 228, .ref 229, .ref 230, .ref 231, .ref 232, .ref 233, .ref 234, .ref 235, .ref 236, .ref 237, .ref 238, .ref 239, .ref 240, .ref 241, .ref 242, .ref 243, .ref 244, .ref 245, .ref 246, .ref 247, .ref 248, .ref 249, .ref 250, .ref 251, .ref 252, .ref 253, .ref 254, .ref 255, .ref 256, .ref 257, .ref 258, .ref 259], vm := .none },
  { cls := 18, slots := #[.ref 260, .ref 261, .ref 262, .ref 263, .ref 264, .ref 265, .ref 266, .ref 267, .ref 268, .ref 269, .ref 270, .ref 271, .ref 272, .ref 273, .ref 274, .ref 275, .ref 276, .ref 277, .ref 278, .ref 279, .ref 280, .ref 281, .ref 282, .ref 283, .ref 284, .ref 285, .ref 286, .ref 287, .ref 288, .ref 289, .ref 290, .ref 291, .ref 292, .ref 293, .ref 294, .ref 295, .ref 296, .ref 297, .ref 298, .ref 299, .ref 300, .ref 301, .ref 302, .ref 303, .ref 304, .ref 305, .ref 306, .ref 307, .ref 308, .ref 309, .ref 310, .ref 311, .ref 312, .ref 313, .ref 314, .ref 315, .ref 316, .ref 317, .ref 318, .ref 319, .ref 320, .ref 321, .ref 322, .ref 323, .ref 324, .ref 325, .ref 326, .ref 327, .ref 328, .ref 329, .ref 330, .ref 331, .ref 332, .ref 333, .ref 334, .ref 335, .ref 336, .ref 337, .ref 338, .ref 339, .ref 340, .ref 341, .ref 342, .ref 343, .ref 344, .ref 345, .ref 346, .ref 347, .ref 348, .ref 349, .ref 350, .ref 351, .ref 352, .ref 353, .ref 354, .ref 355, .ref 356, .ref 357, .ref 358, .ref 359, .ref 360, .ref 361, .ref 362, .ref 363, .ref 364, .ref 365, .ref 366, .ref 367, .ref 368, .ref 369, .ref 370, .ref 371, .ref 372, .ref 373, .ref 374, .ref 375, .ref 376, .ref 377, .ref 378, .ref 379, .ref 380, .ref 381, .ref 382, .ref 383, .ref 384, .ref 385, .ref 386, .ref 387, .ref 388, .ref 389, .ref 390, .ref 391, .ref 392, .ref 393, .ref 394, .ref 395, .ref 396, .ref 397, .ref 398, .ref 399, .ref 400, .ref 401, .ref 402, .ref 403, .ref 404, .ref 405, .ref 406, .ref 407, .ref 408, .ref 409, .ref 410, .ref 411, .ref 412, .ref 413, .ref 414, .ref 415, .ref 416, .ref 417, .ref 418, .ref 419, .ref 420, .ref 421, .ref 422, .ref 423, .ref 424, .ref 425, .ref 426, .ref 427, .ref 428, .ref 429, .ref 430, .ref 431, .ref 432, .ref 433, .ref 434, .ref 435, .ref 436, .ref 437, .ref 438, .ref 439, .ref 440, .ref 441, .ref 442, .ref 443, .ref 444, .ref 445, .ref 446, .ref 447, .ref 448, .ref 449, .ref 450, .ref 451, .ref 452, .ref 453, .ref 454, .ref 455, .ref 456, .ref 457, .ref 458, .ref 459, .ref 460, .ref 461, .ref 462, .ref 463, .ref 464, .ref 465, .ref 466, .ref 467, .ref 468, .ref 469, .ref 470, .ref 471, .ref 472, .ref 473, .ref 474, .ref 475, .ref 476, .ref 477, .ref 478, .ref 479, .ref 480, .ref 481, .ref 482, .ref 483, .ref 484, .ref 485, .ref 486, .ref 487, .ref 488, .ref 489, .ref 490, .ref 491, .ref 492, .ref 493, .ref 494, .ref 495, .ref 496, .ref 497, .ref 498, .ref 499, .ref 500, .ref 501, .ref 502, .ref 503, .ref 504, .ref 505, .ref 506, .ref 507, .ref 508, .ref 509, .ref 510, .ref 511, .ref 512, .ref 513, .ref 514, .ref 515], vm := .none },
  { cls := 8, slots := #[.int (-128)], vm := .none },
  { cls := 8, slots := #[.int (-127)], vm := .none },
  { cls := 8, slots := #[.int (-126)], vm := .none },
  { cls := 8, slots := #[.int (-125)], vm := .none },
  { cls := 8, slots := #[.int (-124)], vm := .none },
  { cls := 8, slots := #[.int (-123)], vm := .none },
  { cls := 8, slots := #[.int (-122)], vm := .none },
  { cls := 8, slots := #[.int (-121)], vm := .none },
  { cls := 8, slots := #[.int (-120)], vm := .none },
  { cls := 8, slots := #[.int (-119)], vm := .none },
  { cls := 8, slots := #[.int (-118)], vm := .none },
  { cls := 8, slots := #[.int (-117)], vm := .none },
  { cls := 8, slots := #[.int (-116)], vm := .none },
  { cls := 8, slots := #[.int (-115)], vm := .none },
  { cls := 8, slots := #[.int (-114)], vm := .none },
  { cls := 8, slots := #[.int (-113)], vm := .none },
  { cls := 8, slots := #[.int (-112)], vm := .none },
  { cls := 8, slots := #[.int (-111)], vm := .none },
  { cls := 8, slots := #[.int (-110)], vm := .none },
  { cls := 8, slots := #[.int (-109)], vm := .none },
  { cls := 8, slots := #[.int (-108)], vm := .none },
  { cls := 8, slots := #[.int (-107)], vm := .none },
  { cls := 8, slots := #[.int (-106)], vm := .none },
  { cls := 8, slots := #[.int (-105)], vm := .none },
  { cls := 8, slots := #[.int (-104)], vm := .none },
  { cls := 8, slots := #[.int (-103)], vm := .none },
  { cls := 8, slots := #[.int (-102)], vm := .none },
  { cls := 8, slots := #[.int (-101)], vm := .none },
  { cls := 8, slots := #[.int (-100)], vm := .none },
  { cls := 8, slots := #[.int (-99)], vm := .none },
  { cls := 8, slots := #[.int (-98)], vm := .none },
  { cls := 8, slots := #[.int (-97)], vm := .none },
  { cls := 8, slots := #[.int (-96)], vm := .none },
  { cls := 8, slots := #[.int (-95)], vm := .none },
  { cls := 8, slots := #[.int (-94)], vm := .none },
  { cls := 8, slots := #[.int (-93)], vm := .none },
  { cls := 8, slots := #[.int (-92)], vm := .none },
  { cls := 8, slots := #[.int (-91)], vm := .none },
  { cls := 8, slots := #[.int (-90)], vm := .none },
  { cls := 8, slots := #[.int (-89)], vm := .none },
  { cls := 8, slots := #[.int (-88)], vm := .none },
  { cls := 8, slots := #[.int (-87)], vm := .none },
  { cls := 8, slots := #[.int (-86)], vm := .none },
  { cls := 8, slots := #[.int (-85)], vm := .none },
  { cls := 8, slots := #[.int (-84)], vm := .none },
  { cls := 8, slots := #[.int (-83)], vm := .none },
  { cls := 8, slots := #[.int (-82)], vm := .none },
  { cls := 8, slots := #[.int (-81)], vm := .none },
  { cls := 8, slots := #[.int (-80)], vm := .none },
  { cls := 8, slots := #[.int (-79)], vm := .none },
  { cls := 8, slots := #[.int (-78)], vm := .none },
  { cls := 8, slots := #[.int (-77)], vm := .none },
  { cls := 8, slots := #[.int (-76)], vm := .none },
  { cls := 8, slots := #[.int (-75)], vm := .none },
  { cls := 8, slots := #[.int (-74)], vm := .none },
  { cls := 8, slots := #[.int (-73)], vm := .none },
  { cls := 8, slots := #[.int (-72)], vm := .none },
  { cls := 8, slots := #[.int (-71)], vm := .none },
  { cls := 8, slots := #[.int (-70)], vm := .none },
  { cls := 8, slots := #[.int (-69)], vm := .none },
  { cls := 8, slots := #[.int (-68)], vm := .none },
  { cls := 8, slots := #[.int (-67)], vm := .none },
  { cls := 8, slots := #[.int (-66)], vm := .none },
  { cls := 8, slots := #[.int (-65)], vm := .none },
  { cls := 8, slots := #[.int (-64)], vm := .none },
  { cls := 8, slots := #[.int (-63)], vm := .none },
  { cls := 8, slots := #[.int (-62)], vm := .none },
  { cls := 8, slots := #[.int (-61)], vm := .none },
  { cls := 8, slots := #[.int (-60)], vm := .none },
  { cls := 8, slots := #[.int (-59)], vm := .none },
  { cls := 8, slots := #[.int (-58)], vm := .none },
  { cls := 8, slots := #[.int (-57)], vm := .none },
  { cls := 8, slots := #[.int (-56)], vm := .none },
  { cls := 8, slots := #[.int (-55)], vm := .none },
  { cls := 8, slots := #[.int (-54)], vm := .none },
  { cls := 8, slots := #[.int (-53)], vm := .none },
  { cls := 8, slots := #[.int (-52)], vm := .none },
  { cls := 8, slots := #[.int (-51)], vm := .none },
  { cls := 8, slots := #[.int (-50)], vm := .none },
  { cls := 8, slots := #[.int (-49)], vm := .none },
  { cls := 8, slots := #[.int (-48)], vm := .none },
  { cls := 8, slots := #[.int (-47)], vm := .none },
  { cls := 8, slots := #[.int (-46)], vm := .none },
  { cls := 8, slots := #[.int (-45)], vm := .none },
  { cls := 8, slots := #[.int (-44)], vm := .none },
  { cls := 8, slots := #[.int (-43)], vm := .none },
  { cls := 8, slots := #[.int (-42)], vm := .none },
  { cls := 8, slots := #[.int (-41)], vm := .none },
  { cls := 8, slots := #[.int (-40)], vm := .none },
  { cls := 8, slots := #[.int (-39)], vm := .none },
  { cls := 8, slots := #[.int (-38)], vm := .none },
  { cls := 8, slots := #[.int (-37)], vm := .none },
  { cls := 8, slots := #[.int (-36)], vm := .none },
  { cls := 8, slots := #[.int (-35)], vm := .none },
  { cls := 8, slots := #[.int (-34)], vm := .none },
  { cls := 8, slots := #[.int (-33)], vm := .none },
  { cls := 8, slots := #[.int (-32)], vm := .none },
  { cls := 8, slots := #[.int (-31)], vm := .none },
  { cls := 8, slots := #[.int (-30)], vm := .none },
  { cls := 8, slots := #[.int (-29)], vm := .none },
  { cls := 8, slots := #[.int (-28)], vm := .none },
  { cls := 8, slots := #[.int (-27)], vm := .none },
  { cls := 8, slots := #[.int (-26)], vm := .none },
  { cls := 8, slots := #[.int (-25)], vm := .none },
  { cls := 8, slots := #[.int (-24)], vm := .none },
  { cls := 8, slots := #[.int (-23)], vm := .none },
  { cls := 8, slots := #[.int (-22)], vm := .none },
  { cls := 8, slots := #[.int (-21)], vm := .none },
  { cls := 8, slots := #[.int (-20)], vm := .none },
  { cls := 8, slots := #[.int (-19)], vm := .none },
  { cls := 8, slots := #[.int (-18)], vm := .none },
  { cls := 8, slots := #[.int (-17)], vm := .none },
  { cls := 8, slots := #[.int (-16)], vm := .none },
  { cls := 8, slots := #[.int (-15)], vm := .none },
  { cls := 8, slots := #[.int (-14)], vm := .none },
  { cls := 8, slots := #[.int (-13)], vm := .none },
  { cls := 8, slots := #[.int (-12)], vm := .none },
  { cls := 8, slots := #[.int (-11)], vm := .none },
  { cls := 8, slots := #[.int (-10)], vm := .none },
  { cls := 8, slots := #[.int (-9)], vm := .none },
  { cls := 8, slots := #[.int (-8)], vm := .none },
  { cls := 8, slots := #[.int (-7)], vm := .none },
  { cls := 8, slots := #[.int (-6)], vm := .none },
  { cls := 8, slots := #[.int (-5)], vm := .none },
  { cls := 8, slots := #[.int (-4)], vm := .none },
  { cls := 8, slots := #[.int (-3)], vm := .none },
  { cls := 8, slots := #[.int (-2)], vm := .none },
  { cls := 8, slots := #[.int (-1)], vm := .none },
  { cls := 8, slots := #[.int 0], vm := .none },
  { cls := 8, slots := #[.int 1], vm := .none },
  { cls := 8, slots := #[.int 2], vm := .none },
  { cls := 8, slots := #[.int 3], vm := .none },
  { cls := 8, slots := #[.int 4], vm := .none },
  { cls := 8, slots := #[.int 5], vm := .none },
  { cls := 8, slots := #[.int 6], vm := .none },
  { cls := 8, slots := #[.int 7], vm := .none },
  { cls := 8, slots := #[.int 8], vm := .none },
  { cls := 8, slots := #[.int 9], vm := .none },
  { cls := 8, slots := #[.int 10], vm := .none },
  { cls := 8, slots := #[.int 11], vm := .none },
  { cls := 8, slots := #[.int 12], vm := .none },
  { cls := 8, slots := #[.int 13], vm := .none },
  { cls := 8, slots := #[.int 14], vm := .none },
  { cls := 8, slots := #[.int 15], vm := .none },
  { cls := 8, slots := #[.int 16], vm := .none },
  { cls := 8, slots := #[.int 17], vm := .none },
  { cls := 8, slots := #[.int 18], vm := .none },
  { cls := 8, slots := #[.int 19], vm := .none },
  { cls := 8, slots := #[.int 20], vm := .none },
  { cls := 8, slots := #[.int 21], vm := .none },
  { cls := 8, slots := #[.int 22], vm := .none },
  { cls := 8, slots := #[.int 23], vm := .none },
  { cls := 8, slots := #[.int 24], vm := .none },
  { cls := 8, slots := #[.int 25], vm := .none },
  { cls := 8, slots := #[.int 26], vm := .none },
  { cls := 8, slots := #[.int 27], vm := .none },
  { cls := 8, slots := #[.int 28], vm := .none },
  { cls := 8, slots := #[.int 29], vm := .none },
  { cls := 8, slots := #[.int 30], vm := .none },
  { cls := 8, slots := #[.int 31], vm := .none },
  { cls := 8, slots := #[.int 32], vm := .none },
  { cls := 8, slots := #[.int 33], vm := .none },
  { cls := 8, slots := #[.int 34], vm := .none },
  { cls := 8, slots := #[.int 35], vm := .none },
  { cls := 8, slots := #[.int 36], vm := .none },
  { cls := 8, slots := #[.int 37], vm := .none },
  { cls := 8, slots := #[.int 38], vm := .none },
  { cls := 8, slots := #[.int 39], vm := .none },
  { cls := 8, slots := #[.int 40], vm := .none },
  { cls := 8, slots := #[.int 41], vm := .none },
  { cls := 8, slots := #[.int 42], vm := .none },
  { cls := 8, slots := #[.int 43], vm := .none },
  { cls := 8, slots := #[.int 44], vm := .none },
  { cls := 8, slots := #[.int 45], vm := .none },
  { cls := 8, slots := #[.int 46], vm := .none },
  { cls := 8, slots := #[.int 47], vm := .none },
  { cls := 8, slots := #[.int 48], vm := .none },
  { cls := 8, slots := #[.int 49], vm := .none },
  { cls := 8, slots := #[.int 50], vm := .none },
  { cls := 8, slots := #[.int 51], vm := .none },
  { cls := 8, slots := #[.int 52], vm := .none },
  { cls := 8, slots := #[.int 53], vm := .none },
  { cls := 8, slots := #[.int 54], vm := .none },
  { cls := 8, slots := #[.int 55], vm := .none },
  { cls := 8, slots := #[.int 56], vm := .none },
  { cls := 8, slots := #[.int 57], vm := .none },
  { cls := 8, slots := #[.int 58], vm := .none },
  { cls := 8, slots := #[.int 59], vm := .none },
  { cls := 8, slots := #[.int 60], vm := .none },
  { cls := 8, slots := #[.int 61], vm := .none },
  { cls := 8, slots := #[.int 62], vm := .none },
  { cls := 8, slots := #[.int 63], vm := .none },
  { cls := 8, slots := #[.int 64], vm := .none },
  { cls := 8, slots := #[.int 65], vm := .none },
  { cls := 8, slots := #[.int 66], vm := .none },
  { cls := 8, slots := #[.int 67], vm := .none },
  { cls := 8, slots := #[.int 68], vm := .none },
  { cls := 8, slots := #[.int 69], vm := .none },
  { cls := 8, slots := #[.int 70], vm := .none },
  { cls := 8, slots := #[.int 71], vm := .none },
  { cls := 8, slots := #[.int 72], vm := .none },
  { cls := 8, slots := #[.int 73], vm := .none },
  { cls := 8, slots := #[.int 74], vm := .none },
  { cls := 8, slots := #[.int 75], vm := .none },
  { cls := 8, slots := #[.int 76], vm := .none },
  { cls := 8, slots := #[.int 77], vm := .none },
  { cls := 8, slots := #[.int 78], vm := .none },
  { cls := 8, slots := #[.int 79], vm := .none },
  { cls := 8, slots := #[.int 80], vm := .none },
  { cls := 8, slots := #[.int 81], vm := .none },
  { cls := 8, slots := #[.int 82], vm := .none },
  { cls := 8, slots := #[.int 83], vm := .none },
  { cls := 8, slots := #[.int 84], vm := .none },
  { cls := 8, slots := #[.int 85], vm := .none },
  { cls := 8, slots := #[.int 86], vm := .none },
  { cls := 8, slots := #[.int 87], vm := .none },
  { cls := 8, slots := #[.int 88], vm := .none },
  { cls := 8, slots := #[.int 89], vm := .none },
  { cls := 8, slots := #[.int 90], vm := .none },
  { cls := 8, slots := #[.int 91], vm := .none },
  { cls := 8, slots := #[.int 92], vm := .none },
  { cls := 8, slots := #[.int 93], vm := .none },
  { cls := 8, slots := #[.int 94], vm := .none },
  { cls := 8, slots := #[.int 95], vm := .none },
  { cls := 8, slots := #[.int 96], vm := .none },
  { cls := 8, slots := #[.int 97], vm := .none },
  { cls := 8, slots := #[.int 98], vm := .none },
  { cls := 8, slots := #[.int 99], vm := .none },
  { cls := 8, slots := #[.int 100], vm := .none },
  { cls := 8, slots := #[.int 101], vm := .none },
  { cls := 8, slots := #[.int 102], vm := .none },
  { cls := 8, slots := #[.int 103], vm := .none },
  { cls := 8, slots := #[.int 104], vm := .none },
  { cls := 8, slots := #[.int 105], vm := .none },
  { cls := 8, slots := #[.int 106], vm := .none },
  { cls := 8, slots := #[.int 107], vm := .none },
  { cls := 8, slots := #[.int 108], vm := .none },
  { cls := 8, slots := #[.int 109], vm := .none },
  { cls := 8, slots := #[.int 110], vm := .none },
  { cls := 8, slots := #[.int 111], vm := .none },
  { cls := 8, slots := #[.int 112], vm := .none },
  { cls := 8, slots := #[.int 113], vm := .none },
  { cls := 8, slots := #[.int 114], vm := .none },
  { cls := 8, slots := #[.int 115], vm := .none },
  { cls := 8, slots := #[.int 116], vm := .none },
  { cls := 8, slots := #[.int 117], vm := .none },
  { cls := 8, slots := #[.int 118], vm := .none },
  { cls := 8, slots := #[.int 119], vm := .none },
  { cls := 8, slots := #[.int 120], vm := .none },
  { cls := 8, slots := #[.int 121], vm := .none },
  { cls := 8, slots := #[.int 122], vm := .none },
  { cls := 8, slots := #[.int 123], vm := .none },
  { cls := 8, slots := #[.int 124], vm := .none },
  { cls := 8, slots := #[.int 125], vm := .none },
  { cls := 8, slots := #[.int 126], vm := .none },
  { cls := 8, slots := #[.int 127], vm := .none },
  { cls := 10, slots := #[.long (-128)], vm := .none },
  { cls := 10, slots := #[.long (-127)], vm := .none },
  { cls := 10, slots := #[.long (-126)], vm := .none },
  { cls := 10, slots := #[.long (-125)], vm := .none },
  { cls := 10, slots := #[.long (-124)], vm := .none },
  { cls := 10, slots := #[.long (-123)], vm := .none },
  { cls := 10, slots := #[.long (-122)], vm := .none },
  { cls := 10, slots := #[.long (-121)], vm := .none },
  { cls := 10, slots := #[.long (-120)], vm := .none },
  { cls := 10, slots := #[.long (-119)], vm := .none },
  { cls := 10, slots := #[.long (-118)], vm := .none },
  { cls := 10, slots := #[.long (-117)], vm := .none },
  { cls := 10, slots := #[.long (-116)], vm := .none },
  { cls := 10, slots := #[.long (-115)], vm := .none },
  { cls := 10, slots := #[.long (-114)], vm := .none },
  { cls := 10, slots := #[.long (-113)], vm := .none },
  { cls := 10, slots := #[.long (-112)], vm := .none },
  { cls := 10, slots := #[.long (-111)], vm := .none },
  { cls := 10, slots := #[.long (-110)], vm := .none },
  { cls := 10, slots := #[.long (-109)], vm := .none },
  { cls := 10, slots := #[.long (-108)], vm := .none },
  { cls := 10, slots := #[.long (-107)], vm := .none },
  { cls := 10, slots := #[.long (-106)], vm := .none },
  { cls := 10, slots := #[.long (-105)], vm := .none },
  { cls := 10, slots := #[.long (-104)], vm := .none },
  { cls := 10, slots := #[.long (-103)], vm := .none },
  { cls := 10, slots := #[.long (-102)], vm := .none },
  { cls := 10, slots := #[.long (-101)], vm := .none },
  { cls := 10, slots := #[.long (-100)], vm := .none },
  { cls := 10, slots := #[.long (-99)], vm := .none },
  { cls := 10, slots := #[.long (-98)], vm := .none },
  { cls := 10, slots := #[.long (-97)], vm := .none },
  { cls := 10, slots := #[.long (-96)], vm := .none },
  { cls := 10, slots := #[.long (-95)], vm := .none },
  { cls := 10, slots := #[.long (-94)], vm := .none },
  { cls := 10, slots := #[.long (-93)], vm := .none },
  { cls := 10, slots := #[.long (-92)], vm := .none },
  { cls := 10, slots := #[.long (-91)], vm := .none },
  { cls := 10, slots := #[.long (-90)], vm := .none },
  { cls := 10, slots := #[.long (-89)], vm := .none },
  { cls := 10, slots := #[.long (-88)], vm := .none },
  { cls := 10, slots := #[.long (-87)], vm := .none },
  { cls := 10, slots := #[.long (-86)], vm := .none },
  { cls := 10, slots := #[.long (-85)], vm := .none },
  { cls := 10, slots := #[.long (-84)], vm := .none },
  { cls := 10, slots := #[.long (-83)], vm := .none },
  { cls := 10, slots := #[.long (-82)], vm := .none },
  { cls := 10, slots := #[.long (-81)], vm := .none },
  { cls := 10, slots := #[.long (-80)], vm := .none },
  { cls := 10, slots := #[.long (-79)], vm := .none },
  { cls := 10, slots := #[.long (-78)], vm := .none },
  { cls := 10, slots := #[.long (-77)], vm := .none },
  { cls := 10, slots := #[.long (-76)], vm := .none },
  { cls := 10, slots := #[.long (-75)], vm := .none },
  { cls := 10, slots := #[.long (-74)], vm := .none },
  { cls := 10, slots := #[.long (-73)], vm := .none },
  { cls := 10, slots := #[.long (-72)], vm := .none },
  { cls := 10, slots := #[.long (-71)], vm := .none },
  { cls := 10, slots := #[.long (-70)], vm := .none },
  { cls := 10, slots := #[.long (-69)], vm := .none },
  { cls := 10, slots := #[.long (-68)], vm := .none },
  { cls := 10, slots := #[.long (-67)], vm := .none },
  { cls := 10, slots := #[.long (-66)], vm := .none },
  { cls := 10, slots := #[.long (-65)], vm := .none },
  { cls := 10, slots := #[.long (-64)], vm := .none },
  { cls := 10, slots := #[.long (-63)], vm := .none },
  { cls := 10, slots := #[.long (-62)], vm := .none },
  { cls := 10, slots := #[.long (-61)], vm := .none },
  { cls := 10, slots := #[.long (-60)], vm := .none },
  { cls := 10, slots := #[.long (-59)], vm := .none },
  { cls := 10, slots := #[.long (-58)], vm := .none },
  { cls := 10, slots := #[.long (-57)], vm := .none },
  { cls := 10, slots := #[.long (-56)], vm := .none },
  { cls := 10, slots := #[.long (-55)], vm := .none },
  { cls := 10, slots := #[.long (-54)], vm := .none },
  { cls := 10, slots := #[.long (-53)], vm := .none },
  { cls := 10, slots := #[.long (-52)], vm := .none },
  { cls := 10, slots := #[.long (-51)], vm := .none },
  { cls := 10, slots := #[.long (-50)], vm := .none },
  { cls := 10, slots := #[.long (-49)], vm := .none },
  { cls := 10, slots := #[.long (-48)], vm := .none },
  { cls := 10, slots := #[.long (-47)], vm := .none },
  { cls := 10, slots := #[.long (-46)], vm := .none },
  { cls := 10, slots := #[.long (-45)], vm := .none },
  { cls := 10, slots := #[.long (-44)], vm := .none },
  { cls := 10, slots := #[.long (-43)], vm := .none },
  { cls := 10, slots := #[.long (-42)], vm := .none },
  { cls := 10, slots := #[.long (-41)], vm := .none },
  { cls := 10, slots := #[.long (-40)], vm := .none },
  { cls := 10, slots := #[.long (-39)], vm := .none },
  { cls := 10, slots := #[.long (-38)], vm := .none },
  { cls := 10, slots := #[.long (-37)], vm := .none },
  { cls := 10, slots := #[.long (-36)], vm := .none },
  { cls := 10, slots := #[.long (-35)], vm := .none },
  { cls := 10, slots := #[.long (-34)], vm := .none },
  { cls := 10, slots := #[.long (-33)], vm := .none },
  { cls := 10, slots := #[.long (-32)], vm := .none },
  { cls := 10, slots := #[.long (-31)], vm := .none },
  { cls := 10, slots := #[.long (-30)], vm := .none },
  { cls := 10, slots := #[.long (-29)], vm := .none },
  { cls := 10, slots := #[.long (-28)], vm := .none },
  { cls := 10, slots := #[.long (-27)], vm := .none },
  { cls := 10, slots := #[.long (-26)], vm := .none },
  { cls := 10, slots := #[.long (-25)], vm := .none },
  { cls := 10, slots := #[.long (-24)], vm := .none },
  { cls := 10, slots := #[.long (-23)], vm := .none },
  { cls := 10, slots := #[.long (-22)], vm := .none },
  { cls := 10, slots := #[.long (-21)], vm := .none },
  { cls := 10, slots := #[.long (-20)], vm := .none },
  { cls := 10, slots := #[.long (-19)], vm := .none },
  { cls := 10, slots := #[.long (-18)], vm := .none },
  { cls := 10, slots := #[.long (-17)], vm := .none },
  { cls := 10, slots := #[.long (-16)], vm := .none },
  { cls := 10, slots := #[.long (-15)], vm := .none },
  { cls := 10, slots := #[.long (-14)], vm := .none },
  { cls := 10, slots := #[.long (-13)], vm := .none },
  { cls := 10, slots := #[.long (-12)], vm := .none },
  { cls := 10, slots := #[.long (-11)], vm := .none },
  { cls := 10, slots := #[.long (-10)], vm := .none },
  { cls := 10, slots := #[.long (-9)], vm := .none },
  { cls := 10, slots := #[.long (-8)], vm := .none },
  { cls := 10, slots := #[.long (-7)], vm := .none },
  { cls := 10, slots := #[.long (-6)], vm := .none },
  { cls := 10, slots := #[.long (-5)], vm := .none },
  { cls := 10, slots := #[.long (-4)], vm := .none },
  { cls := 10, slots := #[.long (-3)], vm := .none },
  { cls := 10, slots := #[.long (-2)], vm := .none },
  { cls := 10, slots := #[.long (-1)], vm := .none },
  { cls := 10, slots := #[.long 0], vm := .none },
  { cls := 10, slots := #[.long 1], vm := .none },
  { cls := 10, slots := #[.long 2], vm := .none },
  { cls := 10, slots := #[.long 3], vm := .none },
  { cls := 10, slots := #[.long 4], vm := .none },
  { cls := 10, slots := #[.long 5], vm := .none },
  { cls := 10, slots := #[.long 6], vm := .none },
  { cls := 10, slots := #[.long 7], vm := .none },
  { cls := 10, slots := #[.long 8], vm := .none },
  { cls := 10, slots := #[.long 9], vm := .none },
  { cls := 10, slots := #[.long 10], vm := .none },
  { cls := 10, slots := #[.long 11], vm := .none },
  { cls := 10, slots := #[.long 12], vm := .none },
  { cls := 10, slots := #[.long 13], vm := .none },
  { cls := 10, slots := #[.long 14], vm := .none },
  { cls := 10, slots := #[.long 15], vm := .none },
  { cls := 10, slots := #[.long 16], vm := .none },
  { cls := 10, slots := #[.long 17], vm := .none },
  { cls := 10, slots := #[.long 18], vm := .none },
  { cls := 10, slots := #[.long 19], vm := .none },
  { cls := 10, slots := #[.long 20], vm := .none },
  { cls := 10, slots := #[.long 21], vm := .none },
  { cls := 10, slots := #[.long 22], vm := .none },
  { cls := 10, slots := #[.long 23], vm := .none },
  { cls := 10, slots := #[.long 24], vm := .none },
  { cls := 10, slots := #[.long 25], vm := .none },
  { cls := 10, slots := #[.long 26], vm := .none },
  { cls := 10, slots := #[.long 27], vm := .none },
  { cls := 10, slots := #[.long 28], vm := .none },
  { cls := 10, slots := #[.long 29], vm := .none },
  { cls := 10, slots := #[.long 30], vm := .none },
  { cls := 10, slots := #[.long 31], vm := .none },
  { cls := 10, slots := #[.long 32], vm := .none },
  { cls := 10, slots := #[.long 33], vm := .none },
  { cls := 10, slots := #[.long 34], vm := .none },
  { cls := 10, slots := #[.long 35], vm := .none },
  { cls := 10, slots := #[.long 36], vm := .none },
  { cls := 10, slots := #[.long 37], vm := .none },
  { cls := 10, slots := #[.long 38], vm := .none },
  { cls := 10, slots := #[.long 39], vm := .none },
  { cls := 10, slots := #[.long 40], vm := .none },
  { cls := 10, slots := #[.long 41], vm := .none },
  { cls := 10, slots := #[.long 42], vm := .none },
  { cls := 10, slots := #[.long 43], vm := .none },
  { cls := 10, slots := #[.long 44], vm := .none },
  { cls := 10, slots := #[.long 45], vm := .none },
  { cls := 10, slots := #[.long 46], vm := .none },
  { cls := 10, slots := #[.long 47], vm := .none },
  { cls := 10, slots := #[.long 48], vm := .none },
  { cls := 10, slots := #[.long 49], vm := .none },
  { cls := 10, slots := #[.long 50], vm := .none },
  { cls := 10, slots := #[.long 51], vm := .none },
  { cls := 10, slots := #[.long 52], vm := .none },
  { cls := 10, slots := #[.long 53], vm := .none },
  { cls := 10, slots := #[.long 54], vm := .none },
  { cls := 10, slots := #[.long 55], vm := .none },
  { cls := 10, slots := #[.long 56], vm := .none },
  { cls := 10, slots := #[.long 57], vm := .none },
  { cls := 10, slots := #[.long 58], vm := .none },
  { cls := 10, slots := #[.long 59], vm := .none },
  { cls := 10, slots := #[.long 60], vm := .none },
  { cls := 10, slots := #[.long 61], vm := .none },
  { cls := 10, slots := #[.long 62], vm := .none },
  { cls := 10, slots := #[.long 63], vm := .none },
  { cls := 10, slots := #[.long 64], vm := .none },
  { cls := 10, slots := #[.long 65], vm := .none },
  { cls := 10, slots := #[.long 66], vm := .none },
  { cls := 10, slots := #[.long 67], vm := .none },
  { cls := 10, slots := #[.long 68], vm := .none },
  { cls := 10, slots := #[.long 69], vm := .none },
  { cls := 10, slots := #[.long 70], vm := .none },
  { cls := 10, slots := #[.long 71], vm := .none },
  { cls := 10, slots := #[.long 72], vm := .none },
  { cls := 10, slots := #[.long 73], vm := .none },
  { cls := 10, slots := #[.long 74], vm := .none },
  { cls := 10, slots := #[.long 75], vm := .none },
  { cls := 10, slots := #[.long 76], vm := .none },
  { cls := 10, slots := #[.long 77], vm := .none },
  { cls := 10, slots := #[.long 78], vm := .none },
  { cls := 10, slots := #[.long 79], vm := .none },
  { cls := 10, slots := #[.long 80], vm := .none },
  { cls := 10, slots := #[.long 81], vm := .none },
  { cls := 10, slots := #[.long 82], vm := .none },
  { cls := 10, slots := #[.long 83], vm := .none },
  { cls := 10, slots := #[.long 84], vm := .none },
  { cls := 10, slots := #[.long 85], vm := .none },
  { cls := 10, slots := #[.long 86], vm := .none },
  { cls := 10, slots := #[.long 87], vm := .none },
  { cls := 10, slots := #[.long 88], vm := .none },
  { cls := 10, slots := #[.long 89], vm := .none },
  { cls := 10, slots := #[.long 90], vm := .none },
  { cls := 10, slots := #[.long 91], vm := .none },
  { cls := 10, slots := #[.long 92], vm := .none },
  { cls := 10, slots := #[.long 93], vm := .none },
  { cls := 10, slots := #[.long 94], vm := .none },
  { cls := 10, slots := #[.long 95], vm := .none },
  { cls := 10, slots := #[.long 96], vm := .none },
  { cls := 10, slots := #[.long 97], vm := .none },
  { cls := 10, slots := #[.long 98], vm := .none },
  { cls := 10, slots := #[.long 99], vm := .none },
  { cls := 10, slots := #[.long 100], vm := .none },
  { cls := 10, slots := #[.long 101], vm := .none },
  { cls := 10, slots := #[.long 102], vm := .none },
  { cls := 10, slots := #[.long 103], vm := .none },
  { cls := 10, slots := #[.long 104], vm := .none },
  { cls := 10, slots := #[.long 105], vm := .none },
  { cls := 10, slots := #[.long 106], vm := .none },
  { cls := 10, slots := #[.long 107], vm := .none },
  { cls := 10, slots := #[.long 108], vm := .none },
  { cls := 10, slots := #[.long 109], vm := .none },
  { cls := 10, slots := #[.long 110], vm := .none },
  { cls := 10, slots := #[.long 111], vm := .none },
  { cls := 10, slots := #[.long 112], vm := .none },
  { cls := 10, slots := #[.long 113], vm := .none },
  { cls := 10, slots := #[.long 114], vm := .none },
  { cls := 10, slots := #[.long 115], vm := .none },
  { cls := 10, slots := #[.long 116], vm := .none },
  { cls := 10, slots := #[.long 117], vm := .none },
  { cls := 10, slots := #[.long 118], vm := .none },
  { cls := 10, slots := #[.long 119], vm := .none },
  { cls := 10, slots := #[.long 120], vm := .none },
  { cls := 10, slots := #[.long 121], vm := .none },
  { cls := 10, slots := #[.long 122], vm := .none },
  { cls := 10, slots := #[.long 123], vm := .none },
  { cls := 10, slots := #[.long 124], vm := .none },
  { cls := 10, slots := #[.long 125], vm := .none },
  { cls := 10, slots := #[.long 126], vm := .none },
  { cls := 10, slots := #[.long 127], vm := .none }]
def classes : Array Class := #[k0, k1, k2, k3, k4, k5, k6, k7, k8, k9, k10, k11, k12, k13, k14, k15, k16, k17, k18]
def interned : List (Array UInt16 × Addr) := []
def slotsUsed : Nat := 1032
def theMethod : MethodId := ⟨1, 1⟩
def args0 : Array Value := #[.long 5, .int 1, .long 2, .int 3, .int 4]
def aboutOver (below : List Frame) : State where
  vm := { classes := classes, interned := interned.toArray }
  heap := heap
  slotsUsed := slotsUsed
  threads := #[{ frames := .invoking theMethod args0 :: below }]
def below0 : List Frame := [.native { method := ⟨0, 0⟩, args := #[] }]
def about1 : State := aboutOver below0
def p0 : Program := .bare "" "" ""
def e0 : Env := launch0.env 0 0 0
theorem w_frames : about1.frames = Frame.invoking theMethod args0 :: below0 := rfl
set_option maxRecDepth 65536 in
theorem w_args : argsFit about1.vm theMethod args0 = true := by decide +kernel
set_option maxRecDepth 65536 in
theorem w_heap : heapFits about1 = true := by decide +kernel
set_option maxRecDepth 65536 in
theorem w_runnable : about1.curStatus? = some .runnable := by decide +kernel
set_option maxRecDepth 65536 in
theorem w_alone : about1.alone = true := by decide +kernel
set_option maxRecDepth 65536 in
theorem w_named : about1.methodNamed? x = some theMethod := by decide +kernel
set_option maxRecDepth 65536 in
theorem w_hears : about1.hears theMethod below0 = true := by decide +kernel
set_option maxRecDepth 65536 in
theorem w_ripe : about1.ripe theMethod args0 below0 = true := by decide +kernel
theorem w_running : about1.status = .running := rfl
set_option maxRecDepth 65536 in
theorem w_room : about1.hasRoom e0.platform room_1 = true :=
  launch0.hasRoom_least _ room_1 (by decide +kernel) (by decide +kernel) (by decide +kernel) (by decide +kernel) (by decide +kernel) (by decide +kernel)
theorem allAtoms_all (ts : List Jvm.Cond) (a : Array Jvm.Value) (st : Jvm.State) : (allAtoms ts).before a st = ts.all (fun c => c.before a st) := by
  induction ts with
  | nil => rfl
  | cons c t ih =>
    show (Jvm.Cond.and c (allAtoms t)).before a st = _
    rw [Jvm.Cond.before_and, ih, List.all_cons]
def words1 : List Jvm.Cond := Jvm.Cond.code x code maxLocals ret :: tables_1
/-- a 'code' word, met by the world's own term for the bytes: nothing is compared byte by byte -/
theorem code_word {y : MethodName} {bytes : ByteArray} {mx : Nat} {rt : Option FieldType} {a : Array Value} {s : State} {m : MethodId} {meth : Method} {c : Code} (h1 : s.methodNamed? y = some m) (h2 : s.vm.method? m = some meth) (h3 : meth.code = some c) (h4 : c.code = bytes)
    (h5 : (c.maxLocals == mx && c.exceptionTable.isEmpty && decide (c.maxStack ≤ mostOperands) && decide (meth.sig.returnType = rt) && !meth.locks && decide (parseMethodDescriptor y.desc = some meth.sig)) = true) : (Jvm.Cond.code y bytes mx rt).before a s = true := by
  simp only [Bool.and_eq_true, beq_iff_eq, Bool.not_eq_true', decide_eq_true_eq] at h5
  obtain ⟨⟨⟨⟨⟨g1, g2⟩, g3⟩, g4⟩, g5⟩, g6⟩ := h5
  simp [Cond.before, Cond.holds, Cond.value, h1, h2, h3, h4, g1, g2, g3, g4, g5, g6]
def isCode : Jvm.Cond → Bool
  | .code _ _ _ _ => true
  | _ => false
theorem all_split {L : List Jvm.Cond} {P : Jvm.Cond → Bool} (h1 : L.all (fun c => isCode c || P c) = true) (h2 : ∀ c ∈ L.filter isCode, P c = true) : L.all P = true := by
  refine List.all_eq_true.mpr fun c hc => ?_
  have h := List.all_eq_true.mp h1 c hc
  rcases Bool.eq_false_or_eq_true (isCode c) with hi | hi
  · exact h2 c (List.mem_filter.mpr ⟨hc, hi⟩)
  · simpa [hi] using h
set_option maxRecDepth 65536 in
theorem w_c0 : (Jvm.Cond.code x code maxLocals ret).before args0 about1 = true := code_word (m := ⟨1, 1⟩) (meth := k1m1) (c := k1c1) (by decide +kernel) rfl rfl rfl (by decide +kernel)
set_option maxRecDepth 65536 in
theorem w_c1 : (Jvm.Cond.code ({ cls := "com/example/loudline/loudline/packet/UdpFlow", name := "<init>", desc := "(JI)V" } : Jvm.MethodName) prog_69_method_1_code (4 : Nat) (Option.none : Option Jvm.ClassFile.FieldType)).before args0 about1 = true := code_word (m := ⟨2, 0⟩) (meth := k2m0) (c := k2c0) (by decide +kernel) rfl rfl rfl (by decide +kernel)
set_option maxRecDepth 65536 in
theorem w_c2 : (Jvm.Cond.code ({ cls := "java/lang/Object", name := "<init>", desc := "()V" } : Jvm.MethodName) object_method_1_code (1 : Nat) (Option.none : Option Jvm.ClassFile.FieldType)).before args0 about1 = true := code_word (m := ⟨0, 0⟩) (meth := k0m0) (c := k0c0) (by decide +kernel) rfl rfl rfl (by decide +kernel)
set_option maxRecDepth 65536 in
theorem w_c3 : (Jvm.Cond.code ({ cls := "com/example/loudline/loudline/packet/UdpFlow", name := "equals", desc := "(Ljava/lang/Object;)Z" } : Jvm.MethodName) prog_69_method_4_code (3 : Nat) (Option.some Jvm.ClassFile.FieldType.boolean)).before args0 about1 = true := code_word (m := ⟨2, 1⟩) (meth := k2m1) (c := k2c1) (by decide +kernel) rfl rfl rfl (by decide +kernel)
set_option maxRecDepth 65536 in
theorem w_c4 : (Jvm.Cond.code ({ cls := "java/lang/Integer", name := "valueOf", desc := "(I)Ljava/lang/Integer;" } : Jvm.MethodName) jdk_33_method_22_code (1 : Nat) (Option.some (Jvm.ClassFile.FieldType.object "java/lang/Integer"))).before args0 about1 = true := code_word (m := ⟨8, 0⟩) (meth := k8m0) (c := k8c0) (by decide +kernel) rfl rfl rfl (by decide +kernel)
set_option maxRecDepth 65536 in
theorem w_c5 : (Jvm.Cond.code ({ cls := "java/lang/Integer", name := "<init>", desc := "(I)V" } : Jvm.MethodName) jdk_33_method_23_code (2 : Nat) (Option.none : Option Jvm.ClassFile.FieldType)).before args0 about1 = true := code_word (m := ⟨8, 1⟩) (meth := k8m1) (c := k8c1) (by decide +kernel) rfl rfl rfl (by decide +kernel)
set_option maxRecDepth 65536 in
theorem w_c6 : (Jvm.Cond.code ({ cls := "java/lang/Number", name := "<init>", desc := "()V" } : Jvm.MethodName) jdk_18_method_1_code (1 : Nat) (Option.none : Option Jvm.ClassFile.FieldType)).before args0 about1 = true := code_word (m := ⟨4, 0⟩) (meth := k4m0) (c := k4c0) (by decide +kernel) rfl rfl rfl (by decide +kernel)
set_option maxRecDepth 65536 in
theorem w_c7 : (Jvm.Cond.code ({ cls := "java/lang/Long", name := "valueOf", desc := "(J)Ljava/lang/Long;" } : Jvm.MethodName) jdk_35_method_24_code (3 : Nat) (Option.some (Jvm.ClassFile.FieldType.object "java/lang/Long"))).before args0 about1 = true := code_word (m := ⟨10, 0⟩) (meth := k10m0) (c := k10c0) (by decide +kernel) rfl rfl rfl (by decide +kernel)
set_option maxRecDepth 65536 in
theorem w_c8 : (Jvm.Cond.code ({ cls := "java/lang/Long", name := "<init>", desc := "(J)V" } : Jvm.MethodName) jdk_35_method_26_code (3 : Nat) (Option.none : Option Jvm.ClassFile.FieldType)).before args0 about1 = true := code_word (m := ⟨10, 1⟩) (meth := k10m1) (c := k10c1) (by decide +kernel) rfl rfl rfl (by decide +kernel)
def codes1 : List Jvm.Cond := [Jvm.Cond.code x code maxLocals ret, Jvm.Cond.code ({ cls := "com/example/loudline/loudline/packet/UdpFlow", name := "<init>", desc := "(JI)V" } : Jvm.MethodName) prog_69_method_1_code (4 : Nat) (Option.none : Option Jvm.ClassFile.FieldType), Jvm.Cond.code ({ cls := "java/lang/Object", name := "<init>", desc := "()V" } : Jvm.MethodName) object_method_1_code (1 : Nat) (Option.none : Option Jvm.ClassFile.FieldType), Jvm.Cond.code ({ cls := "com/example/loudline/loudline/packet/UdpFlow", name := "equals", desc := "(Ljava/lang/Object;)Z" } : Jvm.MethodName) prog_69_method_4_code (3 : Nat) (Option.some Jvm.ClassFile.FieldType.boolean), Jvm.Cond.code ({ cls := "java/lang/Integer", name := "valueOf", desc := "(I)Ljava/lang/Integer;" } : Jvm.MethodName) jdk_33_method_22_code (1 : Nat) (Option.some (Jvm.ClassFile.FieldType.object "java/lang/Integer")), Jvm.Cond.code ({ cls := "java/lang/Integer", name := "<init>", desc := "(I)V" } : Jvm.MethodName) jdk_33_method_23_code (2 : Nat) (Option.none : Option Jvm.ClassFile.FieldType), Jvm.Cond.code ({ cls := "java/lang/Number", name := "<init>", desc := "()V" } : Jvm.MethodName) jdk_18_method_1_code (1 : Nat) (Option.none : Option Jvm.ClassFile.FieldType), Jvm.Cond.code ({ cls := "java/lang/Long", name := "valueOf", desc := "(J)Ljava/lang/Long;" } : Jvm.MethodName) jdk_35_method_24_code (3 : Nat) (Option.some (Jvm.ClassFile.FieldType.object "java/lang/Long")), Jvm.Cond.code ({ cls := "java/lang/Long", name := "<init>", desc := "(J)V" } : Jvm.MethodName) jdk_35_method_26_code (3 : Nat) (Option.none : Option Jvm.ClassFile.FieldType)]
set_option maxRecDepth 65536 in
theorem codes_eq : words1.filter isCode = codes1 := rfl
theorem w_codes : ∀ c ∈ words1.filter isCode, c.before args0 about1 = true := by
  rw [codes_eq]
  intro c hc
  simp only [codes1, List.mem_cons, List.not_mem_nil, or_false] at hc
  rcases hc with rfl | rfl | rfl | rfl | rfl | rfl | rfl | rfl | rfl
  · exact w_c0
  · exact w_c1
  · exact w_c2
  · exact w_c3
  · exact w_c4
  · exact w_c5
  · exact w_c6
  · exact w_c7
  · exact w_c8
set_option maxRecDepth 65536 in
theorem w_t1 : (words1.take 24).all (fun c => isCode c || c.before args0 about1) = true := by decide +kernel
set_option maxRecDepth 65536 in
theorem w_t2 : ((words1.drop 24).take 24).all (fun c => isCode c || c.before args0 about1) = true := by decide +kernel
set_option maxRecDepth 65536 in
theorem w_t3 : ((words1.drop 24).drop 24).all (fun c => isCode c || c.before args0 about1) = true := by decide +kernel
theorem w_tables : (allAtoms (Jvm.Cond.code x code maxLocals ret :: tables_1)).before args0 about1 = true := by
  rw [allAtoms_all]
  show words1.all (fun c => c.before args0 about1) = true
  refine all_split ?_ w_codes
  rw [← List.take_append_drop 24 words1, List.all_append, w_t1, ← List.take_append_drop 24 (words1.drop 24), List.all_append, w_t2, w_t3]
  rfl
set_option maxRecDepth 65536 in
theorem w_rest : rest_1_c.before args0 about1 = true := by decide +kernel
set_option maxRecDepth 65536 in
theorem w_case : (Jvm.Cond.and given_1 narrow_1).before args0 about1 = true := by decide +kernel
theorem w_applies : (headSpec (Jvm.Cond.code x code maxLocals ret :: tables_1) room_1).applies x e0.platform about1 = true :=
  (Spec.applies_iff w_frames).mpr ⟨w_running, w_runnable, w_alone, w_named, w_hears, w_ripe, w_room, w_tables⟩
theorem atStart : AtStart classFile x code maxLocals ret World_1 tables_1 room_1 Calls_1 rest_1 Pre_1 launch0 p0 e0 about1 theMethod args0 below0 :=
  ⟨lists_1, trivial, launch0.admits_env _ _ _, launch0.least_env, fairChoices_fair.cas, fairChoices_fair.clock, w_frames, w_args, w_heap, w_applies, trivial, w_rest, w_case⟩
end start1
theorem witness_1 : WitnessClaimed_1 := ⟨start1.p0, start1.e0, start1.about1, start1.theMethod, start1.args0, start1.below0, start1.atStart⟩
end Jvm.Pilot.@@N@@
