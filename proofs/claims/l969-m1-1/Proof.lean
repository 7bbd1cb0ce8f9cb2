import JvmDerived
import JvmDerived.Pilot.@@N@@Statement
import JvmDerived.Pilot.@@N@@Code
set_option linter.unusedVariables false
set_option linter.unusedSimpArgs false
namespace Jvm.RoadKit
open Sem ClassFile Op Lib Jvm.Stand Jvm.Free Jvm.LawKit
section New
variable {p : Program} {l : Launch} {e : Env} {R : Room} {s : State} {m : MethodId} {args : Array Value} {below : List Frame} {meth : Method} {c : Code} {T : State} {locs : List Loc} {cells slots : Nat}
theorem retI (X : Stand p l e R s m args below meth c T locs cells slots) (hx : p.tables.exec = Jvm.exec) {pc : Nat} {Ls : Array Slot} {z : Int32} {rest : List Value} (hret : meth.sig.returnType = some .int) (hd : decode c.code pc = .ok (.ireturn, 1)) {fs : List Frame}
    (hl : ∀ (f : JFrame) (acts : List Action), f.method = m → f.locked = none → f.entered = [] → (doReturn e (T.setTop f) acts (some (.int z))).1 = T.setFrames fs) : Steps p.tables e below (T.setTop (mkF m pc Ls (.int z :: rest))) (T.setFrames fs) := by
  have hm' : T.vm.method? m = some meth := X.method'
  have hn : narrow .int (.int z) = .int z := rfl
  show Steps p.tables e below (T.setTop { method := m, pc := pc, locals := Ls, stack := _ :: rest, locked := none }) _
  jvm_step X.here [X.here.top, hx, hd, hm', hret, hn]
  first | (intro acts; rw [hl _ acts rfl rfl rfl]) | rw [hl _ _ rfl rfl rfl]
  exact Steps.refl _
theorem own_retZ (X : Stand p l e R s m args below meth c T locs cells slots) (hx : p.tables.exec = Jvm.exec) {pc : Nat} {Ls : Array Slot} {z : Int32} {rest : List Value} (hret : meth.sig.returnType = some .boolean) (hz : z &&& 1 = z) (hd : decode c.code pc = .ok (.ireturn, 1)) {fs : List Frame}
    (hl : ∀ (f : JFrame) (acts : List Action), f.method = m → f.locked = none → f.entered = [] → (doReturn e (T.setTop f) acts (some (.int z))).1 = T.setFrames fs) : Steps p.tables e below (T.setTop (mkF m pc Ls (.int z :: rest))) (T.setFrames fs) :=
  retN X hx (t := .boolean) hret (Or.inl rfl) hd (by have q : nar .boolean z = z := hz; rw [q]; exact hl)
theorem own_lrem {g : JFrame} {target : State} (X : Stand p l e R s m args below meth c T locs cells slots) (hx : p.tables.exec = Jvm.exec) (hg : g.method = m) {x y : Int64} {rest : List Value} (hd : decode c.code g.pc = .ok (.lrem, 1)) (hs : g.stack = .long y :: .long x :: rest) (hy : y ≠ 0)
    (hr : Steps p.tables e below (T.setTop { g with pc := g.pc + 1, stack := .long (x % y) :: rest }) target) : Steps p.tables e below (T.setTop g) target :=
  XS.lrem X.here hx hg hd hs hy (by rw [lrem_mod x y]; exact hr)
end New
end Jvm.RoadKit
namespace Jvm.Pilot.@@N@@
open Jvm Jvm.ClassFile Sem Op Lib Jvm.Free Jvm.Stand Jvm.LawKit Jvm.RoadKit Bundle Jvm.Pilot.@@N@@.Jvm.D
section Own
variable {p : Program} {l : Launch} {e : Env} {R : Room} {s : State} {m : MethodId} {args : Array Value} {below : List Frame} {meth : Method} {c : Code} {T : State} {locs : List Loc} {cells slots : Nat} {Z : State} {h h' : Heap} {a b : Addr} {ty : FieldType} {vs : List Value}
/-- the array at a, of elements of kind ty, holds just vs -/
def LA (Z : State) (h : Heap) (a : Addr) (ty : FieldType) (vs : List Value) : Prop := ∃ c : Cell, Arr Z h a c ty ∧ c.slots.toList = vs
theorem LA.lt (F : LA Z h a ty vs) : a < h.size := by obtain ⟨c, A, -⟩ := F; exact A.lt
theorem LA.ext (F : LA Z h a ty vs) (E : Ext h h') : LA Z h' a ty vs := by obtain ⟨c, A, r⟩ := F; exact ⟨c, A.ext E, r⟩
theorem LA.other {sl : Nat} {v : Value} (F : LA Z h b ty vs) (W : Wr h h' a sl v) (q : b ≠ a) : LA Z h' b ty vs := by obtain ⟨c, A, r⟩ := F; exact ⟨c, A.other W q, r⟩
theorem LA.keep {ws : List Addr} (F : LA Z h a ty vs) (K : Keep h h' ws) (q : a ∉ ws) : LA Z h' a ty vs := by obtain ⟨c, A, r⟩ := F; exact ⟨c, ⟨K.2.1 a c A.1 q, A.2⟩, r⟩
theorem LA.new {k : ClassId} {z : Int32} (A : Arr Z h a (newA k ty z) ty) (n : Nat) (q : z.toNatClampNeg = n) : LA Z h a ty (List.replicate n (defaultValue ty)) := ⟨_, A, by subst q; simp [newA]⟩
theorem own_stI (X : Stand p l e R s m args below meth c T locs cells slots) (hx : p.tables.exec = Jvm.exec) (hZ : Z.Warmed39 s.vm) (eT : T.heap = h) (A : LA Z h a .int vs) {j x : Int32} {i : Nat} (hj : j.toNatClampNeg = i) (hi : ¬ j < 0 ∧ i < vs.length) {g : JFrame} (hg : g.method = m) {rest : List Value} (hs : g.stack = .int x :: .int j :: .ref a :: rest) (hd : decode c.code g.pc = .ok (.iastore, 1)) :
    ∃ T' h', Stand p l e R s m args below meth c T' (locs ++ [⟨a, j.toNatClampNeg⟩]) cells slots ∧ T'.heap = h' ∧ Wr h h' a j.toNatClampNeg (.int x) ∧ LA Z h' a .int (vs.set i (.int x)) ∧ ∀ target, Steps p.tables e below (T'.setTop { g with pc := g.pc + 1, stack := rest }) target → Steps p.tables e below (T.setTop g) target := by
  obtain ⟨cl, A, rfl⟩ := A
  subst hj
  have hb : ¬ (j < 0 ∨ cl.slots.size ≤ j.toNatClampNeg) := fun q => q.elim hi.1 fun r => by have := hi.2; rw [Array.length_toList] at this; omega
  obtain ⟨T', h', X', e', W, st⟩ := stI X hx hZ eT A hb hg hs hd
  exact ⟨T', h', X', e', W, ⟨_, A.same W, by simp [Cell.setSlot]⟩, st⟩
theorem own_stJ (X : Stand p l e R s m args below meth c T locs cells slots) (hx : p.tables.exec = Jvm.exec) (hZ : Z.Warmed39 s.vm) (eT : T.heap = h) (A : LA Z h a .long vs) {j : Int32} {x : Int64} {i : Nat} (hj : j.toNatClampNeg = i) (hi : ¬ j < 0 ∧ i < vs.length) {g : JFrame} (hg : g.method = m) {rest : List Value} (hs : g.stack = .long x :: .int j :: .ref a :: rest) (hd : decode c.code g.pc = .ok (.lastore, 1)) :
    ∃ T' h', Stand p l e R s m args below meth c T' (locs ++ [⟨a, j.toNatClampNeg⟩]) cells slots ∧ T'.heap = h' ∧ Wr h h' a j.toNatClampNeg (.long x) ∧ LA Z h' a .long (vs.set i (.long x)) ∧ ∀ target, Steps p.tables e below (T'.setTop { g with pc := g.pc + 1, stack := rest }) target → Steps p.tables e below (T.setTop g) target := by
  obtain ⟨cl, A, rfl⟩ := A
  subst hj
  have hb : ¬ (j < 0 ∨ cl.slots.size ≤ j.toNatClampNeg) := fun q => q.elim hi.1 fun r => by have := hi.2; rw [Array.length_toList] at this; omega
  obtain ⟨T', h', X', e', W, st⟩ := stJ X hx hZ eT A hb hg hs hd
  exact ⟨T', h', X', e', W, ⟨_, A.same W, by simp [Cell.setSlot]⟩, st⟩
theorem own_at {cl : Cell} {j : Int32} {v : Value} (hn : ¬ j < 0) (hat : cl.slots.toList[j.toNatClampNeg]? = some v) : ¬ (j < 0 ∨ cl.slots.size ≤ j.toNatClampNeg) ∧ cl.slots[j.toNatClampNeg]? = some v := by
  have q : cl.slots[j.toNatClampNeg]? = some v := by rw [← Array.getElem?_toList]; exact hat
  exact ⟨fun r => r.elim hn fun z => absurd (Array.getElem?_eq_some_iff.mp q).1 (Nat.not_lt.mpr z), q⟩
theorem own_ldI (X : Stand p l e R s m args below meth c T locs cells slots) (hx : p.tables.exec = Jvm.exec) (hZ : Z.Warmed39 s.vm) (eT : T.heap = h) (A : LA Z h a .int vs) {j x : Int32} (hn : ¬ j < 0) (hat : vs[j.toNatClampNeg]? = some (.int x)) {g : JFrame} (hg : g.method = m) {rest : List Value} (hs : g.stack = .int j :: .ref a :: rest) (hd : decode c.code g.pc = .ok (.iaload, 1)) (target : State)
    (hr : Steps p.tables e below (T.setTop { g with pc := g.pc + 1, stack := .int x :: rest }) target) : Steps p.tables e below (T.setTop g) target := by
  obtain ⟨cl, A, rfl⟩ := A
  exact X.iaload hx (by rw [eT]; exact A.1) (State.isArrayOf_alike hZ.alike A.2.1) A.2.2 (own_at hn hat).1 (own_at hn hat).2 hg hs hd target hr
theorem own_ldJ (X : Stand p l e R s m args below meth c T locs cells slots) (hx : p.tables.exec = Jvm.exec) (hZ : Z.Warmed39 s.vm) (eT : T.heap = h) (A : LA Z h a .long vs) {j : Int32} {x : Int64} (hn : ¬ j < 0) (hat : vs[j.toNatClampNeg]? = some (.long x)) {g : JFrame} (hg : g.method = m) {rest : List Value} (hs : g.stack = .int j :: .ref a :: rest) (hd : decode c.code g.pc = .ok (.laload, 1)) (target : State)
    (hr : Steps p.tables e below (T.setTop { g with pc := g.pc + 1, stack := .long x :: rest }) target) : Steps p.tables e below (T.setTop g) target := by
  obtain ⟨cl, A, rfl⟩ := A
  exact X.laload hx (by rw [eT]; exact A.1) (State.isArrayOf_alike hZ.alike A.2.1) A.2.2 (own_at hn hat).1 (own_at hn hat).2 hg hs hd target hr
theorem own_len (X : Stand p l e R s m args below meth c T locs cells slots) (hx : p.tables.exec = Jvm.exec) (hZ : Z.Warmed39 s.vm) (eT : T.heap = h) (A : LA Z h a ty vs) {n : Int32} (hn : vs.length.toInt32 = n) {g : JFrame} (hg : g.method = m) {rest : List Value} (hs : g.stack = .ref a :: rest) (hd : decode c.code g.pc = .ok (.arraylength, 1)) (target : State)
    (hr : Steps p.tables e below (T.setTop { g with pc := g.pc + 1, stack := .int n :: rest }) target) : Steps p.tables e below (T.setTop g) target := by
  obtain ⟨cl, A, rfl⟩ := A
  refine X.arraylength hx (by rw [eT]; exact A.1) (State.isArrayOf_alike hZ.alike A.2.1) hg hs hd target ?_
  have q : cl.slots.size.toInt32 = n := by rw [← hn, Array.length_toList]
  rw [q]; exact hr
theorem own_clone {a0 : Array Value} (X : Stand p l e R s m args below meth c T locs cells slots) (hx : p.tables.exec = Jvm.exec) (hZ : Z.Warmed39 s.vm) {own ad : String} {index : Nat} (hown : s.vm.findClass own = some m.cls)
    (w1 : (Cond.methodLink own index ⟨ad, "clone", "()Ljava/lang/Object;"⟩).before a0 Z = true) (w2 : (Cond.sameMethod ad "java/lang/Object" "clone" "()Ljava/lang/Object;").before a0 Z = true) (w3 : (Cond.native ⟨"java/lang/Object", "clone", "()Ljava/lang/Object;"⟩).before a0 Z = true)
    (w4 : (Cond.instanceMethod ⟨"java/lang/Object", "clone", "()Ljava/lang/Object;"⟩).before a0 Z = true) (w5 : (Cond.selects ad ⟨ad, "clone", "()Ljava/lang/Object;"⟩ ⟨"java/lang/Object", "clone", "()Ljava/lang/Object;"⟩).before a0 Z = true) (w6 : (Cond.castable ad "java/lang/Cloneable").before a0 Z = true)
    (eT : T.heap = h) (A : LA Z h a ty vs) (E : Exa Z h a ad) (F : ∀ v ∈ vs, fits ty v = true) {g : JFrame} (hg : g.method = m) (hsize : g.locals.size = c.maxLocals) {rest : List Value} (hs : g.stack = .ref a :: rest) (hd : decode c.code g.pc = .ok (.invokevirtual index, 3))
    (hf : 1 ≤ R.frames) {W cap : Nat} (hW : 2 * g.monitorRoom + (rest.map fun v => v.category).sum ≤ W) (hl : W + 14 ≤ R.locals) (hcap : vs.length ≤ cap) (hc : cells + 1 ≤ R.cells) (hsl : slots + cap ≤ R.slots) :
    ∃ T' h', Stand p l e R s m args below meth c T' locs (cells + 1) (slots + cap) ∧ T'.heap = h' ∧ Ext h h' ∧ LA Z h' h.size ty vs ∧ Exa Z h' h.size ad ∧
      ∀ target, Steps p.tables e below (T'.setTop { g with pc := g.pc + 3, stack := .ref h.size :: rest }) target → Steps p.tables e below (T.setTop g) target := by
  obtain ⟨cl, A, rfl⟩ := A
  have FC : FitC Z cl := fitC_of A fun i hi v hv => F v (Array.mem_toList_iff.mpr (Array.mem_of_getElem? hv))
  obtain ⟨T', h', X', e', ex, A', E', st⟩ := cloneA X hx hZ hown w1 w2 w3 w4 w5 w6 eT A E FC hg hsize hs hd hf hW hl (by rw [Array.length_toList] at hcap; exact hcap) hc hsl
  exact ⟨T', h', X', e', ex, ⟨cloneOf cl, A', rfl⟩, E', st⟩
theorem own_fitsJ (xs : List Int64) : ∀ v ∈ xs.map Value.long, fits .long v = true := fun v hv => by
  obtain ⟨x, -, rfl⟩ := List.mem_map.mp hv
  rfl
theorem own_readJ {xs pr rest : List Int64} {x : Int64} {k : Nat} (e : xs = pr ++ x :: rest) (hk : k = pr.length) : (xs.map Value.long)[k]? = some (.long x) := by
  subst e hk
  simp
end Own

theorem own_sel {s : State} {args : Array Value} {y z : MethodName} (h : (Cond.selects y.cls z z).before args s = true) (hz : z.cls = y.cls) (hp : s.PrivateAt y) (hi : (Cond.instanceMethod y).before args s = true) (hy : y.cls ≠ "java/lang/invoke/MethodHandle" ∧ y.cls ≠ "java/lang/invoke/VarHandle") : (Cond.selects y.cls y y).before args s = true := by
  obtain ⟨c2, r2, m2, q1, q2, q3, q4, kP, hkP, hkPi⟩ := Cond.selects_spec h
  exact Stand.selects_self_of_private (hz ▸ findClass_of_methodNamed q3) hkP hkPi hp hi hy
def KT (Z : State) (h : Heap) (a ia ma : Addr) (st : Int32) (bs : Int64) (mk cn : Int32) (xs : List Int32) : Prop :=
  Exa Z h a "com/example/admission_by_rate/admissionbyrate/KeyTable" ∧ Fld Z h a "com/example/admission_by_rate/admissionbyrate/KeyTable" "stride" "I" (.int st) ∧ Fld Z h a "com/example/admission_by_rate/admissionbyrate/KeyTable" "ints" "[I" (.ref ia) ∧ Fld Z h a "com/example/admission_by_rate/admissionbyrate/KeyTable" "base" "J" (.long bs) ∧ Fld Z h a "com/example/admission_by_rate/admissionbyrate/KeyTable" "marks" "Lcom/example/admission_by_rate/admissionbyrate/PlaceMarks;" (.ref ma) ∧ Fld Z h a "com/example/admission_by_rate/admissionbyrate/KeyTable" "mask" "I" (.int mk) ∧ Fld Z h a "com/example/admission_by_rate/admissionbyrate/KeyTable" "count" "I" (.int cn) ∧ LA Z h ia .int (xs.map Value.int) ∧ Exa Z h ma "com/example/admission_by_rate/admissionbyrate/PlaceMarks" ∧ Fld Z h ma "com/example/admission_by_rate/admissionbyrate/PlaceMarks" "words" "[J" .null ∧ a ≠ ia ∧ ma ≠ ia ∧ a ≠ ma
theorem KT.keep {Z : State} {h h' : Heap} {a ia ma : Addr} {st : Int32} {bs : Int64} {mk cn : Int32} {xs : List Int32} {ws : List Addr} (F : KT Z h a ia ma st bs mk cn xs) (k : Keep h h' ws) (n1 : a ∉ ws) (n2 : ia ∉ ws) (n3 : ma ∉ ws) : KT Z h' a ia ma st bs mk cn xs := by
  obtain ⟨f1, f2, f3, f4, f5, f6, f7, f8, f9, f10, r⟩ := F
  exact ⟨f1.keep k, f2.keep k n1, f3.keep k n1, f4.keep k n1, f5.keep k n1, f6.keep k n1, f7.keep k n1, f8.keep k n2, f9.keep k, f10.keep k n3, r⟩
theorem KT.put {Z : State} {h h' : Heap} {a ia ma : Addr} {st : Int32} {bs : Int64} {mk cn : Int32} {xs ys : List Int32} (F : KT Z h a ia ma st bs mk cn xs) (k : Keep h h' [ia]) (A : LA Z h' ia .int (ys.map Value.int)) : KT Z h' a ia ma st bs mk cn ys := by
  obtain ⟨f1, f2, f3, f4, f5, f6, f7, f8, f9, f10, r1, r2, r3⟩ := F
  exact ⟨f1.keep k, f2.keep k (ninS r1 nin0), f3.keep k (ninS r1 nin0), f4.keep k (ninS r1 nin0), f5.keep k (ninS r1 nin0), f6.keep k (ninS r1 nin0), f7.keep k (ninS r1 nin0), A, f9.keep k, f10.keep k (ninS r2 nin0), r1, r2, r3⟩
theorem KT.lt1 {Z : State} {h : Heap} {a ia ma : Addr} {st : Int32} {bs : Int64} {mk cn : Int32} {xs : List Int32} (F : KT Z h a ia ma st bs mk cn xs) : a < h.size ∧ ia < h.size ∧ ma < h.size := ⟨F.1.lt, F.2.2.2.2.2.2.2.1.lt, F.2.2.2.2.2.2.2.2.1.lt⟩
theorem own_ms (xs : List Int32) (i : Nat) (x : Int32) : (xs.map Value.int).set i (.int x) = (xs.set i x).map Value.int := by simp
def own_of (x y : Int32) : Int64 := ((x.toInt64 <<< ((32 : Int32) &&& 0x3f).toInt64) ||| (y.toInt64 &&& (4294967295 : Int64)))
def own_hi (q : Int64) : Int32 := (((q.toUInt64 >>> ((32 : Int32) &&& 0x3f).toInt64.toUInt64).toInt64).toInt32)
def own_holds (st : Int32) (bs q : Int64) : Int32 := if st = (4 : Int32) then (1 : Int32) else (if (q - bs) = (((q - bs).toInt32).toInt64) then (1 : Int32) else (0 : Int32))
def own_minJ (x y : Int64) : Int64 := if y < x then y else x
def own_maxJ (x y : Int64) : Int64 := if x < y then y else x
def own_near (x y : Int64) : Int32 := if (y - x) < (0 : Int64) then (0 : Int32) else (if (2147483648 : Int64) < (y - x) then (0 : Int32) else (1 : Int32))
theorem own_fitI (x : Int64) : x = x.toInt32.toInt64 ↔ (-2147483648 ≤ x.toInt ∧ x.toInt ≤ 2147483647) := by
  have a := rng64 x
  have b := c_l2i x
  have c := rng32 x.toInt32
  have d := c_i2l x.toInt32
  rw [← Int64.toInt_inj, d]
  omega
theorem own_sub0 (x : Int64) : x - (0 : Int64) = x := Int64.sub_zero x
theorem own_m3 (q : Int64) : own_holds (3 : Int32) (0 : Int64) q = (if q < (-2147483648 : Int64) then (0 : Int32) else (if (2147483647 : Int64) < q then (0 : Int32) else (1 : Int32))) := by
  unfold own_holds
  rw [if_neg (by decide), own_sub0]
  have e := own_fitI q
  have l1 : (-2147483648 : Int64).toInt = -2147483648 := by decide
  have l2 : (2147483647 : Int64).toInt = 2147483647 := by decide
  by_cases h1 : q < (-2147483648 : Int64)
  · have := Int64.lt_iff_toInt_lt.mp h1
    rw [if_pos h1, if_neg (fun z => by have := e.mp z; omega)]
  · have k1 : ¬ q.toInt < (-2147483648 : Int64).toInt := fun z => h1 (Int64.lt_iff_toInt_lt.mpr z)
    rw [if_neg h1]
    by_cases h2 : (2147483647 : Int64) < q
    · have := Int64.lt_iff_toInt_lt.mp h2
      rw [if_pos h2, if_neg (fun z => by have := e.mp z; omega)]
    · have k2 : ¬ (2147483647 : Int64).toInt < q.toInt := fun z => h2 (Int64.lt_iff_toInt_lt.mpr z)
      rw [if_neg h2, if_pos (e.mpr (by omega))]
theorem own_offs (s q : Int64) : (q - (s - (-2147483648 : Int64))).toInt = ((q - s).toInt - 2147483648) ∨ ((q - s).toInt < -9223372034707292160 ∧ (q - (s - (-2147483648 : Int64))).toInt = (q - s).toInt - 2147483648 + 18446744073709551616) := by
  have a1 := c_lsub s (-2147483648 : Int64)
  have l1 : (-2147483648 : Int64).toInt = -2147483648 := by decide
  have a2 := c_lsub q (s - (-2147483648 : Int64))
  have a3 := c_lsub q s
  have r1 := rng64 (q - (s - (-2147483648 : Int64)))
  have r2 := rng64 (q - s)
  omega
theorem own_m1 (s q : Int64) : own_holds (3 : Int32) (s - (-2147483648 : Int64)) q = (if (((q - s).toUInt64 >>> ((32 : Int32) &&& 0x3f).toInt64.toUInt64).toInt64) = (0 : Int64) then (1 : Int32) else (0 : Int32)) := by
  unfold own_holds
  rw [if_neg (by decide)]
  have e := own_fitI (q - (s - (-2147483648 : Int64)))
  have o := own_offs s q
  have r2 := rng64 (q - s)
  have u := c_lushr (q - s) (32 : Int32) 32 (by decide) (by decide)
  have z0 : (0 : Int64).toInt = 0 := by decide
  have pe2 : ((((q - s).toUInt64 >>> ((32 : Int32) &&& 0x3f).toInt64.toUInt64).toInt64) = (0 : Int64)) ↔ (0 ≤ (q - s).toInt ∧ (q - s).toInt < 4294967296) := by
    rw [← Int64.toInt_inj, u, z0]
    have p : ((2 ^ 32 : Nat) : Int) = 4294967296 := by decide
    rw [p]; omega
  by_cases h : (((q - s).toUInt64 >>> ((32 : Int32) &&& 0x3f).toInt64.toUInt64).toInt64) = (0 : Int64)
  · rw [if_pos h, if_pos (e.mpr (by have := pe2.mp h; omega))]
  · rw [if_neg h, if_neg (fun z => h (pe2.mpr (by have := e.mp z; omega)))]
theorem own_self (s : Int64) : s - (s - (-2147483648 : Int64)) = (-2147483648 : Int64) := by
  apply Int64.toInt_inj.mp
  have a1 := c_lsub s (-2147483648 : Int64)
  have l1 : (-2147483648 : Int64).toInt = -2147483648 := by decide
  have a2 := c_lsub s (s - (-2147483648 : Int64))
  have r1 := rng64 (s - (s - (-2147483648 : Int64)))
  omega
theorem own_back (s : Int64) : (s - (-2147483648 : Int64)) + ((s - (s - (-2147483648 : Int64))).toInt32).toInt64 = s := by
  rw [own_self]
  have e : ((-2147483648 : Int64).toInt32).toInt64 = (-2147483648 : Int64) := by decide
  rw [e, Int64.sub_add_cancel]
theorem own_h1 (s : Int64) : own_holds (3 : Int32) (s - (-2147483648 : Int64)) s = (1 : Int32) := by
  unfold own_holds
  rw [if_neg (by decide), own_self, if_pos (by decide)]
theorem own_near0 (s : Int64) : own_near s s = (1 : Int32) := by
  unfold own_near
  rw [Int64.sub_self, if_neg (by decide), if_neg (by decide)]
theorem d19_0 : decode jdk_29_method_70_code 0 = .ok (.lload_n 0, 1) := by decide +kernel
theorem d19_1 : decode jdk_29_method_70_code 1 = .ok (.lload_n 2, 1) := by decide +kernel
theorem d19_2 : decode jdk_29_method_70_code 2 = .ok (.lcmp, 1) := by decide +kernel
theorem d19_3 : decode jdk_29_method_70_code 3 = .ok (.ifCond .gt 7, 3) := by decide +kernel
theorem d19_10 : decode jdk_29_method_70_code 10 = .ok (.lload_n 2, 1) := by decide +kernel
theorem d19_11 : decode jdk_29_method_70_code 11 = .ok (.lreturn, 1) := by decide +kernel
theorem d19_6 : decode jdk_29_method_70_code 6 = .ok (.lload_n 0, 1) := by decide +kernel
theorem d19_7 : decode jdk_29_method_70_code 7 = .ok (.goto 4, 3) := by decide +kernel
theorem ef_rm19 (m : MethodId) (x0 : Int64) (x1 : Int64) : entryFrame m #[(.long x0), (.long x1)] 4 = mkF m 0 #[.val (.long x0), .second, .val (.long x1), .second] [] := by first | (simp [entryFrame, mkF, argsToLocals, Value.category]; done) | rfl
def Q19 (Z : State) (x : Int64) (y : Int64) (h0 : Heap) (n0 : Nat) (v : Option Value) (h : Heap) (L : List Loc) : Prop := v = some (.long (own_minJ x y)) ∧ Fr n0 L ∧ h = h0
set_option maxRecDepth 65536 in
set_option maxHeartbeats 40000000 in
theorem rm19 (l : Launch) (Z : State) (a0 : Array Value) (hw : ∀ d ∈ tables_1, d.before a0 Z = true) (ws : List Jvm.Cond) (x : Int64) (y : Int64) (h0 : Heap) (n0 : Nat) (Z0 : n0 ≤ h0.size) :
    MetFree l (⟨"java/lang/Math", "min", "(JJ)J"⟩ : MethodName) (head1 (Jvm.Cond.code (⟨"java/lang/Math", "min", "(JJ)J"⟩ : MethodName) jdk_29_method_70_code 4 (some .long) :: ws) ({ frames := 0, cells := 0, slots := 0, locals := 0 } : Room)) (fun aa U => aa = #[(.long x), (.long y)] ∧ Z.Warmed39 U.vm ∧ U.heap = h0) (fun _ _ _ _ _ => True) (fun _ U o U' => ∃ v L, o = .returned v ∧ Q19 Z x y h0 n0 v U'.heap L ∧ FrameEnd U o U' L ({ frames := 0, cells := 0, slots := 0, locals := 0 } : Room).cells ({ frames := 0, cells := 0, slots := 0, locals := 0 } : Room).slots) := by
  refine MetFree.of_bodySF (Jvm.Free.JP.mathPlain rfl (by decide +kernel)) hisR ?_
  intro p e s m args below meth c s₁ Bd hml0 hP hK
  obtain ⟨rfl, hZ, hh⟩ := hP
  have hx := Bd.exec
  have hby := Bd.bytes
  have hml : c.maxLocals = 4 := hml0
  have hown : s.vm.findClass "java/lang/Math" = some m.cls := findClass_of_methodNamed Bd.named
  have hnm := (name_of_methodNamed Bd.named Bd.method).1
  have X0 : Stand p l e ({ frames := 0, cells := 0, slots := 0, locals := 0 } : Room) s m #[(.long x), (.long y)] below meth c s₁ [] 0 0 := Stand.of_body Bd
  have e0 : s₁.heap = h0 := by rw [← hh, Bd.state]; rfl
  have N0 := Fr.nil n0
  obtain ⟨Ω, hΩ⟩ : ∃ z, z = s₁.setTop (entryFrame m #[(.long x), (.long y)] 4) := ⟨_, rfl⟩
  have S0 : Steps p.tables e below Ω (s₁.setTop (mkF m 0 #[.val (.long x), .second, .val (.long y), .second] [])) := by rw [hΩ]; exact castTop (ef_rm19 m x y) (Steps.refl _)
  have S1 : Steps p.tables e below Ω (s₁.setTop (mkF m 3 #[.val (.long x), .second, .val (.long y), .second] [(.int (lcmpW x y))])) := by
    refine S0.trans ?_
    refine XS.lloadN X0.here hx rfl (hb hby d19_0) rfl ?_
    show Steps p.tables e below (s₁.setTop (mkF m 1 #[.val (.long x), .second, .val (.long y), .second] [(.long x)])) _
    refine XS.lloadN X0.here hx rfl (hb hby d19_1) rfl ?_
    show Steps p.tables e below (s₁.setTop (mkF m 2 #[.val (.long x), .second, .val (.long y), .second] [(.long y), (.long x)])) _
    refine XS.lcmp X0.here hx rfl (hb hby d19_2) rfl ?_
    exact Steps.refl _
  by_cases hc : y < x
  · have qhc : y.toInt < x.toInt := Int64.lt_iff_toInt_lt.mp hc
    have S2 : Steps p.tables e below Ω (s₁.setTop (mkF m 11 #[.val (.long x), .second, .val (.long y), .second] [(.long y)])) := by
      refine S1.trans ?_
      refine XS.ifYes X0.here hx rfl (pc0 := 3) (pc' := 10) rfl (hb hby d19_3) rfl (XT.ll_gt_t hc) (by decide) (by decide) ?_
      show Steps p.tables e below (s₁.setTop (mkF m 10 #[.val (.long x), .second, .val (.long y), .second] [])) _
      refine XS.lloadN X0.here hx rfl (hb hby d19_10) rfl ?_
      exact Steps.refl _
    obtain ⟨fs, hr, hrun, hended, hW, hsame⟩ := X0.leave (v := some (.long y)) (fun h => by rw [Bd.returns] at h; cases h)
    have hfin : Steps p.tables e below Ω (s₁.setFrames fs) := by
      refine S2.trans ?_
      exact X0.lreturnOut hx Bd.returns (hb hby d19_11) hr
    rw [hΩ] at hfin
    refine ⟨_, _, hfin, hrun, hended, _, _, rfl, ?_, ⟨_, rfl⟩, hW, hsame.mono (by decide) (by decide)⟩
    show Q19 Z x y h0 n0 _ s₁.heap _
    rw [e0]
    exact ⟨by rw [own_minJ, if_pos hc], N0, rfl⟩
  · have qhc : ¬ y.toInt < x.toInt := fun q => hc (Int64.lt_iff_toInt_lt.mpr q)
    have S3 : Steps p.tables e below Ω (s₁.setTop (mkF m 11 #[.val (.long x), .second, .val (.long y), .second] [(.long x)])) := by
      refine S1.trans ?_
      refine XS.ifNo X0.here hx rfl (hb hby d19_3) rfl (XT.ll_gt_f hc) ?_
      show Steps p.tables e below (s₁.setTop (mkF m 6 #[.val (.long x), .second, .val (.long y), .second] [])) _
      refine XS.lloadN X0.here hx rfl (hb hby d19_6) rfl ?_
      show Steps p.tables e below (s₁.setTop (mkF m 7 #[.val (.long x), .second, .val (.long y), .second] [(.long x)])) _
      refine XS.goto X0.here hx rfl (pc0 := 7) (pc' := 11) rfl (hb hby d19_7) (by decide) (by decide) ?_
      exact Steps.refl _
    obtain ⟨fs, hr, hrun, hended, hW, hsame⟩ := X0.leave (v := some (.long x)) (fun h => by rw [Bd.returns] at h; cases h)
    have hfin : Steps p.tables e below Ω (s₁.setFrames fs) := by
      refine S3.trans ?_
      exact X0.lreturnOut hx Bd.returns (hb hby d19_11) hr
    rw [hΩ] at hfin
    refine ⟨_, _, hfin, hrun, hended, _, _, rfl, ?_, ⟨_, rfl⟩, hW, hsame.mono (by decide) (by decide)⟩
    show Q19 Z x y h0 n0 _ s₁.heap _
    rw [e0]
    exact ⟨by rw [own_minJ, if_neg hc], N0, rfl⟩
theorem d20_0 : decode jdk_29_method_66_code 0 = .ok (.lload_n 0, 1) := by decide +kernel
theorem d20_1 : decode jdk_29_method_66_code 1 = .ok (.lload_n 2, 1) := by decide +kernel
theorem d20_2 : decode jdk_29_method_66_code 2 = .ok (.lcmp, 1) := by decide +kernel
theorem d20_3 : decode jdk_29_method_66_code 3 = .ok (.ifCond .lt 7, 3) := by decide +kernel
theorem d20_10 : decode jdk_29_method_66_code 10 = .ok (.lload_n 2, 1) := by decide +kernel
theorem d20_11 : decode jdk_29_method_66_code 11 = .ok (.lreturn, 1) := by decide +kernel
theorem d20_6 : decode jdk_29_method_66_code 6 = .ok (.lload_n 0, 1) := by decide +kernel
theorem d20_7 : decode jdk_29_method_66_code 7 = .ok (.goto 4, 3) := by decide +kernel
theorem ef_rm20 (m : MethodId) (x0 : Int64) (x1 : Int64) : entryFrame m #[(.long x0), (.long x1)] 4 = mkF m 0 #[.val (.long x0), .second, .val (.long x1), .second] [] := by first | (simp [entryFrame, mkF, argsToLocals, Value.category]; done) | rfl
def Q20 (Z : State) (x : Int64) (y : Int64) (h0 : Heap) (n0 : Nat) (v : Option Value) (h : Heap) (L : List Loc) : Prop := v = some (.long (own_maxJ x y)) ∧ Fr n0 L ∧ h = h0
set_option maxRecDepth 65536 in
set_option maxHeartbeats 40000000 in
theorem rm20 (l : Launch) (Z : State) (a0 : Array Value) (hw : ∀ d ∈ tables_1, d.before a0 Z = true) (ws : List Jvm.Cond) (x : Int64) (y : Int64) (h0 : Heap) (n0 : Nat) (Z0 : n0 ≤ h0.size) :
    MetFree l (⟨"java/lang/Math", "max", "(JJ)J"⟩ : MethodName) (head1 (Jvm.Cond.code (⟨"java/lang/Math", "max", "(JJ)J"⟩ : MethodName) jdk_29_method_66_code 4 (some .long) :: ws) ({ frames := 0, cells := 0, slots := 0, locals := 0 } : Room)) (fun aa U => aa = #[(.long x), (.long y)] ∧ Z.Warmed39 U.vm ∧ U.heap = h0) (fun _ _ _ _ _ => True) (fun _ U o U' => ∃ v L, o = .returned v ∧ Q20 Z x y h0 n0 v U'.heap L ∧ FrameEnd U o U' L ({ frames := 0, cells := 0, slots := 0, locals := 0 } : Room).cells ({ frames := 0, cells := 0, slots := 0, locals := 0 } : Room).slots) := by
  refine MetFree.of_bodySF (Jvm.Free.JP.mathPlain rfl (by decide +kernel)) hisR ?_
  intro p e s m args below meth c s₁ Bd hml0 hP hK
  obtain ⟨rfl, hZ, hh⟩ := hP
  have hx := Bd.exec
  have hby := Bd.bytes
  have hml : c.maxLocals = 4 := hml0
  have hown : s.vm.findClass "java/lang/Math" = some m.cls := findClass_of_methodNamed Bd.named
  have hnm := (name_of_methodNamed Bd.named Bd.method).1
  have X0 : Stand p l e ({ frames := 0, cells := 0, slots := 0, locals := 0 } : Room) s m #[(.long x), (.long y)] below meth c s₁ [] 0 0 := Stand.of_body Bd
  have e0 : s₁.heap = h0 := by rw [← hh, Bd.state]; rfl
  have N0 := Fr.nil n0
  obtain ⟨Ω, hΩ⟩ : ∃ z, z = s₁.setTop (entryFrame m #[(.long x), (.long y)] 4) := ⟨_, rfl⟩
  have S0 : Steps p.tables e below Ω (s₁.setTop (mkF m 0 #[.val (.long x), .second, .val (.long y), .second] [])) := by rw [hΩ]; exact castTop (ef_rm20 m x y) (Steps.refl _)
  have S1 : Steps p.tables e below Ω (s₁.setTop (mkF m 3 #[.val (.long x), .second, .val (.long y), .second] [(.int (lcmpW x y))])) := by
    refine S0.trans ?_
    refine XS.lloadN X0.here hx rfl (hb hby d20_0) rfl ?_
    show Steps p.tables e below (s₁.setTop (mkF m 1 #[.val (.long x), .second, .val (.long y), .second] [(.long x)])) _
    refine XS.lloadN X0.here hx rfl (hb hby d20_1) rfl ?_
    show Steps p.tables e below (s₁.setTop (mkF m 2 #[.val (.long x), .second, .val (.long y), .second] [(.long y), (.long x)])) _
    refine XS.lcmp X0.here hx rfl (hb hby d20_2) rfl ?_
    exact Steps.refl _
  by_cases hc : x < y
  · have qhc : x.toInt < y.toInt := Int64.lt_iff_toInt_lt.mp hc
    have S2 : Steps p.tables e below Ω (s₁.setTop (mkF m 11 #[.val (.long x), .second, .val (.long y), .second] [(.long y)])) := by
      refine S1.trans ?_
      refine XS.ifYes X0.here hx rfl (pc0 := 3) (pc' := 10) rfl (hb hby d20_3) rfl (XT.ll_lt_t hc) (by decide) (by decide) ?_
      show Steps p.tables e below (s₁.setTop (mkF m 10 #[.val (.long x), .second, .val (.long y), .second] [])) _
      refine XS.lloadN X0.here hx rfl (hb hby d20_10) rfl ?_
      exact Steps.refl _
    obtain ⟨fs, hr, hrun, hended, hW, hsame⟩ := X0.leave (v := some (.long y)) (fun h => by rw [Bd.returns] at h; cases h)
    have hfin : Steps p.tables e below Ω (s₁.setFrames fs) := by
      refine S2.trans ?_
      exact X0.lreturnOut hx Bd.returns (hb hby d20_11) hr
    rw [hΩ] at hfin
    refine ⟨_, _, hfin, hrun, hended, _, _, rfl, ?_, ⟨_, rfl⟩, hW, hsame.mono (by decide) (by decide)⟩
    show Q20 Z x y h0 n0 _ s₁.heap _
    rw [e0]
    exact ⟨by rw [own_maxJ, if_pos hc], N0, rfl⟩
  · have qhc : ¬ x.toInt < y.toInt := fun q => hc (Int64.lt_iff_toInt_lt.mpr q)
    have S3 : Steps p.tables e below Ω (s₁.setTop (mkF m 11 #[.val (.long x), .second, .val (.long y), .second] [(.long x)])) := by
      refine S1.trans ?_
      refine XS.ifNo X0.here hx rfl (hb hby d20_3) rfl (XT.ll_lt_f hc) ?_
      show Steps p.tables e below (s₁.setTop (mkF m 6 #[.val (.long x), .second, .val (.long y), .second] [])) _
      refine XS.lloadN X0.here hx rfl (hb hby d20_6) rfl ?_
      show Steps p.tables e below (s₁.setTop (mkF m 7 #[.val (.long x), .second, .val (.long y), .second] [(.long x)])) _
      refine XS.goto X0.here hx rfl (pc0 := 7) (pc' := 11) rfl (hb hby d20_7) (by decide) (by decide) ?_
      exact Steps.refl _
    obtain ⟨fs, hr, hrun, hended, hW, hsame⟩ := X0.leave (v := some (.long x)) (fun h => by rw [Bd.returns] at h; cases h)
    have hfin : Steps p.tables e below Ω (s₁.setFrames fs) := by
      refine S3.trans ?_
      exact X0.lreturnOut hx Bd.returns (hb hby d20_11) hr
    rw [hΩ] at hfin
    refine ⟨_, _, hfin, hrun, hended, _, _, rfl, ?_, ⟨_, rfl⟩, hW, hsame.mono (by decide) (by decide)⟩
    show Q20 Z x y h0 n0 _ s₁.heap _
    rw [e0]
    exact ⟨by rw [own_maxJ, if_neg hc], N0, rfl⟩
theorem d12_0 : decode prog_28_method_22_code 0 = .ok (.lload_n 2, 1) := by decide +kernel
theorem d12_1 : decode prog_28_method_22_code 1 = .ok (.lload_n 0, 1) := by decide +kernel
theorem d12_2 : decode prog_28_method_22_code 2 = .ok (.lsub, 1) := by decide +kernel
theorem d12_3 : decode prog_28_method_22_code 3 = .ok (.lstore 4, 2) := by decide +kernel
theorem d12_5 : decode prog_28_method_22_code 5 = .ok (.lload 4, 2) := by decide +kernel
theorem d12_7 : decode prog_28_method_22_code 7 = .ok (.lconst 0, 1) := by decide +kernel
theorem d12_8 : decode prog_28_method_22_code 8 = .ok (.lcmp, 1) := by decide +kernel
theorem d12_9 : decode prog_28_method_22_code 9 = .ok (.ifCond .lt 16, 3) := by decide +kernel
theorem d12_25 : decode prog_28_method_22_code 25 = .ok (.iconst 0, 1) := by decide +kernel
theorem d12_26 : decode prog_28_method_22_code 26 = .ok (.ireturn, 1) := by decide +kernel
theorem d12_12 : decode prog_28_method_22_code 12 = .ok (.lload 4, 2) := by decide +kernel
theorem d12_14 : decode prog_28_method_22_code 14 = .ok (.ldc2_w 139, 3) := by decide +kernel
theorem d12_17 : decode prog_28_method_22_code 17 = .ok (.lcmp, 1) := by decide +kernel
theorem d12_18 : decode prog_28_method_22_code 18 = .ok (.ifCond .gt 7, 3) := by decide +kernel
theorem d12_21 : decode prog_28_method_22_code 21 = .ok (.iconst 1, 1) := by decide +kernel
theorem d12_22 : decode prog_28_method_22_code 22 = .ok (.goto 4, 3) := by decide +kernel
theorem pn_0 : plainName "com/example/admission_by_rate/admissionbyrate/KeyTable" = true := by first | (simp [plainName, overriddenIn]; done) | decide +kernel
theorem ef_rm12 (m : MethodId) (x0 : Int64) (x1 : Int64) : entryFrame m #[(.long x0), (.long x1)] 6 = mkF m 0 #[.val (.long x0), .second, .val (.long x1), .second, .unset, .unset] [] := by first | (simp [entryFrame, mkF, argsToLocals, Value.category]; done) | rfl
def Q12 (Z : State) (q1 : Int64) (q2 : Int64) (h0 : Heap) (n0 : Nat) (v : Option Value) (h : Heap) (L : List Loc) : Prop := v = some (.int (own_near q1 q2)) ∧ Fr n0 L ∧ h = h0
set_option maxRecDepth 65536 in
set_option maxHeartbeats 40000000 in
theorem rm12 (l : Launch) (Z : State) (a0 : Array Value) (hw : ∀ d ∈ tables_1, d.before a0 Z = true) (ws : List Jvm.Cond) (q1 : Int64) (q2 : Int64) (h0 : Heap) (n0 : Nat) (Z0 : n0 ≤ h0.size) :
    MetFree l (⟨"com/example/admission_by_rate/admissionbyrate/KeyTable", "near", "(JJ)Z"⟩ : MethodName) (head1 (Jvm.Cond.code (⟨"com/example/admission_by_rate/admissionbyrate/KeyTable", "near", "(JJ)Z"⟩ : MethodName) prog_28_method_22_code 6 (some .boolean) :: ws) ({ frames := 0, cells := 0, slots := 0, locals := 0 } : Room)) (fun aa U => aa = #[(.long q1), (.long q2)] ∧ Z.Warmed39 U.vm ∧ U.heap = h0) (fun _ _ _ _ _ => True) (fun _ U o U' => ∃ v L, o = .returned v ∧ Q12 Z q1 q2 h0 n0 v U'.heap L ∧ FrameEnd U o U' L ({ frames := 0, cells := 0, slots := 0, locals := 0 } : Room).cells ({ frames := 0, cells := 0, slots := 0, locals := 0 } : Room).slots) := by
  refine MetFree.of_bodySF (plainFor_of_name pn_0) hisR ?_
  intro p e s m args below meth c s₁ Bd hml0 hP hK
  obtain ⟨rfl, hZ, hh⟩ := hP
  have hx := Bd.exec
  have hby := Bd.bytes
  have hml : c.maxLocals = 6 := hml0
  have hown : s.vm.findClass "com/example/admission_by_rate/admissionbyrate/KeyTable" = some m.cls := findClass_of_methodNamed Bd.named
  have hnm := (name_of_methodNamed Bd.named Bd.method).1
  have X0 : Stand p l e ({ frames := 0, cells := 0, slots := 0, locals := 0 } : Room) s m #[(.long q1), (.long q2)] below meth c s₁ [] 0 0 := Stand.of_body Bd
  have e0 : s₁.heap = h0 := by rw [← hh, Bd.state]; rfl
  have N0 := Fr.nil n0
  obtain ⟨Ω, hΩ⟩ : ∃ z, z = s₁.setTop (entryFrame m #[(.long q1), (.long q2)] 6) := ⟨_, rfl⟩
  have S0 : Steps p.tables e below Ω (s₁.setTop (mkF m 0 #[.val (.long q1), .second, .val (.long q2), .second, .unset, .unset] [])) := by rw [hΩ]; exact castTop (ef_rm12 m q1 q2) (Steps.refl _)
  have S1 : Steps p.tables e below Ω (s₁.setTop (mkF m 9 #[.val (.long q1), .second, .val (.long q2), .second, .val (.long (q2 - q1)), .second] [(.int (lcmpW (q2 - q1) (0 : Int64)))])) := by
    refine S0.trans ?_
    refine XS.lloadN X0.here hx rfl (hb hby d12_0) rfl ?_
    show Steps p.tables e below (s₁.setTop (mkF m 1 #[.val (.long q1), .second, .val (.long q2), .second, .unset, .unset] [(.long q2)])) _
    refine XS.lloadN X0.here hx rfl (hb hby d12_1) rfl ?_
    show Steps p.tables e below (s₁.setTop (mkF m 2 #[.val (.long q1), .second, .val (.long q2), .second, .unset, .unset] [(.long q1), (.long q2)])) _
    refine XS.lsub X0.here hx rfl (hb hby d12_2) rfl ?_
    show Steps p.tables e below (s₁.setTop (mkF m 3 #[.val (.long q1), .second, .val (.long q2), .second, .unset, .unset] [(.long (q2 - q1))])) _
    refine XS.lstore X0.here hx rfl (hb hby d12_3) rfl (l' := #[.val (.long q1), .second, .val (.long q2), .second, .val (.long (q2 - q1)), .second]) rfl ?_
    show Steps p.tables e below (s₁.setTop (mkF m 5 #[.val (.long q1), .second, .val (.long q2), .second, .val (.long (q2 - q1)), .second] [])) _
    refine XS.lload X0.here hx rfl (hb hby d12_5) rfl ?_
    show Steps p.tables e below (s₁.setTop (mkF m 7 #[.val (.long q1), .second, .val (.long q2), .second, .val (.long (q2 - q1)), .second] [(.long (q2 - q1))])) _
    refine XS.lconst X0.here hx rfl (hb hby d12_7) ?_
    show Steps p.tables e below (s₁.setTop (mkF m 8 #[.val (.long q1), .second, .val (.long q2), .second, .val (.long (q2 - q1)), .second] [(.long (0 : Int64)), (.long (q2 - q1))])) _
    refine XS.lcmp X0.here hx rfl (hb hby d12_8) rfl ?_
    exact Steps.refl _
  by_cases c1 : (q2 - q1) < (0 : Int64)
  · have qc1 : (q2 - q1).toInt < 0 := Int64.lt_iff_toInt_lt.mp c1
    have S2 : Steps p.tables e below Ω (s₁.setTop (mkF m 26 #[.val (.long q1), .second, .val (.long q2), .second, .val (.long (q2 - q1)), .second] [(.int (0 : Int32))])) := by
      refine S1.trans ?_
      refine XS.ifYes X0.here hx rfl (pc0 := 9) (pc' := 25) rfl (hb hby d12_9) rfl (XT.ll_lt_t c1) (by decide) (by decide) ?_
      show Steps p.tables e below (s₁.setTop (mkF m 25 #[.val (.long q1), .second, .val (.long q2), .second, .val (.long (q2 - q1)), .second] [])) _
      refine XS.iconst X0.here hx rfl (hb hby d12_25) ?_
      exact Steps.refl _
    obtain ⟨fs, hr, hrun, hended, hW, hsame⟩ := X0.leave (v := some (.int (0 : Int32))) (fun h => by rw [Bd.returns] at h; cases h)
    have hfin : Steps p.tables e below Ω (s₁.setFrames fs) := by
      refine S2.trans ?_
      exact own_retZ X0 hx Bd.returns (by decide) (hb hby d12_26) hr
    rw [hΩ] at hfin
    refine ⟨_, _, hfin, hrun, hended, _, _, rfl, ?_, ⟨_, rfl⟩, hW, hsame.mono (by decide) (by decide)⟩
    show Q12 Z q1 q2 h0 n0 _ s₁.heap _
    rw [e0]
    exact ⟨by rw [own_near, if_pos c1], N0, rfl⟩
  · have qc1 : ¬ (q2 - q1).toInt < 0 := fun q => c1 (Int64.lt_iff_toInt_lt.mpr q)
    have S3 : Steps p.tables e below Ω (s₁.setTop (mkF m 18 #[.val (.long q1), .second, .val (.long q2), .second, .val (.long (q2 - q1)), .second] [(.int (lcmpW (q2 - q1) (2147483648 : Int64)))])) := by
      refine S1.trans ?_
      refine XS.ifNo X0.here hx rfl (hb hby d12_9) rfl (XT.ll_lt_f c1) ?_
      show Steps p.tables e below (s₁.setTop (mkF m 12 #[.val (.long q1), .second, .val (.long q2), .second, .val (.long (q2 - q1)), .second] [])) _
      refine XS.lload X0.here hx rfl (hb hby d12_12) rfl ?_
      show Steps p.tables e below (s₁.setTop (mkF m 14 #[.val (.long q1), .second, .val (.long q2), .second, .val (.long (q2 - q1)), .second] [(.long (q2 - q1))])) _
      refine X0.ldc2Long hx hown (mvT hZ (hw _ (List.mem_of_getElem? (i := 80) rfl))) (g := (mkF m 14 #[.val (.long q1), .second, .val (.long q2), .second, .val (.long (q2 - q1)), .second] [(.long (q2 - q1))])) rfl (hb hby d12_14) _ ?_
      show Steps p.tables e below (s₁.setTop (mkF m 17 #[.val (.long q1), .second, .val (.long q2), .second, .val (.long (q2 - q1)), .second] [(.long (2147483648 : Int64)), (.long (q2 - q1))])) _
      refine XS.lcmp X0.here hx rfl (hb hby d12_17) rfl ?_
      exact Steps.refl _
    by_cases c2 : (2147483648 : Int64) < (q2 - q1)
    · have qc2 : 2147483648 < (q2 - q1).toInt := Int64.lt_iff_toInt_lt.mp c2
      have S4 : Steps p.tables e below Ω (s₁.setTop (mkF m 26 #[.val (.long q1), .second, .val (.long q2), .second, .val (.long (q2 - q1)), .second] [(.int (0 : Int32))])) := by
        refine S3.trans ?_
        refine XS.ifYes X0.here hx rfl (pc0 := 18) (pc' := 25) rfl (hb hby d12_18) rfl (XT.ll_gt_t c2) (by decide) (by decide) ?_
        show Steps p.tables e below (s₁.setTop (mkF m 25 #[.val (.long q1), .second, .val (.long q2), .second, .val (.long (q2 - q1)), .second] [])) _
        refine XS.iconst X0.here hx rfl (hb hby d12_25) ?_
        exact Steps.refl _
      obtain ⟨fs, hr, hrun, hended, hW, hsame⟩ := X0.leave (v := some (.int (0 : Int32))) (fun h => by rw [Bd.returns] at h; cases h)
      have hfin : Steps p.tables e below Ω (s₁.setFrames fs) := by
        refine S4.trans ?_
        exact own_retZ X0 hx Bd.returns (by decide) (hb hby d12_26) hr
      rw [hΩ] at hfin
      refine ⟨_, _, hfin, hrun, hended, _, _, rfl, ?_, ⟨_, rfl⟩, hW, hsame.mono (by decide) (by decide)⟩
      show Q12 Z q1 q2 h0 n0 _ s₁.heap _
      rw [e0]
      exact ⟨by rw [own_near, if_neg c1, if_pos c2], N0, rfl⟩
    · have qc2 : ¬ 2147483648 < (q2 - q1).toInt := fun q => c2 (Int64.lt_iff_toInt_lt.mpr q)
      have S5 : Steps p.tables e below Ω (s₁.setTop (mkF m 26 #[.val (.long q1), .second, .val (.long q2), .second, .val (.long (q2 - q1)), .second] [(.int (1 : Int32))])) := by
        refine S3.trans ?_
        refine XS.ifNo X0.here hx rfl (hb hby d12_18) rfl (XT.ll_gt_f c2) ?_
        show Steps p.tables e below (s₁.setTop (mkF m 21 #[.val (.long q1), .second, .val (.long q2), .second, .val (.long (q2 - q1)), .second] [])) _
        refine XS.iconst X0.here hx rfl (hb hby d12_21) ?_
        show Steps p.tables e below (s₁.setTop (mkF m 22 #[.val (.long q1), .second, .val (.long q2), .second, .val (.long (q2 - q1)), .second] [(.int (1 : Int32))])) _
        refine XS.goto X0.here hx rfl (pc0 := 22) (pc' := 26) rfl (hb hby d12_22) (by decide) (by decide) ?_
        exact Steps.refl _
      obtain ⟨fs, hr, hrun, hended, hW, hsame⟩ := X0.leave (v := some (.int (1 : Int32))) (fun h => by rw [Bd.returns] at h; cases h)
      have hfin : Steps p.tables e below Ω (s₁.setFrames fs) := by
        refine S5.trans ?_
        exact own_retZ X0 hx Bd.returns (by decide) (hb hby d12_26) hr
      rw [hΩ] at hfin
      refine ⟨_, _, hfin, hrun, hended, _, _, rfl, ?_, ⟨_, rfl⟩, hW, hsame.mono (by decide) (by decide)⟩
      show Q12 Z q1 q2 h0 n0 _ s₁.heap _
      rw [e0]
      exact ⟨by rw [own_near, if_neg c1, if_neg c2], N0, rfl⟩
theorem d13_0 : decode prog_28_method_23_code 0 = .ok (.lload_n 0, 1) := by decide +kernel
theorem d13_1 : decode prog_28_method_23_code 1 = .ok (.ldc2_w 141, 3) := by decide +kernel
theorem d13_4 : decode prog_28_method_23_code 4 = .ok (.lsub, 1) := by decide +kernel
theorem d13_5 : decode prog_28_method_23_code 5 = .ok (.lreturn, 1) := by decide +kernel
theorem ef_rm13 (m : MethodId) (x0 : Int64) : entryFrame m #[(.long x0)] 2 = mkF m 0 #[.val (.long x0), .second] [] := by first | (simp [entryFrame, mkF, argsToLocals, Value.category]; done) | rfl
def Q13 (Z : State) (q1 : Int64) (h0 : Heap) (n0 : Nat) (v : Option Value) (h : Heap) (L : List Loc) : Prop := v = some (.long (q1 - (-2147483648 : Int64))) ∧ Fr n0 L ∧ h = h0
set_option maxRecDepth 65536 in
set_option maxHeartbeats 40000000 in
theorem rm13 (l : Launch) (Z : State) (a0 : Array Value) (hw : ∀ d ∈ tables_1, d.before a0 Z = true) (ws : List Jvm.Cond) (q1 : Int64) (h0 : Heap) (n0 : Nat) (Z0 : n0 ≤ h0.size) :
    MetFree l (⟨"com/example/admission_by_rate/admissionbyrate/KeyTable", "baseFor", "(J)J"⟩ : MethodName) (head1 (Jvm.Cond.code (⟨"com/example/admission_by_rate/admissionbyrate/KeyTable", "baseFor", "(J)J"⟩ : MethodName) prog_28_method_23_code 2 (some .long) :: ws) ({ frames := 0, cells := 0, slots := 0, locals := 0 } : Room)) (fun aa U => aa = #[(.long q1)] ∧ Z.Warmed39 U.vm ∧ U.heap = h0) (fun _ _ _ _ _ => True) (fun _ U o U' => ∃ v L, o = .returned v ∧ Q13 Z q1 h0 n0 v U'.heap L ∧ FrameEnd U o U' L ({ frames := 0, cells := 0, slots := 0, locals := 0 } : Room).cells ({ frames := 0, cells := 0, slots := 0, locals := 0 } : Room).slots) := by
  refine MetFree.of_bodySF (plainFor_of_name pn_0) hisR ?_
  intro p e s m args below meth c s₁ Bd hml0 hP hK
  obtain ⟨rfl, hZ, hh⟩ := hP
  have hx := Bd.exec
  have hby := Bd.bytes
  have hml : c.maxLocals = 2 := hml0
  have hown : s.vm.findClass "com/example/admission_by_rate/admissionbyrate/KeyTable" = some m.cls := findClass_of_methodNamed Bd.named
  have hnm := (name_of_methodNamed Bd.named Bd.method).1
  have X0 : Stand p l e ({ frames := 0, cells := 0, slots := 0, locals := 0 } : Room) s m #[(.long q1)] below meth c s₁ [] 0 0 := Stand.of_body Bd
  have e0 : s₁.heap = h0 := by rw [← hh, Bd.state]; rfl
  have N0 := Fr.nil n0
  obtain ⟨Ω, hΩ⟩ : ∃ z, z = s₁.setTop (entryFrame m #[(.long q1)] 2) := ⟨_, rfl⟩
  have S0 : Steps p.tables e below Ω (s₁.setTop (mkF m 0 #[.val (.long q1), .second] [])) := by rw [hΩ]; exact castTop (ef_rm13 m q1) (Steps.refl _)
  have S1 : Steps p.tables e below Ω (s₁.setTop (mkF m 5 #[.val (.long q1), .second] [(.long (q1 - (-2147483648 : Int64)))])) := by
    refine S0.trans ?_
    refine XS.lloadN X0.here hx rfl (hb hby d13_0) rfl ?_
    show Steps p.tables e below (s₁.setTop (mkF m 1 #[.val (.long q1), .second] [(.long q1)])) _
    refine X0.ldc2Long hx hown (mvT hZ (hw _ (List.mem_of_getElem? (i := 84) rfl))) (g := (mkF m 1 #[.val (.long q1), .second] [(.long q1)])) rfl (hb hby d13_1) _ ?_
    show Steps p.tables e below (s₁.setTop (mkF m 4 #[.val (.long q1), .second] [(.long (-2147483648 : Int64)), (.long q1)])) _
    refine XS.lsub X0.here hx rfl (hb hby d13_4) rfl ?_
    exact Steps.refl _
  obtain ⟨fs, hr, hrun, hended, hW, hsame⟩ := X0.leave (v := some (.long (q1 - (-2147483648 : Int64)))) (fun h => by rw [Bd.returns] at h; cases h)
  have hfin : Steps p.tables e below Ω (s₁.setFrames fs) := by
    refine S1.trans ?_
    exact X0.lreturnOut hx Bd.returns (hb hby d13_5) hr
  rw [hΩ] at hfin
  refine ⟨_, _, hfin, hrun, hended, _, _, rfl, ?_, ⟨_, rfl⟩, hW, hsame.mono (by decide) (by decide)⟩
  show Q13 Z q1 h0 n0 _ s₁.heap _
  rw [e0]
  exact ⟨rfl, N0, rfl⟩
theorem d4_0 : decode prog_37_method_1_code 0 = .ok (.aload_n 0, 1) := by decide +kernel
theorem d4_1 : decode prog_37_method_1_code 1 = .ok (.invokespecial 5, 3) := by decide +kernel
theorem d4_4 : decode prog_37_method_1_code 4 = .ok (.aload_n 0, 1) := by decide +kernel
theorem d4_5 : decode prog_37_method_1_code 5 = .ok (.iload_n 1, 1) := by decide +kernel
theorem d4_6 : decode prog_37_method_1_code 6 = .ok (.putfield 11, 3) := by decide +kernel
theorem d4_9 : decode prog_37_method_1_code 9 = .ok (.return_, 1) := by decide +kernel
theorem pn_1 : plainName "com/example/admission_by_rate/admissionbyrate/PlaceMarks" = true := by first | (simp [plainName, overriddenIn]; done) | decide +kernel
theorem ef_rm4 (m : MethodId) (x0 : Addr) (x1 : Int32) : entryFrame m #[(.ref x0), (.int x1)] 2 = mkF m 0 #[.val (.ref x0), .val (.int x1)] [] := by first | (simp [entryFrame, mkF, argsToLocals, Value.category]; done) | rfl
def Q4 (Z : State) (a : Addr) (p1 : Int32) (h0 : Heap) (n0 : Nat) (v : Option Value) (h : Heap) (L : List Loc) : Prop := v = none ∧ Fr n0 L ∧ Keep h0 h [a] ∧ Exa Z h a "com/example/admission_by_rate/admissionbyrate/PlaceMarks" ∧ Fld Z h a "com/example/admission_by_rate/admissionbyrate/PlaceMarks" "words" "[J" .null
set_option maxRecDepth 65536 in
set_option maxHeartbeats 40000000 in
theorem rm4 (l : Launch) (Z : State) (a0 : Array Value) (hw : ∀ d ∈ tables_1, d.before a0 Z = true) (ws : List Jvm.Cond) (a : Addr) (p1 : Int32) (h0 : Heap) (n0 : Nat) (Z0 : n0 ≤ h0.size) (E0 : Exa Z h0 a "com/example/admission_by_rate/admissionbyrate/PlaceMarks") (F1 : Fld Z h0 a "com/example/admission_by_rate/admissionbyrate/PlaceMarks" "places" "I" (.int (0 : Int32))) (F2 : Fld Z h0 a "com/example/admission_by_rate/admissionbyrate/PlaceMarks" "words" "[J" .null) (g : n0 ≤ a) :
    MetFree l (⟨"com/example/admission_by_rate/admissionbyrate/PlaceMarks", "<init>", "(I)V"⟩ : MethodName) (head1 (Jvm.Cond.code (⟨"com/example/admission_by_rate/admissionbyrate/PlaceMarks", "<init>", "(I)V"⟩ : MethodName) prog_37_method_1_code 2 none :: ws) ({ frames := 1, cells := 0, slots := 0, locals := 12 } : Room)) (fun aa U => aa = #[(.ref a), (.int p1)] ∧ Z.Warmed39 U.vm ∧ U.heap = h0) (fun _ _ _ _ _ => True) (fun _ U o U' => ∃ v L, o = .returned v ∧ Q4 Z a p1 h0 n0 v U'.heap L ∧ FrameEnd U o U' L ({ frames := 1, cells := 0, slots := 0, locals := 12 } : Room).cells ({ frames := 1, cells := 0, slots := 0, locals := 12 } : Room).slots) := by
  refine MetFree.of_bodySF (plainFor_of_name pn_1) hisR ?_
  intro p e s m args below meth c s₁ Bd hml0 hP hK
  obtain ⟨rfl, hZ, hh⟩ := hP
  have hx := Bd.exec
  have hby := Bd.bytes
  have hml : c.maxLocals = 2 := hml0
  have hown : s.vm.findClass "com/example/admission_by_rate/admissionbyrate/PlaceMarks" = some m.cls := findClass_of_methodNamed Bd.named
  have hnm := (name_of_methodNamed Bd.named Bd.method).1
  have X0 : Stand p l e ({ frames := 1, cells := 0, slots := 0, locals := 12 } : Room) s m #[(.ref a), (.int p1)] below meth c s₁ [] 0 0 := Stand.of_body Bd
  have e0 : s₁.heap = h0 := by rw [← hh, Bd.state]; rfl
  have N0 := Fr.nil n0
  obtain ⟨Ω, hΩ⟩ : ∃ z, z = s₁.setTop (entryFrame m #[(.ref a), (.int p1)] 2) := ⟨_, rfl⟩
  have S0 : Steps p.tables e below Ω (s₁.setTop (mkF m 0 #[.val (.ref a), .val (.int p1)] [])) := by rw [hΩ]; exact castTop (ef_rm4 m a p1) (Steps.refl _)
  have S1 : Steps p.tables e below Ω (s₁.setTop (mkF m 1 #[.val (.ref a), .val (.int p1)] [(.ref a)])) := by
    refine S0.trans ?_
    refine XS.aloadN X0.here hx rfl (hb hby d4_0) rfl rfl ?_
    exact Steps.refl _
  obtain ⟨T2, X2, e2, st2⟩ := initO X0 hx hZ hown (hw _ (List.mem_of_getElem? (i := 29) rfl)) (hw _ (List.mem_of_getElem? (i := 10) rfl)) (hw _ (List.mem_of_getElem? (i := 11) rfl)) e0 (g := (mkF m 1 #[.val (.ref a), .val (.int p1)] [(.ref a)])) rfl (by rw [hml]; rfl) rfl (hb hby d4_1) (by decide) (W := 0) (by show 2 * 0 + _ ≤ _; exact Nat.le_of_eq rfl) (by decide)
  have S3 : Steps p.tables e below Ω (T2.setTop (mkF m 4 #[.val (.ref a), .val (.int p1)] [])) := S1.trans (st2 _ (Steps.refl _))
  have S4 : Steps p.tables e below Ω (T2.setTop (mkF m 6 #[.val (.ref a), .val (.int p1)] [(.int p1), (.ref a)])) := by
    refine S3.trans ?_
    refine XS.aloadN X2.here hx rfl (hb hby d4_4) rfl rfl ?_
    show Steps p.tables e below (T2.setTop (mkF m 5 #[.val (.ref a), .val (.int p1)] [(.ref a)])) _
    refine XS.iloadN X2.here hx rfl (hb hby d4_5) rfl ?_
    exact Steps.refl _
  obtain ⟨T5, h5, X5, e5, W5, st5⟩ := putF X2 hx hZ hown (host := "") (Or.inl (hw _ (List.mem_of_getElem? (i := 30) rfl))) Via.refl e2 F1 E0 (Or.inr ⟨(hw _ (List.mem_of_getElem? (i := 31) rfl)), rfl, hnm⟩) (hw _ (List.mem_of_getElem? (i := 24) rfl)) (ty := .int) (by decide) rfl rfl (g := (mkF m 6 #[.val (.ref a), .val (.int p1)] [(.int p1), (.ref a)])) rfl rfl (hb hby d4_6)
  have S6 : Steps p.tables e below Ω (T5.setTop (mkF m 9 #[.val (.ref a), .val (.int p1)] [])) := S4.trans (st5 _ (Steps.refl _))
  have N5 := Fr.snoc X5 N0 g
  have E_a_5 := (E0).wr W5
  have F_places_a_5 : Fld Z h5 a "com/example/admission_by_rate/admissionbyrate/PlaceMarks" "places" "I" (.int p1) := (F1).same W5
  have F_words_a_5 : Fld Z h5 a "com/example/admission_by_rate/admissionbyrate/PlaceMarks" "words" "[J" .null := (F2).other W5 (Or.inr (slot_ne (Or.inl (hw _ (List.mem_of_getElem? (i := 59) rfl))) (Or.inr (hw _ (List.mem_of_getElem? (i := 31) rfl))) (by decide) (t := (.array .long)) (t' := .int) (by decide) (by decide)))
  obtain ⟨fs, hr, hrun, hended, hW, hsame⟩ := X5.leave (v := none) (fun _ => rfl)
  have hfin : Steps p.tables e below Ω (T5.setFrames fs) := by
    refine S6.trans ?_
    exact X5.returnOut hx Bd.returns (hb hby d4_9) hr
  rw [hΩ] at hfin
  refine ⟨_, _, hfin, hrun, hended, _, _, rfl, ?_, ⟨_, rfl⟩, hW, hsame.mono (by decide) (by decide)⟩
  show Q4 Z a p1 h0 n0 _ T5.heap _
  rw [e5]
  exact ⟨rfl, N5, (((Keep.refl h0 [a])).wr W5 (Or.inl (List.mem_of_getElem? (i := 0) rfl))), E_a_5, F_words_a_5⟩
theorem d8_0 : decode prog_37_method_3_code 0 = .ok (.iload_n 2, 1) := by decide +kernel
theorem d8_1 : decode prog_37_method_3_code 1 = .ok (.i2l, 1) := by decide +kernel
theorem d8_2 : decode prog_37_method_3_code 2 = .ok (.ldc2_w 25, 3) := by decide +kernel
theorem d8_5 : decode prog_37_method_3_code 5 = .ok (.land, 1) := by decide +kernel
theorem d8_6 : decode prog_37_method_3_code 6 = .ok (.lconst 0, 1) := by decide +kernel
theorem d8_7 : decode prog_37_method_3_code 7 = .ok (.lcmp, 1) := by decide +kernel
theorem d8_8 : decode prog_37_method_3_code 8 = .ok (.ifCond .eq 17, 3) := by decide +kernel
theorem d8_25 : decode prog_37_method_3_code 25 = .ok (.aload_n 0, 1) := by decide +kernel
theorem d8_26 : decode prog_37_method_3_code 26 = .ok (.getfield 15, 3) := by decide +kernel
theorem d8_29 : decode prog_37_method_3_code 29 = .ok (.ifnonnull 26, 3) := by decide +kernel
theorem d8_32 : decode prog_37_method_3_code 32 = .ok (.iload_n 2, 1) := by decide +kernel
theorem d8_33 : decode prog_37_method_3_code 33 = .ok (.ifCond .ne 4, 3) := by decide +kernel
theorem d8_36 : decode prog_37_method_3_code 36 = .ok (.return_, 1) := by decide +kernel
theorem ef_rm8 (m : MethodId) (x0 : Addr) (x1 : Int32) (x2 : Int32) : entryFrame m #[(.ref x0), (.int x1), (.int x2)] 4 = mkF m 0 #[.val (.ref x0), .val (.int x1), .val (.int x2), .unset] [] := by first | (simp [entryFrame, mkF, argsToLocals, Value.category]; done) | rfl
def Q8 (Z : State) (a : Addr) (p1 : Int32) (p2 : Int32) (h0 : Heap) (n0 : Nat) (v : Option Value) (h : Heap) (L : List Loc) : Prop := v = none ∧ Fr n0 L ∧ h = h0
set_option maxRecDepth 65536 in
set_option maxHeartbeats 40000000 in
theorem rm8 (l : Launch) (Z : State) (a0 : Array Value) (hw : ∀ d ∈ tables_1, d.before a0 Z = true) (ws : List Jvm.Cond) (a : Addr) (p1 : Int32) (p2 : Int32) (h0 : Heap) (n0 : Nat) (Z0 : n0 ≤ h0.size) (F1 : Fld Z h0 a "com/example/admission_by_rate/admissionbyrate/PlaceMarks" "words" "[J" .null) (pe2 : p2 = (0 : Int32)) :
    MetFree l (⟨"com/example/admission_by_rate/admissionbyrate/PlaceMarks", "set", "(II)V"⟩ : MethodName) (head1 (Jvm.Cond.code (⟨"com/example/admission_by_rate/admissionbyrate/PlaceMarks", "set", "(II)V"⟩ : MethodName) prog_37_method_3_code 4 none :: ws) ({ frames := 0, cells := 0, slots := 0, locals := 0 } : Room)) (fun aa U => aa = #[(.ref a), (.int p1), (.int p2)] ∧ Z.Warmed39 U.vm ∧ U.heap = h0) (fun _ _ _ _ _ => True) (fun _ U o U' => ∃ v L, o = .returned v ∧ Q8 Z a p1 p2 h0 n0 v U'.heap L ∧ FrameEnd U o U' L ({ frames := 0, cells := 0, slots := 0, locals := 0 } : Room).cells ({ frames := 0, cells := 0, slots := 0, locals := 0 } : Room).slots) := by
  refine MetFree.of_bodySF (plainFor_of_name pn_1) hisR ?_
  intro p e s m args below meth c s₁ Bd hml0 hP hK
  obtain ⟨rfl, hZ, hh⟩ := hP
  have hx := Bd.exec
  have hby := Bd.bytes
  have hml : c.maxLocals = 4 := hml0
  have hown : s.vm.findClass "com/example/admission_by_rate/admissionbyrate/PlaceMarks" = some m.cls := findClass_of_methodNamed Bd.named
  have hnm := (name_of_methodNamed Bd.named Bd.method).1
  have X0 : Stand p l e ({ frames := 0, cells := 0, slots := 0, locals := 0 } : Room) s m #[(.ref a), (.int p1), (.int p2)] below meth c s₁ [] 0 0 := Stand.of_body Bd
  have e0 : s₁.heap = h0 := by rw [← hh, Bd.state]; rfl
  have N0 := Fr.nil n0
  obtain ⟨Ω, hΩ⟩ : ∃ z, z = s₁.setTop (entryFrame m #[(.ref a), (.int p1), (.int p2)] 4) := ⟨_, rfl⟩
  have S0 : Steps p.tables e below Ω (s₁.setTop (mkF m 0 #[.val (.ref a), .val (.int p1), .val (.int p2), .unset] [])) := by rw [hΩ]; exact castTop (ef_rm8 m a p1 p2) (Steps.refl _)
  have S1 : Steps p.tables e below Ω (s₁.setTop (mkF m 26 #[.val (.ref a), .val (.int p1), .val (.int p2), .unset] [(.ref a)])) := by
    refine S0.trans ?_
    refine XS.iloadN X0.here hx rfl (hb hby d8_0) rfl ?_
    show Steps p.tables e below (s₁.setTop (mkF m 1 #[.val (.ref a), .val (.int p1), .val (.int p2), .unset] [(.int p2)])) _
    refine XS.i2l X0.here hx rfl (hb hby d8_1) rfl ?_
    show Steps p.tables e below (s₁.setTop (mkF m 2 #[.val (.ref a), .val (.int p1), .val (.int p2), .unset] [(.long (p2.toInt64))])) _
    refine X0.ldc2Long hx hown (mvT hZ (hw _ (List.mem_of_getElem? (i := 57) rfl))) (g := (mkF m 2 #[.val (.ref a), .val (.int p1), .val (.int p2), .unset] [(.long (p2.toInt64))])) rfl (hb hby d8_2) _ ?_
    show Steps p.tables e below (s₁.setTop (mkF m 5 #[.val (.ref a), .val (.int p1), .val (.int p2), .unset] [(.long (-4 : Int64)), (.long (p2.toInt64))])) _
    refine XS.land X0.here hx rfl (hb hby d8_5) rfl ?_
    show Steps p.tables e below (s₁.setTop (mkF m 6 #[.val (.ref a), .val (.int p1), .val (.int p2), .unset] [(.long ((p2.toInt64) &&& (-4 : Int64)))])) _
    refine XS.lconst X0.here hx rfl (hb hby d8_6) ?_
    show Steps p.tables e below (s₁.setTop (mkF m 7 #[.val (.ref a), .val (.int p1), .val (.int p2), .unset] [(.long (0 : Int64)), (.long ((p2.toInt64) &&& (-4 : Int64)))])) _
    refine XS.lcmp X0.here hx rfl (hb hby d8_7) rfl ?_
    show Steps p.tables e below (s₁.setTop (mkF m 8 #[.val (.ref a), .val (.int p1), .val (.int p2), .unset] [(.int (lcmpW ((p2.toInt64) &&& (-4 : Int64)) (0 : Int64)))])) _
    refine XS.ifYes X0.here hx rfl (pc0 := 8) (pc' := 25) rfl (hb hby d8_8) rfl (XT.ll_eq_t (by rw [pe2]; decide)) (by decide) (by decide) ?_
    show Steps p.tables e below (s₁.setTop (mkF m 25 #[.val (.ref a), .val (.int p1), .val (.int p2), .unset] [])) _
    refine XS.aloadN X0.here hx rfl (hb hby d8_25) rfl rfl ?_
    exact Steps.refl _
  obtain ⟨T2, X2, e2, st2⟩ := getF X0 hx hZ hown (host := "") (Or.inl (hw _ (List.mem_of_getElem? (i := 58) rfl))) Via.refl e0 F1 (g := (mkF m 26 #[.val (.ref a), .val (.int p1), .val (.int p2), .unset] [(.ref a)])) rfl rfl (hb hby d8_26)
  have S3 : Steps p.tables e below Ω (T2.setTop (mkF m 29 #[.val (.ref a), .val (.int p1), .val (.int p2), .unset] [.null])) := S1.trans (st2 _ (Steps.refl _))
  have S4 : Steps p.tables e below Ω (T2.setTop (mkF m 36 #[.val (.ref a), .val (.int p1), .val (.int p2), .unset] [])) := by
    refine S3.trans ?_
    refine XS.ifnonnullNo X2.here hx rfl (hb hby d8_29) rfl ?_
    show Steps p.tables e below (T2.setTop (mkF m 32 #[.val (.ref a), .val (.int p1), .val (.int p2), .unset] [])) _
    refine XS.iloadN X2.here hx rfl (hb hby d8_32) rfl ?_
    show Steps p.tables e below (T2.setTop (mkF m 33 #[.val (.ref a), .val (.int p1), .val (.int p2), .unset] [(.int p2)])) _
    refine XS.ifNo X2.here hx rfl (hb hby d8_33) rfl (XT.i0_ne_f pe2) ?_
    exact Steps.refl _
  obtain ⟨fs, hr, hrun, hended, hW, hsame⟩ := X2.leave (v := none) (fun _ => rfl)
  have hfin : Steps p.tables e below Ω (T2.setFrames fs) := by
    refine S4.trans ?_
    exact X2.returnOut hx Bd.returns (hb hby d8_36) hr
  rw [hΩ] at hfin
  refine ⟨_, _, hfin, hrun, hended, _, _, rfl, ?_, ⟨_, rfl⟩, hW, hsame.mono (by decide) (by decide)⟩
  show Q8 Z a p1 p2 h0 n0 _ T2.heap _
  rw [e2]
  exact ⟨rfl, N0, rfl⟩
theorem d16_0 : decode prog_37_method_2_code 0 = .ok (.aload_n 0, 1) := by decide +kernel
theorem d16_1 : decode prog_37_method_2_code 1 = .ok (.getfield 15, 3) := by decide +kernel
theorem d16_4 : decode prog_37_method_2_code 4 = .ok (.ifnonnull 7, 3) := by decide +kernel
theorem d16_7 : decode prog_37_method_2_code 7 = .ok (.iconst 0, 1) := by decide +kernel
theorem d16_8 : decode prog_37_method_2_code 8 = .ok (.goto 22, 3) := by decide +kernel
theorem d16_30 : decode prog_37_method_2_code 30 = .ok (.ireturn, 1) := by decide +kernel
theorem ef_rm16 (m : MethodId) (x0 : Addr) (x1 : Int32) : entryFrame m #[(.ref x0), (.int x1)] 2 = mkF m 0 #[.val (.ref x0), .val (.int x1)] [] := by first | (simp [entryFrame, mkF, argsToLocals, Value.category]; done) | rfl
def Q16 (Z : State) (a : Addr) (p1 : Int32) (h0 : Heap) (n0 : Nat) (v : Option Value) (h : Heap) (L : List Loc) : Prop := v = some (.int (0 : Int32)) ∧ Fr n0 L ∧ h = h0
set_option maxRecDepth 65536 in
set_option maxHeartbeats 40000000 in
theorem rm16 (l : Launch) (Z : State) (a0 : Array Value) (hw : ∀ d ∈ tables_1, d.before a0 Z = true) (ws : List Jvm.Cond) (a : Addr) (p1 : Int32) (h0 : Heap) (n0 : Nat) (Z0 : n0 ≤ h0.size) (F1 : Fld Z h0 a "com/example/admission_by_rate/admissionbyrate/PlaceMarks" "words" "[J" .null) :
    MetFree l (⟨"com/example/admission_by_rate/admissionbyrate/PlaceMarks", "at", "(I)I"⟩ : MethodName) (head1 (Jvm.Cond.code (⟨"com/example/admission_by_rate/admissionbyrate/PlaceMarks", "at", "(I)I"⟩ : MethodName) prog_37_method_2_code 2 (some .int) :: ws) ({ frames := 0, cells := 0, slots := 0, locals := 0 } : Room)) (fun aa U => aa = #[(.ref a), (.int p1)] ∧ Z.Warmed39 U.vm ∧ U.heap = h0) (fun _ _ _ _ _ => True) (fun _ U o U' => ∃ v L, o = .returned v ∧ Q16 Z a p1 h0 n0 v U'.heap L ∧ FrameEnd U o U' L ({ frames := 0, cells := 0, slots := 0, locals := 0 } : Room).cells ({ frames := 0, cells := 0, slots := 0, locals := 0 } : Room).slots) := by
  refine MetFree.of_bodySF (plainFor_of_name pn_1) hisR ?_
  intro p e s m args below meth c s₁ Bd hml0 hP hK
  obtain ⟨rfl, hZ, hh⟩ := hP
  have hx := Bd.exec
  have hby := Bd.bytes
  have hml : c.maxLocals = 2 := hml0
  have hown : s.vm.findClass "com/example/admission_by_rate/admissionbyrate/PlaceMarks" = some m.cls := findClass_of_methodNamed Bd.named
  have hnm := (name_of_methodNamed Bd.named Bd.method).1
  have X0 : Stand p l e ({ frames := 0, cells := 0, slots := 0, locals := 0 } : Room) s m #[(.ref a), (.int p1)] below meth c s₁ [] 0 0 := Stand.of_body Bd
  have e0 : s₁.heap = h0 := by rw [← hh, Bd.state]; rfl
  have N0 := Fr.nil n0
  obtain ⟨Ω, hΩ⟩ : ∃ z, z = s₁.setTop (entryFrame m #[(.ref a), (.int p1)] 2) := ⟨_, rfl⟩
  have S0 : Steps p.tables e below Ω (s₁.setTop (mkF m 0 #[.val (.ref a), .val (.int p1)] [])) := by rw [hΩ]; exact castTop (ef_rm16 m a p1) (Steps.refl _)
  have S1 : Steps p.tables e below Ω (s₁.setTop (mkF m 1 #[.val (.ref a), .val (.int p1)] [(.ref a)])) := by
    refine S0.trans ?_
    refine XS.aloadN X0.here hx rfl (hb hby d16_0) rfl rfl ?_
    exact Steps.refl _
  obtain ⟨T2, X2, e2, st2⟩ := getF X0 hx hZ hown (host := "") (Or.inl (hw _ (List.mem_of_getElem? (i := 58) rfl))) Via.refl e0 F1 (g := (mkF m 1 #[.val (.ref a), .val (.int p1)] [(.ref a)])) rfl rfl (hb hby d16_1)
  have S3 : Steps p.tables e below Ω (T2.setTop (mkF m 4 #[.val (.ref a), .val (.int p1)] [.null])) := S1.trans (st2 _ (Steps.refl _))
  have S4 : Steps p.tables e below Ω (T2.setTop (mkF m 30 #[.val (.ref a), .val (.int p1)] [(.int (0 : Int32))])) := by
    refine S3.trans ?_
    refine XS.ifnonnullNo X2.here hx rfl (hb hby d16_4) rfl ?_
    show Steps p.tables e below (T2.setTop (mkF m 7 #[.val (.ref a), .val (.int p1)] [])) _
    refine XS.iconst X2.here hx rfl (hb hby d16_7) ?_
    show Steps p.tables e below (T2.setTop (mkF m 8 #[.val (.ref a), .val (.int p1)] [(.int (0 : Int32))])) _
    refine XS.goto X2.here hx rfl (pc0 := 8) (pc' := 30) rfl (hb hby d16_8) (by decide) (by decide) ?_
    exact Steps.refl _
  obtain ⟨fs, hr, hrun, hended, hW, hsame⟩ := X2.leave (v := some (.int (0 : Int32))) (fun h => by rw [Bd.returns] at h; cases h)
  have hfin : Steps p.tables e below Ω (T2.setFrames fs) := by
    refine S4.trans ?_
    exact retI X2 hx Bd.returns (hb hby d16_30) hr
  rw [hΩ] at hfin
  refine ⟨_, _, hfin, hrun, hended, _, _, rfl, ?_, ⟨_, rfl⟩, hW, hsame.mono (by decide) (by decide)⟩
  show Q16 Z a p1 h0 n0 _ T2.heap _
  rw [e2]
  exact ⟨rfl, N0, rfl⟩
theorem d5_0 : decode prog_28_method_10_code 0 = .ok (.lload_n 1, 1) := by decide +kernel
theorem d5_1 : decode prog_28_method_10_code 1 = .ok (.aload_n 0, 1) := by decide +kernel
theorem d5_2 : decode prog_28_method_10_code 2 = .ok (.getfield 26, 3) := by decide +kernel
theorem d5_5 : decode prog_28_method_10_code 5 = .ok (.lsub, 1) := by decide +kernel
theorem d5_6 : decode prog_28_method_10_code 6 = .ok (.lstore_n 3, 1) := by decide +kernel
theorem d5_7 : decode prog_28_method_10_code 7 = .ok (.aload_n 0, 1) := by decide +kernel
theorem d5_8 : decode prog_28_method_10_code 8 = .ok (.getfield 18, 3) := by decide +kernel
theorem d5_11 : decode prog_28_method_10_code 11 = .ok (.iconst 4, 1) := by decide +kernel
theorem d5_12 : decode prog_28_method_10_code 12 = .ok (.if_icmp .eq 11, 3) := by decide +kernel
theorem d5_23 : decode prog_28_method_10_code 23 = .ok (.iconst 1, 1) := by decide +kernel
theorem d5_24 : decode prog_28_method_10_code 24 = .ok (.goto 4, 3) := by decide +kernel
theorem d5_28 : decode prog_28_method_10_code 28 = .ok (.ireturn, 1) := by decide +kernel
theorem d5_15 : decode prog_28_method_10_code 15 = .ok (.lload_n 3, 1) := by decide +kernel
theorem d5_16 : decode prog_28_method_10_code 16 = .ok (.lload_n 3, 1) := by decide +kernel
theorem d5_17 : decode prog_28_method_10_code 17 = .ok (.l2i, 1) := by decide +kernel
theorem d5_18 : decode prog_28_method_10_code 18 = .ok (.i2l, 1) := by decide +kernel
theorem d5_19 : decode prog_28_method_10_code 19 = .ok (.lcmp, 1) := by decide +kernel
theorem d5_20 : decode prog_28_method_10_code 20 = .ok (.ifCond .ne 7, 3) := by decide +kernel
theorem d5_27 : decode prog_28_method_10_code 27 = .ok (.iconst 0, 1) := by decide +kernel
theorem ef_rm5 (m : MethodId) (x0 : Addr) (x1 : Int64) : entryFrame m #[(.ref x0), (.long x1)] 5 = mkF m 0 #[.val (.ref x0), .val (.long x1), .second, .unset, .unset] [] := by first | (simp [entryFrame, mkF, argsToLocals, Value.category]; done) | rfl
def Q5 (Z : State) (a : Addr) (q1 : Int64) (ia : Addr) (ma : Addr) (st : Int32) (bs : Int64) (mk : Int32) (cn : Int32) (xs : List Int32) (h0 : Heap) (n0 : Nat) (v : Option Value) (h : Heap) (L : List Loc) : Prop := v = some (.int (own_holds st bs q1)) ∧ Fr n0 L ∧ h = h0
set_option maxRecDepth 65536 in
set_option maxHeartbeats 40000000 in
theorem rm5 (l : Launch) (Z : State) (a0 : Array Value) (hw : ∀ d ∈ tables_1, d.before a0 Z = true) (ws : List Jvm.Cond) (a : Addr) (q1 : Int64) (ia : Addr) (ma : Addr) (st : Int32) (bs : Int64) (mk : Int32) (cn : Int32) (xs : List Int32) (h0 : Heap) (n0 : Nat) (Z0 : n0 ≤ h0.size) (KT0 : KT Z h0 a ia ma st bs mk cn xs) :
    MetFree l (⟨"com/example/admission_by_rate/admissionbyrate/KeyTable", "holds", "(J)Z"⟩ : MethodName) (head1 (Jvm.Cond.code (⟨"com/example/admission_by_rate/admissionbyrate/KeyTable", "holds", "(J)Z"⟩ : MethodName) prog_28_method_10_code 5 (some .boolean) :: ws) ({ frames := 0, cells := 0, slots := 0, locals := 0 } : Room)) (fun aa U => aa = #[(.ref a), (.long q1)] ∧ Z.Warmed39 U.vm ∧ U.heap = h0) (fun _ _ _ _ _ => True) (fun _ U o U' => ∃ v L, o = .returned v ∧ Q5 Z a q1 ia ma st bs mk cn xs h0 n0 v U'.heap L ∧ FrameEnd U o U' L ({ frames := 0, cells := 0, slots := 0, locals := 0 } : Room).cells ({ frames := 0, cells := 0, slots := 0, locals := 0 } : Room).slots) := by
  refine MetFree.of_bodySF (plainFor_of_name pn_0) hisR ?_
  intro p e s m args below meth c s₁ Bd hml0 hP hK
  obtain ⟨rfl, hZ, hh⟩ := hP
  have hx := Bd.exec
  have hby := Bd.bytes
  have hml : c.maxLocals = 5 := hml0
  have hown : s.vm.findClass "com/example/admission_by_rate/admissionbyrate/KeyTable" = some m.cls := findClass_of_methodNamed Bd.named
  have hnm := (name_of_methodNamed Bd.named Bd.method).1
  have X0 : Stand p l e ({ frames := 0, cells := 0, slots := 0, locals := 0 } : Room) s m #[(.ref a), (.long q1)] below meth c s₁ [] 0 0 := Stand.of_body Bd
  have e0 : s₁.heap = h0 := by rw [← hh, Bd.state]; rfl
  have N0 := Fr.nil n0
  obtain ⟨Ω, hΩ⟩ : ∃ z, z = s₁.setTop (entryFrame m #[(.ref a), (.long q1)] 5) := ⟨_, rfl⟩
  have S0 : Steps p.tables e below Ω (s₁.setTop (mkF m 0 #[.val (.ref a), .val (.long q1), .second, .unset, .unset] [])) := by rw [hΩ]; exact castTop (ef_rm5 m a q1) (Steps.refl _)
  obtain ⟨E0, Pst, Pin, Pbs, Pma, Pmk, Pcn, A0, Em, Pw, ne1, ne2, ne3⟩ := KT0
  have S1 : Steps p.tables e below Ω (s₁.setTop (mkF m 2 #[.val (.ref a), .val (.long q1), .second, .unset, .unset] [(.ref a), (.long q1)])) := by
    refine S0.trans ?_
    refine XS.lloadN X0.here hx rfl (hb hby d5_0) rfl ?_
    show Steps p.tables e below (s₁.setTop (mkF m 1 #[.val (.ref a), .val (.long q1), .second, .unset, .unset] [(.long q1)])) _
    refine XS.aloadN X0.here hx rfl (hb hby d5_1) rfl rfl ?_
    exact Steps.refl _
  obtain ⟨T2, X2, e2, st2⟩ := getF X0 hx hZ hown (host := "") (Or.inl (hw _ (List.mem_of_getElem? (i := 19) rfl))) Via.refl e0 Pbs (g := (mkF m 2 #[.val (.ref a), .val (.long q1), .second, .unset, .unset] [(.ref a), (.long q1)])) rfl rfl (hb hby d5_2)
  have S3 : Steps p.tables e below Ω (T2.setTop (mkF m 5 #[.val (.ref a), .val (.long q1), .second, .unset, .unset] [(.long bs), (.long q1)])) := S1.trans (st2 _ (Steps.refl _))
  have S4 : Steps p.tables e below Ω (T2.setTop (mkF m 8 #[.val (.ref a), .val (.long q1), .second, .val (.long (q1 - bs)), .second] [(.ref a)])) := by
    refine S3.trans ?_
    refine XS.lsub X2.here hx rfl (hb hby d5_5) rfl ?_
    show Steps p.tables e below (T2.setTop (mkF m 6 #[.val (.ref a), .val (.long q1), .second, .unset, .unset] [(.long (q1 - bs))])) _
    refine XS.lstoreN X2.here hx rfl (hb hby d5_6) rfl (l' := #[.val (.ref a), .val (.long q1), .second, .val (.long (q1 - bs)), .second]) rfl ?_
    show Steps p.tables e below (T2.setTop (mkF m 7 #[.val (.ref a), .val (.long q1), .second, .val (.long (q1 - bs)), .second] [])) _
    refine XS.aloadN X2.here hx rfl (hb hby d5_7) rfl rfl ?_
    exact Steps.refl _
  obtain ⟨T5, X5, e5, st5⟩ := getF X2 hx hZ hown (host := "") (Or.inl (hw _ (List.mem_of_getElem? (i := 14) rfl))) Via.refl e2 Pst (g := (mkF m 8 #[.val (.ref a), .val (.long q1), .second, .val (.long (q1 - bs)), .second] [(.ref a)])) rfl rfl (hb hby d5_8)
  have S6 : Steps p.tables e below Ω (T5.setTop (mkF m 11 #[.val (.ref a), .val (.long q1), .second, .val (.long (q1 - bs)), .second] [(.int st)])) := S4.trans (st5 _ (Steps.refl _))
  have S7 : Steps p.tables e below Ω (T5.setTop (mkF m 12 #[.val (.ref a), .val (.long q1), .second, .val (.long (q1 - bs)), .second] [(.int (4 : Int32)), (.int st)])) := by
    refine S6.trans ?_
    refine XS.iconst X5.here hx rfl (hb hby d5_11) ?_
    exact Steps.refl _
  by_cases c1 : st = (4 : Int32)
  · have qc1 : st.toInt = 4 := congrArg Int32.toInt c1
    have S8 : Steps p.tables e below Ω (T5.setTop (mkF m 28 #[.val (.ref a), .val (.long q1), .second, .val (.long (q1 - bs)), .second] [(.int (1 : Int32))])) := by
      refine S7.trans ?_
      refine XS.icmpYes X5.here hx rfl (pc0 := 12) (pc' := 23) rfl (hb hby d5_12) rfl (XT.ii_eq_t c1) (by decide) (by decide) ?_
      show Steps p.tables e below (T5.setTop (mkF m 23 #[.val (.ref a), .val (.long q1), .second, .val (.long (q1 - bs)), .second] [])) _
      refine XS.iconst X5.here hx rfl (hb hby d5_23) ?_
      show Steps p.tables e below (T5.setTop (mkF m 24 #[.val (.ref a), .val (.long q1), .second, .val (.long (q1 - bs)), .second] [(.int (1 : Int32))])) _
      refine XS.goto X5.here hx rfl (pc0 := 24) (pc' := 28) rfl (hb hby d5_24) (by decide) (by decide) ?_
      exact Steps.refl _
    obtain ⟨fs, hr, hrun, hended, hW, hsame⟩ := X5.leave (v := some (.int (1 : Int32))) (fun h => by rw [Bd.returns] at h; cases h)
    have hfin : Steps p.tables e below Ω (T5.setFrames fs) := by
      refine S8.trans ?_
      exact own_retZ X5 hx Bd.returns (by decide) (hb hby d5_28) hr
    rw [hΩ] at hfin
    refine ⟨_, _, hfin, hrun, hended, _, _, rfl, ?_, ⟨_, rfl⟩, hW, hsame.mono (by decide) (by decide)⟩
    show Q5 Z a q1 ia ma st bs mk cn xs h0 n0 _ T5.heap _
    rw [e5]
    exact ⟨by rw [own_holds, if_pos c1], N0, rfl⟩
  · have qc1 : ¬ st.toInt = 4 := fun q => c1 (Int32.toInt_inj.mp q)
    have S9 : Steps p.tables e below Ω (T5.setTop (mkF m 20 #[.val (.ref a), .val (.long q1), .second, .val (.long (q1 - bs)), .second] [(.int (lcmpW (q1 - bs) (((q1 - bs).toInt32).toInt64)))])) := by
      refine S7.trans ?_
      refine XS.icmpNo X5.here hx rfl (hb hby d5_12) rfl (XT.ii_eq_f c1) ?_
      show Steps p.tables e below (T5.setTop (mkF m 15 #[.val (.ref a), .val (.long q1), .second, .val (.long (q1 - bs)), .second] [])) _
      refine XS.lloadN X5.here hx rfl (hb hby d5_15) rfl ?_
      show Steps p.tables e below (T5.setTop (mkF m 16 #[.val (.ref a), .val (.long q1), .second, .val (.long (q1 - bs)), .second] [(.long (q1 - bs))])) _
      refine XS.lloadN X5.here hx rfl (hb hby d5_16) rfl ?_
      show Steps p.tables e below (T5.setTop (mkF m 17 #[.val (.ref a), .val (.long q1), .second, .val (.long (q1 - bs)), .second] [(.long (q1 - bs)), (.long (q1 - bs))])) _
      refine XS.l2i X5.here hx rfl (hb hby d5_17) rfl ?_
      show Steps p.tables e below (T5.setTop (mkF m 18 #[.val (.ref a), .val (.long q1), .second, .val (.long (q1 - bs)), .second] [(.int ((q1 - bs).toInt32)), (.long (q1 - bs))])) _
      refine XS.i2l X5.here hx rfl (hb hby d5_18) rfl ?_
      show Steps p.tables e below (T5.setTop (mkF m 19 #[.val (.ref a), .val (.long q1), .second, .val (.long (q1 - bs)), .second] [(.long (((q1 - bs).toInt32).toInt64)), (.long (q1 - bs))])) _
      refine XS.lcmp X5.here hx rfl (hb hby d5_19) rfl ?_
      exact Steps.refl _
    by_cases c2 : (q1 - bs) = (((q1 - bs).toInt32).toInt64)
    · have qc2 : (q1 - bs).toInt = (((q1 - bs).toInt32).toInt64).toInt := congrArg Int64.toInt c2
      have S10 : Steps p.tables e below Ω (T5.setTop (mkF m 28 #[.val (.ref a), .val (.long q1), .second, .val (.long (q1 - bs)), .second] [(.int (1 : Int32))])) := by
        refine S9.trans ?_
        refine XS.ifNo X5.here hx rfl (hb hby d5_20) rfl (XT.ll_ne_f c2) ?_
        show Steps p.tables e below (T5.setTop (mkF m 23 #[.val (.ref a), .val (.long q1), .second, .val (.long (q1 - bs)), .second] [])) _
        refine XS.iconst X5.here hx rfl (hb hby d5_23) ?_
        show Steps p.tables e below (T5.setTop (mkF m 24 #[.val (.ref a), .val (.long q1), .second, .val (.long (q1 - bs)), .second] [(.int (1 : Int32))])) _
        refine XS.goto X5.here hx rfl (pc0 := 24) (pc' := 28) rfl (hb hby d5_24) (by decide) (by decide) ?_
        exact Steps.refl _
      obtain ⟨fs, hr, hrun, hended, hW, hsame⟩ := X5.leave (v := some (.int (1 : Int32))) (fun h => by rw [Bd.returns] at h; cases h)
      have hfin : Steps p.tables e below Ω (T5.setFrames fs) := by
        refine S10.trans ?_
        exact own_retZ X5 hx Bd.returns (by decide) (hb hby d5_28) hr
      rw [hΩ] at hfin
      refine ⟨_, _, hfin, hrun, hended, _, _, rfl, ?_, ⟨_, rfl⟩, hW, hsame.mono (by decide) (by decide)⟩
      show Q5 Z a q1 ia ma st bs mk cn xs h0 n0 _ T5.heap _
      rw [e5]
      exact ⟨by rw [own_holds, if_neg c1, if_pos c2], N0, rfl⟩
    · have qc2 : ¬ (q1 - bs).toInt = (((q1 - bs).toInt32).toInt64).toInt := fun q => c2 (Int64.toInt_inj.mp q)
      have S11 : Steps p.tables e below Ω (T5.setTop (mkF m 28 #[.val (.ref a), .val (.long q1), .second, .val (.long (q1 - bs)), .second] [(.int (0 : Int32))])) := by
        refine S9.trans ?_
        refine XS.ifYes X5.here hx rfl (pc0 := 20) (pc' := 27) rfl (hb hby d5_20) rfl (XT.ll_ne_t c2) (by decide) (by decide) ?_
        show Steps p.tables e below (T5.setTop (mkF m 27 #[.val (.ref a), .val (.long q1), .second, .val (.long (q1 - bs)), .second] [])) _
        refine XS.iconst X5.here hx rfl (hb hby d5_27) ?_
        exact Steps.refl _
      obtain ⟨fs, hr, hrun, hended, hW, hsame⟩ := X5.leave (v := some (.int (0 : Int32))) (fun h => by rw [Bd.returns] at h; cases h)
      have hfin : Steps p.tables e below Ω (T5.setFrames fs) := by
        refine S11.trans ?_
        exact own_retZ X5 hx Bd.returns (by decide) (hb hby d5_28) hr
      rw [hΩ] at hfin
      refine ⟨_, _, hfin, hrun, hended, _, _, rfl, ?_, ⟨_, rfl⟩, hW, hsame.mono (by decide) (by decide)⟩
      show Q5 Z a q1 ia ma st bs mk cn xs h0 n0 _ T5.heap _
      rw [e5]
      exact ⟨by rw [own_holds, if_neg c1, if_neg c2], N0, rfl⟩
theorem d11_0 : decode prog_28_method_24_code 0 = .ok (.aload_n 0, 1) := by decide +kernel
theorem d11_1 : decode prog_28_method_24_code 1 = .ok (.getfield 22, 3) := by decide +kernel
theorem d11_4 : decode prog_28_method_24_code 4 = .ok (.iload_n 1, 1) := by decide +kernel
theorem d11_5 : decode prog_28_method_24_code 5 = .ok (.iaload, 1) := by decide +kernel
theorem d11_6 : decode prog_28_method_24_code 6 = .ok (.i2l, 1) := by decide +kernel
theorem d11_7 : decode prog_28_method_24_code 7 = .ok (.bipush 32, 2) := by decide +kernel
theorem d11_9 : decode prog_28_method_24_code 9 = .ok (.lshl, 1) := by decide +kernel
theorem d11_10 : decode prog_28_method_24_code 10 = .ok (.aload_n 0, 1) := by decide +kernel
theorem d11_11 : decode prog_28_method_24_code 11 = .ok (.getfield 22, 3) := by decide +kernel
theorem d11_14 : decode prog_28_method_24_code 14 = .ok (.iload_n 1, 1) := by decide +kernel
theorem d11_15 : decode prog_28_method_24_code 15 = .ok (.iconst 1, 1) := by decide +kernel
theorem d11_16 : decode prog_28_method_24_code 16 = .ok (.iadd, 1) := by decide +kernel
theorem d11_17 : decode prog_28_method_24_code 17 = .ok (.iaload, 1) := by decide +kernel
theorem d11_18 : decode prog_28_method_24_code 18 = .ok (.i2l, 1) := by decide +kernel
theorem d11_19 : decode prog_28_method_24_code 19 = .ok (.ldc2_w 143, 3) := by decide +kernel
theorem d11_22 : decode prog_28_method_24_code 22 = .ok (.land, 1) := by decide +kernel
theorem d11_23 : decode prog_28_method_24_code 23 = .ok (.lor, 1) := by decide +kernel
theorem d11_24 : decode prog_28_method_24_code 24 = .ok (.lreturn, 1) := by decide +kernel
theorem ef_rm11 (m : MethodId) (x0 : Addr) (x1 : Int32) : entryFrame m #[(.ref x0), (.int x1)] 2 = mkF m 0 #[.val (.ref x0), .val (.int x1)] [] := by first | (simp [entryFrame, mkF, argsToLocals, Value.category]; done) | rfl
def Q11 (Z : State) (a : Addr) (p1 : Int32) (ia : Addr) (ma : Addr) (st : Int32) (bs : Int64) (mk : Int32) (cn : Int32) (xs : List Int32) (x : Int32) (y : Int32) (h0 : Heap) (n0 : Nat) (v : Option Value) (h : Heap) (L : List Loc) : Prop := v = some (.long (own_of x y)) ∧ Fr n0 L ∧ h = h0
set_option maxRecDepth 65536 in
set_option maxHeartbeats 40000000 in
theorem rm11 (l : Launch) (Z : State) (a0 : Array Value) (hw : ∀ d ∈ tables_1, d.before a0 Z = true) (ws : List Jvm.Cond) (a : Addr) (p1 : Int32) (ia : Addr) (ma : Addr) (st : Int32) (bs : Int64) (mk : Int32) (cn : Int32) (xs : List Int32) (x : Int32) (y : Int32) (h0 : Heap) (n0 : Nat) (Z0 : n0 ≤ h0.size) (KT0 : KT Z h0 a ia ma st bs mk cn xs) (b1 : ¬ p1 < 0) (b2 : (xs.map Value.int)[p1.toNatClampNeg]? = some (.int x)) (b3 : ¬ (p1 + (1 : Int32)) < 0) (b4 : (xs.map Value.int)[(p1 + (1 : Int32)).toNatClampNeg]? = some (.int y)) :
    MetFree l (⟨"com/example/admission_by_rate/admissionbyrate/KeyTable", "longOf", "(I)J"⟩ : MethodName) (head1 (Jvm.Cond.code (⟨"com/example/admission_by_rate/admissionbyrate/KeyTable", "longOf", "(I)J"⟩ : MethodName) prog_28_method_24_code 2 (some .long) :: ws) ({ frames := 0, cells := 0, slots := 0, locals := 0 } : Room)) (fun aa U => aa = #[(.ref a), (.int p1)] ∧ Z.Warmed39 U.vm ∧ U.heap = h0) (fun _ _ _ _ _ => True) (fun _ U o U' => ∃ v L, o = .returned v ∧ Q11 Z a p1 ia ma st bs mk cn xs x y h0 n0 v U'.heap L ∧ FrameEnd U o U' L ({ frames := 0, cells := 0, slots := 0, locals := 0 } : Room).cells ({ frames := 0, cells := 0, slots := 0, locals := 0 } : Room).slots) := by
  refine MetFree.of_bodySF (plainFor_of_name pn_0) hisR ?_
  intro p e s m args below meth c s₁ Bd hml0 hP hK
  obtain ⟨rfl, hZ, hh⟩ := hP
  have hx := Bd.exec
  have hby := Bd.bytes
  have hml : c.maxLocals = 2 := hml0
  have hown : s.vm.findClass "com/example/admission_by_rate/admissionbyrate/KeyTable" = some m.cls := findClass_of_methodNamed Bd.named
  have hnm := (name_of_methodNamed Bd.named Bd.method).1
  have X0 : Stand p l e ({ frames := 0, cells := 0, slots := 0, locals := 0 } : Room) s m #[(.ref a), (.int p1)] below meth c s₁ [] 0 0 := Stand.of_body Bd
  have e0 : s₁.heap = h0 := by rw [← hh, Bd.state]; rfl
  have N0 := Fr.nil n0
  obtain ⟨Ω, hΩ⟩ : ∃ z, z = s₁.setTop (entryFrame m #[(.ref a), (.int p1)] 2) := ⟨_, rfl⟩
  have S0 : Steps p.tables e below Ω (s₁.setTop (mkF m 0 #[.val (.ref a), .val (.int p1)] [])) := by rw [hΩ]; exact castTop (ef_rm11 m a p1) (Steps.refl _)
  obtain ⟨E0, Pst, Pin, Pbs, Pma, Pmk, Pcn, A0, Em, Pw, ne1, ne2, ne3⟩ := KT0
  have S1 : Steps p.tables e below Ω (s₁.setTop (mkF m 1 #[.val (.ref a), .val (.int p1)] [(.ref a)])) := by
    refine S0.trans ?_
    refine XS.aloadN X0.here hx rfl (hb hby d11_0) rfl rfl ?_
    exact Steps.refl _
  obtain ⟨T2, X2, e2, st2⟩ := getF X0 hx hZ hown (host := "") (Or.inl (hw _ (List.mem_of_getElem? (i := 17) rfl))) Via.refl e0 Pin (g := (mkF m 1 #[.val (.ref a), .val (.int p1)] [(.ref a)])) rfl rfl (hb hby d11_1)
  have S3 : Steps p.tables e below Ω (T2.setTop (mkF m 4 #[.val (.ref a), .val (.int p1)] [(.ref ia)])) := S1.trans (st2 _ (Steps.refl _))
  have S4 : Steps p.tables e below Ω (T2.setTop (mkF m 5 #[.val (.ref a), .val (.int p1)] [(.int p1), (.ref ia)])) := by
    refine S3.trans ?_
    refine XS.iloadN X2.here hx rfl (hb hby d11_4) rfl ?_
    exact Steps.refl _
  have S5 : Steps p.tables e below Ω (T2.setTop (mkF m 6 #[.val (.ref a), .val (.int p1)] [(.int x)])) := S4.trans (own_ldI X2 hx hZ e2 A0 (j := p1) (x := x) b1 b2 (g := (mkF m 5 #[.val (.ref a), .val (.int p1)] [(.int p1), (.ref ia)])) rfl rfl (hb hby d11_5) _ (Steps.refl _))
  have S6 : Steps p.tables e below Ω (T2.setTop (mkF m 11 #[.val (.ref a), .val (.int p1)] [(.ref a), (.long ((x.toInt64) <<< ((32 : Int32) &&& 0x3f).toInt64))])) := by
    refine S5.trans ?_
    refine XS.i2l X2.here hx rfl (hb hby d11_6) rfl ?_
    show Steps p.tables e below (T2.setTop (mkF m 7 #[.val (.ref a), .val (.int p1)] [(.long (x.toInt64))])) _
    refine XS.bipush X2.here hx rfl (hb hby d11_7) ?_
    show Steps p.tables e below (T2.setTop (mkF m 9 #[.val (.ref a), .val (.int p1)] [(.int (32 : Int32)), (.long (x.toInt64))])) _
    refine XS.lshl X2.here hx rfl (hb hby d11_9) rfl ?_
    show Steps p.tables e below (T2.setTop (mkF m 10 #[.val (.ref a), .val (.int p1)] [(.long ((x.toInt64) <<< ((32 : Int32) &&& 0x3f).toInt64))])) _
    refine XS.aloadN X2.here hx rfl (hb hby d11_10) rfl rfl ?_
    exact Steps.refl _
  obtain ⟨T7, X7, e7, st7⟩ := getF X2 hx hZ hown (host := "") (Or.inl (hw _ (List.mem_of_getElem? (i := 17) rfl))) Via.refl e2 Pin (g := (mkF m 11 #[.val (.ref a), .val (.int p1)] [(.ref a), (.long ((x.toInt64) <<< ((32 : Int32) &&& 0x3f).toInt64))])) rfl rfl (hb hby d11_11)
  have S8 : Steps p.tables e below Ω (T7.setTop (mkF m 14 #[.val (.ref a), .val (.int p1)] [(.ref ia), (.long ((x.toInt64) <<< ((32 : Int32) &&& 0x3f).toInt64))])) := S6.trans (st7 _ (Steps.refl _))
  have S9 : Steps p.tables e below Ω (T7.setTop (mkF m 17 #[.val (.ref a), .val (.int p1)] [(.int (p1 + (1 : Int32))), (.ref ia), (.long ((x.toInt64) <<< ((32 : Int32) &&& 0x3f).toInt64))])) := by
    refine S8.trans ?_
    refine XS.iloadN X7.here hx rfl (hb hby d11_14) rfl ?_
    show Steps p.tables e below (T7.setTop (mkF m 15 #[.val (.ref a), .val (.int p1)] [(.int p1), (.ref ia), (.long ((x.toInt64) <<< ((32 : Int32) &&& 0x3f).toInt64))])) _
    refine XS.iconst X7.here hx rfl (hb hby d11_15) ?_
    show Steps p.tables e below (T7.setTop (mkF m 16 #[.val (.ref a), .val (.int p1)] [(.int (1 : Int32)), (.int p1), (.ref ia), (.long ((x.toInt64) <<< ((32 : Int32) &&& 0x3f).toInt64))])) _
    refine XS.iadd X7.here hx rfl (hb hby d11_16) rfl ?_
    exact Steps.refl _
  have S10 : Steps p.tables e below Ω (T7.setTop (mkF m 18 #[.val (.ref a), .val (.int p1)] [(.int y), (.long ((x.toInt64) <<< ((32 : Int32) &&& 0x3f).toInt64))])) := S9.trans (own_ldI X7 hx hZ e7 A0 (j := (p1 + (1 : Int32))) (x := y) b3 b4 (g := (mkF m 17 #[.val (.ref a), .val (.int p1)] [(.int (p1 + (1 : Int32))), (.ref ia), (.long ((x.toInt64) <<< ((32 : Int32) &&& 0x3f).toInt64))])) rfl rfl (hb hby d11_17) _ (Steps.refl _))
  have S11 : Steps p.tables e below Ω (T7.setTop (mkF m 24 #[.val (.ref a), .val (.int p1)] [(.long (((x.toInt64) <<< ((32 : Int32) &&& 0x3f).toInt64) ||| ((y.toInt64) &&& (4294967295 : Int64))))])) := by
    refine S10.trans ?_
    refine XS.i2l X7.here hx rfl (hb hby d11_18) rfl ?_
    show Steps p.tables e below (T7.setTop (mkF m 19 #[.val (.ref a), .val (.int p1)] [(.long (y.toInt64)), (.long ((x.toInt64) <<< ((32 : Int32) &&& 0x3f).toInt64))])) _
    refine X7.ldc2Long hx hown (mvT hZ (hw _ (List.mem_of_getElem? (i := 76) rfl))) (g := (mkF m 19 #[.val (.ref a), .val (.int p1)] [(.long (y.toInt64)), (.long ((x.toInt64) <<< ((32 : Int32) &&& 0x3f).toInt64))])) rfl (hb hby d11_19) _ ?_
    show Steps p.tables e below (T7.setTop (mkF m 22 #[.val (.ref a), .val (.int p1)] [(.long (4294967295 : Int64)), (.long (y.toInt64)), (.long ((x.toInt64) <<< ((32 : Int32) &&& 0x3f).toInt64))])) _
    refine XS.land X7.here hx rfl (hb hby d11_22) rfl ?_
    show Steps p.tables e below (T7.setTop (mkF m 23 #[.val (.ref a), .val (.int p1)] [(.long ((y.toInt64) &&& (4294967295 : Int64))), (.long ((x.toInt64) <<< ((32 : Int32) &&& 0x3f).toInt64))])) _
    refine XS.lor X7.here hx rfl (hb hby d11_23) rfl ?_
    exact Steps.refl _
  obtain ⟨fs, hr, hrun, hended, hW, hsame⟩ := X7.leave (v := some (.long (((x.toInt64) <<< ((32 : Int32) &&& 0x3f).toInt64) ||| ((y.toInt64) &&& (4294967295 : Int64))))) (fun h => by rw [Bd.returns] at h; cases h)
  have hfin : Steps p.tables e below Ω (T7.setFrames fs) := by
    refine S11.trans ?_
    exact X7.lreturnOut hx Bd.returns (hb hby d11_24) hr
  rw [hΩ] at hfin
  refine ⟨_, _, hfin, hrun, hended, _, _, rfl, ?_, ⟨_, rfl⟩, hW, hsame.mono (by decide) (by decide)⟩
  show Q11 Z a p1 ia ma st bs mk cn xs x y h0 n0 _ T7.heap _
  rw [e7]
  exact ⟨rfl, N0, rfl⟩
theorem d10_0 : decode prog_28_method_6_code 0 = .ok (.aload_n 0, 1) := by decide +kernel
theorem d10_1 : decode prog_28_method_6_code 1 = .ok (.iload_n 1, 1) := by decide +kernel
theorem d10_2 : decode prog_28_method_6_code 2 = .ok (.aload_n 0, 1) := by decide +kernel
theorem d10_3 : decode prog_28_method_6_code 3 = .ok (.getfield 18, 3) := by decide +kernel
theorem d10_6 : decode prog_28_method_6_code 6 = .ok (.imul, 1) := by decide +kernel
theorem pd_0 : parseMethodDescriptor "(I)J" = some ⟨[.int], some .long⟩ := by decide +kernel
theorem d10_7 : decode prog_28_method_6_code 7 = .ok (.invokevirtual 49, 3) := by decide +kernel
theorem d10_10 : decode prog_28_method_6_code 10 = .ok (.lreturn, 1) := by decide +kernel
theorem ef_rm10 (m : MethodId) (x0 : Addr) (x1 : Int32) : entryFrame m #[(.ref x0), (.int x1)] 2 = mkF m 0 #[.val (.ref x0), .val (.int x1)] [] := by first | (simp [entryFrame, mkF, argsToLocals, Value.category]; done) | rfl
def Q10 (Z : State) (a : Addr) (p1 : Int32) (ia : Addr) (ma : Addr) (st : Int32) (bs : Int64) (mk : Int32) (cn : Int32) (xs : List Int32) (x : Int32) (y : Int32) (h0 : Heap) (n0 : Nat) (v : Option Value) (h : Heap) (L : List Loc) : Prop := v = some (.long (own_of x y)) ∧ Fr n0 L ∧ h = h0
set_option maxRecDepth 65536 in
set_option maxHeartbeats 40000000 in
theorem rm10 (l : Launch) (Z : State) (a0 : Array Value) (hw : ∀ d ∈ tables_1, d.before a0 Z = true) (ws : List Jvm.Cond) (a : Addr) (p1 : Int32) (ia : Addr) (ma : Addr) (st : Int32) (bs : Int64) (mk : Int32) (cn : Int32) (xs : List Int32) (x : Int32) (y : Int32) (h0 : Heap) (n0 : Nat) (Z0 : n0 ≤ h0.size) (KT0 : KT Z h0 a ia ma st bs mk cn xs) (b1 : ¬ (p1 * st) < 0) (b2 : (xs.map Value.int)[(p1 * st).toNatClampNeg]? = some (.int x)) (b3 : ¬ ((p1 * st) + (1 : Int32)) < 0) (b4 : (xs.map Value.int)[((p1 * st) + (1 : Int32)).toNatClampNeg]? = some (.int y)) :
    MetFree l (⟨"com/example/admission_by_rate/admissionbyrate/KeyTable", "digestAt", "(I)J"⟩ : MethodName) (head1 (Jvm.Cond.code (⟨"com/example/admission_by_rate/admissionbyrate/KeyTable", "digestAt", "(I)J"⟩ : MethodName) prog_28_method_6_code 2 (some .long) :: ws) ({ frames := 1, cells := 0, slots := 0, locals := 13 } : Room)) (fun aa U => aa = #[(.ref a), (.int p1)] ∧ Z.Warmed39 U.vm ∧ U.heap = h0) (fun _ _ _ _ _ => True) (fun _ U o U' => ∃ v L, o = .returned v ∧ Q10 Z a p1 ia ma st bs mk cn xs x y h0 n0 v U'.heap L ∧ FrameEnd U o U' L ({ frames := 1, cells := 0, slots := 0, locals := 13 } : Room).cells ({ frames := 1, cells := 0, slots := 0, locals := 13 } : Room).slots) := by
  refine MetFree.of_bodySF (plainFor_of_name pn_0) hisR ?_
  intro p e s m args below meth c s₁ Bd hml0 hP hK
  obtain ⟨rfl, hZ, hh⟩ := hP
  have hx := Bd.exec
  have hby := Bd.bytes
  have hml : c.maxLocals = 2 := hml0
  have hown : s.vm.findClass "com/example/admission_by_rate/admissionbyrate/KeyTable" = some m.cls := findClass_of_methodNamed Bd.named
  have hnm := (name_of_methodNamed Bd.named Bd.method).1
  have X0 : Stand p l e ({ frames := 1, cells := 0, slots := 0, locals := 13 } : Room) s m #[(.ref a), (.int p1)] below meth c s₁ [] 0 0 := Stand.of_body Bd
  have e0 : s₁.heap = h0 := by rw [← hh, Bd.state]; rfl
  have N0 := Fr.nil n0
  obtain ⟨Ω, hΩ⟩ : ∃ z, z = s₁.setTop (entryFrame m #[(.ref a), (.int p1)] 2) := ⟨_, rfl⟩
  have S0 : Steps p.tables e below Ω (s₁.setTop (mkF m 0 #[.val (.ref a), .val (.int p1)] [])) := by rw [hΩ]; exact castTop (ef_rm10 m a p1) (Steps.refl _)
  have KT1 := KT0
  obtain ⟨E0, Pst, Pin, Pbs, Pma, Pmk, Pcn, A0, Em, Pw, ne1, ne2, ne3⟩ := KT0
  have S1 : Steps p.tables e below Ω (s₁.setTop (mkF m 3 #[.val (.ref a), .val (.int p1)] [(.ref a), (.int p1), (.ref a)])) := by
    refine S0.trans ?_
    refine XS.aloadN X0.here hx rfl (hb hby d10_0) rfl rfl ?_
    show Steps p.tables e below (s₁.setTop (mkF m 1 #[.val (.ref a), .val (.int p1)] [(.ref a)])) _
    refine XS.iloadN X0.here hx rfl (hb hby d10_1) rfl ?_
    show Steps p.tables e below (s₁.setTop (mkF m 2 #[.val (.ref a), .val (.int p1)] [(.int p1), (.ref a)])) _
    refine XS.aloadN X0.here hx rfl (hb hby d10_2) rfl rfl ?_
    exact Steps.refl _
  obtain ⟨T2, X2, e2, st2⟩ := getF X0 hx hZ hown (host := "") (Or.inl (hw _ (List.mem_of_getElem? (i := 14) rfl))) Via.refl e0 Pst (g := (mkF m 3 #[.val (.ref a), .val (.int p1)] [(.ref a), (.int p1), (.ref a)])) rfl rfl (hb hby d10_3)
  have S3 : Steps p.tables e below Ω (T2.setTop (mkF m 6 #[.val (.ref a), .val (.int p1)] [(.int st), (.int p1), (.ref a)])) := S1.trans (st2 _ (Steps.refl _))
  have S4 : Steps p.tables e below Ω (T2.setTop (mkF m 7 #[.val (.ref a), .val (.int p1)] [(.int (p1 * st)), (.ref a)])) := by
    refine S3.trans ?_
    refine XS.imul X2.here hx rfl (hb hby d10_6) rfl ?_
    exact Steps.refl _
  obtain ⟨cq5, q5, q5'⟩ := (E0).cell
  obtain ⟨_, _, ⟨T5, L5, k5, n5⟩, -, X5, ⟨Lc5, hQ5, l5, y5, z5⟩, st5⟩ := X2.privateBack hx (y := (⟨"com/example/admission_by_rate/admissionbyrate/KeyTable", "longOf", "(I)J"⟩ : MethodName)) hown (mvT hZ (hw _ (List.mem_of_getElem? (i := 72) rfl))) (mvT hZ (hw _ (List.mem_of_getElem? (i := 73) rfl))) (own_sel (z := (⟨"com/example/admission_by_rate/admissionbyrate/KeyTable", "holds", "(J)Z"⟩ : MethodName)) (mvT hZ (hw _ (List.mem_of_getElem? (i := 41) rfl))) rfl (Cond.privateMethod_at (mvP hZ (hw _ (List.mem_of_getElem? (i := 74) rfl)) (args := #[]))) (mvT hZ (hw _ (List.mem_of_getElem? (i := 73) rfl))) (by decide)) (Cond.privateMethod_at (mvP hZ (hw _ (List.mem_of_getElem? (i := 74) rfl)) (args := #[]))) (mvT hZ (hw _ (List.mem_of_getElem? (i := 75) rfl))) (by decide) (backOf (W := 0) (rm11 l Z a0 hw [] a (p1 * st) ia ma st bs mk cn xs x y h0 n0 Z0 KT1 b1 b2 b3 b4) hZ (hw _ (List.mem_of_getElem? (i := 75) rfl)) (hw _ (List.mem_of_getElem? (i := 2) rfl)) (by decide) (by decide)) (g := (mkF m 7 #[.val (.ref a), .val (.int p1)] [(.int (p1 * st)), (.ref a)])) rfl (by rw [hml]; rfl) (Steps.refl _) (a := a) (by rw [e2]; exact q5) q5' (argsL := [(.int (p1 * st))]) (rest := []) (lenOf pd_0 rfl) rfl (by show 2 * 0 + _ ≤ _; exact Nat.le_of_eq rfl) (hb hby d10_7) (fun _ _ => ⟨rfl, e2, (by decide : 0 + 0 ≤ _), (by decide : 0 + 0 ≤ _)⟩)
  dsimp only [Pt.U, Pt.locs, Pt.cells, Pt.slots] at X5 l5 y5 z5 st5 hQ5
  subst l5 y5 z5
  obtain ⟨rfl, N5q, e5⟩ := hQ5
  have N5 := Fr.app N0 N5q
  have S6 : Steps p.tables e below Ω (T5.setTop (mkF m 10 #[.val (.ref a), .val (.int p1)] [(.long (own_of x y))])) := S4.trans st5
  obtain ⟨fs, hr, hrun, hended, hW, hsame⟩ := X5.leave (v := some (.long (own_of x y))) (fun h => by rw [Bd.returns] at h; cases h)
  have hfin : Steps p.tables e below Ω (T5.setFrames fs) := by
    refine S6.trans ?_
    exact X5.lreturnOut hx Bd.returns (hb hby d10_10) hr
  rw [hΩ] at hfin
  refine ⟨_, _, hfin, hrun, hended, _, _, rfl, ?_, ⟨_, rfl⟩, hW, hsame.mono (by decide) (by decide)⟩
  show Q10 Z a p1 ia ma st bs mk cn xs x y h0 n0 _ T5.heap _
  rw [e5]
  exact ⟨rfl, N5, rfl⟩
theorem d18_0 : decode prog_28_method_8_code 0 = .ok (.iload_n 1, 1) := by decide +kernel
theorem d18_1 : decode prog_28_method_8_code 1 = .ok (.aload_n 0, 1) := by decide +kernel
theorem d18_2 : decode prog_28_method_8_code 2 = .ok (.getfield 18, 3) := by decide +kernel
theorem d18_5 : decode prog_28_method_8_code 5 = .ok (.imul, 1) := by decide +kernel
theorem d18_6 : decode prog_28_method_8_code 6 = .ok (.iconst 2, 1) := by decide +kernel
theorem d18_7 : decode prog_28_method_8_code 7 = .ok (.iadd, 1) := by decide +kernel
theorem d18_8 : decode prog_28_method_8_code 8 = .ok (.istore_n 2, 1) := by decide +kernel
theorem d18_9 : decode prog_28_method_8_code 9 = .ok (.aload_n 0, 1) := by decide +kernel
theorem d18_10 : decode prog_28_method_8_code 10 = .ok (.getfield 18, 3) := by decide +kernel
theorem d18_13 : decode prog_28_method_8_code 13 = .ok (.iconst 3, 1) := by decide +kernel
theorem d18_14 : decode prog_28_method_8_code 14 = .ok (.if_icmp .ne 18, 3) := by decide +kernel
theorem d18_17 : decode prog_28_method_8_code 17 = .ok (.aload_n 0, 1) := by decide +kernel
theorem d18_18 : decode prog_28_method_8_code 18 = .ok (.getfield 26, 3) := by decide +kernel
theorem d18_21 : decode prog_28_method_8_code 21 = .ok (.aload_n 0, 1) := by decide +kernel
theorem d18_22 : decode prog_28_method_8_code 22 = .ok (.getfield 22, 3) := by decide +kernel
theorem d18_25 : decode prog_28_method_8_code 25 = .ok (.iload_n 2, 1) := by decide +kernel
theorem d18_26 : decode prog_28_method_8_code 26 = .ok (.iaload, 1) := by decide +kernel
theorem d18_27 : decode prog_28_method_8_code 27 = .ok (.i2l, 1) := by decide +kernel
theorem d18_28 : decode prog_28_method_8_code 28 = .ok (.ladd, 1) := by decide +kernel
theorem d18_29 : decode prog_28_method_8_code 29 = .ok (.goto 8, 3) := by decide +kernel
theorem d18_37 : decode prog_28_method_8_code 37 = .ok (.lreturn, 1) := by decide +kernel
theorem ef_rm18n (m : MethodId) (x0 : Addr) (x1 : Int32) : entryFrame m #[(.ref x0), (.int x1)] 3 = mkF m 0 #[.val (.ref x0), .val (.int x1), .unset] [] := by first | (simp [entryFrame, mkF, argsToLocals, Value.category]; done) | rfl
def Q18n (Z : State) (a : Addr) (p1 : Int32) (ia : Addr) (ma : Addr) (st : Int32) (bs : Int64) (mk : Int32) (cn : Int32) (xs : List Int32) (x : Int32) (h0 : Heap) (n0 : Nat) (v : Option Value) (h : Heap) (L : List Loc) : Prop := v = some (.long (bs + x.toInt64)) ∧ Fr n0 L ∧ h = h0
set_option maxRecDepth 65536 in
set_option maxHeartbeats 40000000 in
theorem rm18n (l : Launch) (Z : State) (a0 : Array Value) (hw : ∀ d ∈ tables_1, d.before a0 Z = true) (ws : List Jvm.Cond) (a : Addr) (p1 : Int32) (ia : Addr) (ma : Addr) (st : Int32) (bs : Int64) (mk : Int32) (cn : Int32) (xs : List Int32) (x : Int32) (h0 : Heap) (n0 : Nat) (Z0 : n0 ≤ h0.size) (KT0 : KT Z h0 a ia ma st bs mk cn xs) (pe3 : st = (3 : Int32)) (b1 : ¬ ((p1 * st) + (2 : Int32)) < 0) (b2 : (xs.map Value.int)[((p1 * st) + (2 : Int32)).toNatClampNeg]? = some (.int x)) :
    MetFree l (⟨"com/example/admission_by_rate/admissionbyrate/KeyTable", "longAt", "(I)J"⟩ : MethodName) (head1 (Jvm.Cond.code (⟨"com/example/admission_by_rate/admissionbyrate/KeyTable", "longAt", "(I)J"⟩ : MethodName) prog_28_method_8_code 3 (some .long) :: ws) ({ frames := 0, cells := 0, slots := 0, locals := 0 } : Room)) (fun aa U => aa = #[(.ref a), (.int p1)] ∧ Z.Warmed39 U.vm ∧ U.heap = h0) (fun _ _ _ _ _ => True) (fun _ U o U' => ∃ v L, o = .returned v ∧ Q18n Z a p1 ia ma st bs mk cn xs x h0 n0 v U'.heap L ∧ FrameEnd U o U' L ({ frames := 0, cells := 0, slots := 0, locals := 0 } : Room).cells ({ frames := 0, cells := 0, slots := 0, locals := 0 } : Room).slots) := by
  refine MetFree.of_bodySF (plainFor_of_name pn_0) hisR ?_
  intro p e s m args below meth c s₁ Bd hml0 hP hK
  obtain ⟨rfl, hZ, hh⟩ := hP
  have hx := Bd.exec
  have hby := Bd.bytes
  have hml : c.maxLocals = 3 := hml0
  have hown : s.vm.findClass "com/example/admission_by_rate/admissionbyrate/KeyTable" = some m.cls := findClass_of_methodNamed Bd.named
  have hnm := (name_of_methodNamed Bd.named Bd.method).1
  have X0 : Stand p l e ({ frames := 0, cells := 0, slots := 0, locals := 0 } : Room) s m #[(.ref a), (.int p1)] below meth c s₁ [] 0 0 := Stand.of_body Bd
  have e0 : s₁.heap = h0 := by rw [← hh, Bd.state]; rfl
  have N0 := Fr.nil n0
  obtain ⟨Ω, hΩ⟩ : ∃ z, z = s₁.setTop (entryFrame m #[(.ref a), (.int p1)] 3) := ⟨_, rfl⟩
  have S0 : Steps p.tables e below Ω (s₁.setTop (mkF m 0 #[.val (.ref a), .val (.int p1), .unset] [])) := by rw [hΩ]; exact castTop (ef_rm18n m a p1) (Steps.refl _)
  obtain ⟨E0, Pst, Pin, Pbs, Pma, Pmk, Pcn, A0, Em, Pw, ne1, ne2, ne3⟩ := KT0
  have S1 : Steps p.tables e below Ω (s₁.setTop (mkF m 2 #[.val (.ref a), .val (.int p1), .unset] [(.ref a), (.int p1)])) := by
    refine S0.trans ?_
    refine XS.iloadN X0.here hx rfl (hb hby d18_0) rfl ?_
    show Steps p.tables e below (s₁.setTop (mkF m 1 #[.val (.ref a), .val (.int p1), .unset] [(.int p1)])) _
    refine XS.aloadN X0.here hx rfl (hb hby d18_1) rfl rfl ?_
    exact Steps.refl _
  obtain ⟨T2, X2, e2, st2⟩ := getF X0 hx hZ hown (host := "") (Or.inl (hw _ (List.mem_of_getElem? (i := 14) rfl))) Via.refl e0 Pst (g := (mkF m 2 #[.val (.ref a), .val (.int p1), .unset] [(.ref a), (.int p1)])) rfl rfl (hb hby d18_2)
  have S3 : Steps p.tables e below Ω (T2.setTop (mkF m 5 #[.val (.ref a), .val (.int p1), .unset] [(.int st), (.int p1)])) := S1.trans (st2 _ (Steps.refl _))
  have S4 : Steps p.tables e below Ω (T2.setTop (mkF m 10 #[.val (.ref a), .val (.int p1), .val (.int ((p1 * st) + (2 : Int32)))] [(.ref a)])) := by
    refine S3.trans ?_
    refine XS.imul X2.here hx rfl (hb hby d18_5) rfl ?_
    show Steps p.tables e below (T2.setTop (mkF m 6 #[.val (.ref a), .val (.int p1), .unset] [(.int (p1 * st))])) _
    refine XS.iconst X2.here hx rfl (hb hby d18_6) ?_
    show Steps p.tables e below (T2.setTop (mkF m 7 #[.val (.ref a), .val (.int p1), .unset] [(.int (2 : Int32)), (.int (p1 * st))])) _
    refine XS.iadd X2.here hx rfl (hb hby d18_7) rfl ?_
    show Steps p.tables e below (T2.setTop (mkF m 8 #[.val (.ref a), .val (.int p1), .unset] [(.int ((p1 * st) + (2 : Int32)))])) _
    refine XS.istoreN X2.here hx rfl (hb hby d18_8) rfl (l' := #[.val (.ref a), .val (.int p1), .val (.int ((p1 * st) + (2 : Int32)))]) rfl ?_
    show Steps p.tables e below (T2.setTop (mkF m 9 #[.val (.ref a), .val (.int p1), .val (.int ((p1 * st) + (2 : Int32)))] [])) _
    refine XS.aloadN X2.here hx rfl (hb hby d18_9) rfl rfl ?_
    exact Steps.refl _
  obtain ⟨T5, X5, e5, st5⟩ := getF X2 hx hZ hown (host := "") (Or.inl (hw _ (List.mem_of_getElem? (i := 14) rfl))) Via.refl e2 Pst (g := (mkF m 10 #[.val (.ref a), .val (.int p1), .val (.int ((p1 * st) + (2 : Int32)))] [(.ref a)])) rfl rfl (hb hby d18_10)
  have S6 : Steps p.tables e below Ω (T5.setTop (mkF m 13 #[.val (.ref a), .val (.int p1), .val (.int ((p1 * st) + (2 : Int32)))] [(.int st)])) := S4.trans (st5 _ (Steps.refl _))
  have S7 : Steps p.tables e below Ω (T5.setTop (mkF m 18 #[.val (.ref a), .val (.int p1), .val (.int ((p1 * st) + (2 : Int32)))] [(.ref a)])) := by
    refine S6.trans ?_
    refine XS.iconst X5.here hx rfl (hb hby d18_13) ?_
    show Steps p.tables e below (T5.setTop (mkF m 14 #[.val (.ref a), .val (.int p1), .val (.int ((p1 * st) + (2 : Int32)))] [(.int (3 : Int32)), (.int st)])) _
    refine XS.icmpNo X5.here hx rfl (hb hby d18_14) rfl (XT.ii_ne_f pe3) ?_
    show Steps p.tables e below (T5.setTop (mkF m 17 #[.val (.ref a), .val (.int p1), .val (.int ((p1 * st) + (2 : Int32)))] [])) _
    refine XS.aloadN X5.here hx rfl (hb hby d18_17) rfl rfl ?_
    exact Steps.refl _
  obtain ⟨T8, X8, e8, st8⟩ := getF X5 hx hZ hown (host := "") (Or.inl (hw _ (List.mem_of_getElem? (i := 19) rfl))) Via.refl e5 Pbs (g := (mkF m 18 #[.val (.ref a), .val (.int p1), .val (.int ((p1 * st) + (2 : Int32)))] [(.ref a)])) rfl rfl (hb hby d18_18)
  have S9 : Steps p.tables e below Ω (T8.setTop (mkF m 21 #[.val (.ref a), .val (.int p1), .val (.int ((p1 * st) + (2 : Int32)))] [(.long bs)])) := S7.trans (st8 _ (Steps.refl _))
  have S10 : Steps p.tables e below Ω (T8.setTop (mkF m 22 #[.val (.ref a), .val (.int p1), .val (.int ((p1 * st) + (2 : Int32)))] [(.ref a), (.long bs)])) := by
    refine S9.trans ?_
    refine XS.aloadN X8.here hx rfl (hb hby d18_21) rfl rfl ?_
    exact Steps.refl _
  obtain ⟨T11, X11, e11, st11⟩ := getF X8 hx hZ hown (host := "") (Or.inl (hw _ (List.mem_of_getElem? (i := 17) rfl))) Via.refl e8 Pin (g := (mkF m 22 #[.val (.ref a), .val (.int p1), .val (.int ((p1 * st) + (2 : Int32)))] [(.ref a), (.long bs)])) rfl rfl (hb hby d18_22)
  have S12 : Steps p.tables e below Ω (T11.setTop (mkF m 25 #[.val (.ref a), .val (.int p1), .val (.int ((p1 * st) + (2 : Int32)))] [(.ref ia), (.long bs)])) := S10.trans (st11 _ (Steps.refl _))
  have S13 : Steps p.tables e below Ω (T11.setTop (mkF m 26 #[.val (.ref a), .val (.int p1), .val (.int ((p1 * st) + (2 : Int32)))] [(.int ((p1 * st) + (2 : Int32))), (.ref ia), (.long bs)])) := by
    refine S12.trans ?_
    refine XS.iloadN X11.here hx rfl (hb hby d18_25) rfl ?_
    exact Steps.refl _
  have S14 : Steps p.tables e below Ω (T11.setTop (mkF m 27 #[.val (.ref a), .val (.int p1), .val (.int ((p1 * st) + (2 : Int32)))] [(.int x), (.long bs)])) := S13.trans (own_ldI X11 hx hZ e11 A0 (j := ((p1 * st) + (2 : Int32))) (x := x) b1 b2 (g := (mkF m 26 #[.val (.ref a), .val (.int p1), .val (.int ((p1 * st) + (2 : Int32)))] [(.int ((p1 * st) + (2 : Int32))), (.ref ia), (.long bs)])) rfl rfl (hb hby d18_26) _ (Steps.refl _))
  have S15 : Steps p.tables e below Ω (T11.setTop (mkF m 37 #[.val (.ref a), .val (.int p1), .val (.int ((p1 * st) + (2 : Int32)))] [(.long (bs + (x.toInt64)))])) := by
    refine S14.trans ?_
    refine XS.i2l X11.here hx rfl (hb hby d18_27) rfl ?_
    show Steps p.tables e below (T11.setTop (mkF m 28 #[.val (.ref a), .val (.int p1), .val (.int ((p1 * st) + (2 : Int32)))] [(.long (x.toInt64)), (.long bs)])) _
    refine XS.ladd X11.here hx rfl (hb hby d18_28) rfl ?_
    show Steps p.tables e below (T11.setTop (mkF m 29 #[.val (.ref a), .val (.int p1), .val (.int ((p1 * st) + (2 : Int32)))] [(.long (bs + (x.toInt64)))])) _
    refine XS.goto X11.here hx rfl (pc0 := 29) (pc' := 37) rfl (hb hby d18_29) (by decide) (by decide) ?_
    exact Steps.refl _
  obtain ⟨fs, hr, hrun, hended, hW, hsame⟩ := X11.leave (v := some (.long (bs + (x.toInt64)))) (fun h => by rw [Bd.returns] at h; cases h)
  have hfin : Steps p.tables e below Ω (T11.setFrames fs) := by
    refine S15.trans ?_
    exact X11.lreturnOut hx Bd.returns (hb hby d18_37) hr
  rw [hΩ] at hfin
  refine ⟨_, _, hfin, hrun, hended, _, _, rfl, ?_, ⟨_, rfl⟩, hW, hsame.mono (by decide) (by decide)⟩
  show Q18n Z a p1 ia ma st bs mk cn xs x h0 n0 _ T11.heap _
  rw [e11]
  exact ⟨rfl, N0, rfl⟩
theorem d18_32 : decode prog_28_method_8_code 32 = .ok (.aload_n 0, 1) := by decide +kernel
theorem d18_33 : decode prog_28_method_8_code 33 = .ok (.iload_n 2, 1) := by decide +kernel
theorem d18_34 : decode prog_28_method_8_code 34 = .ok (.invokevirtual 49, 3) := by decide +kernel
theorem ef_rm18w (m : MethodId) (x0 : Addr) (x1 : Int32) : entryFrame m #[(.ref x0), (.int x1)] 3 = mkF m 0 #[.val (.ref x0), .val (.int x1), .unset] [] := by first | (simp [entryFrame, mkF, argsToLocals, Value.category]; done) | rfl
def Q18w (Z : State) (a : Addr) (p1 : Int32) (ia : Addr) (ma : Addr) (st : Int32) (bs : Int64) (mk : Int32) (cn : Int32) (xs : List Int32) (x : Int32) (y : Int32) (h0 : Heap) (n0 : Nat) (v : Option Value) (h : Heap) (L : List Loc) : Prop := v = some (.long (own_of x y)) ∧ Fr n0 L ∧ h = h0
set_option maxRecDepth 65536 in
set_option maxHeartbeats 40000000 in
theorem rm18w (l : Launch) (Z : State) (a0 : Array Value) (hw : ∀ d ∈ tables_1, d.before a0 Z = true) (ws : List Jvm.Cond) (a : Addr) (p1 : Int32) (ia : Addr) (ma : Addr) (st : Int32) (bs : Int64) (mk : Int32) (cn : Int32) (xs : List Int32) (x : Int32) (y : Int32) (h0 : Heap) (n0 : Nat) (Z0 : n0 ≤ h0.size) (KT0 : KT Z h0 a ia ma st bs mk cn xs) (pe3 : ¬ st = (3 : Int32)) (b1 : ¬ ((p1 * st) + (2 : Int32)) < 0) (b2 : (xs.map Value.int)[((p1 * st) + (2 : Int32)).toNatClampNeg]? = some (.int x)) (b3 : ¬ (((p1 * st) + (2 : Int32)) + (1 : Int32)) < 0) (b4 : (xs.map Value.int)[(((p1 * st) + (2 : Int32)) + (1 : Int32)).toNatClampNeg]? = some (.int y)) :
    MetFree l (⟨"com/example/admission_by_rate/admissionbyrate/KeyTable", "longAt", "(I)J"⟩ : MethodName) (head1 (Jvm.Cond.code (⟨"com/example/admission_by_rate/admissionbyrate/KeyTable", "longAt", "(I)J"⟩ : MethodName) prog_28_method_8_code 3 (some .long) :: ws) ({ frames := 1, cells := 0, slots := 0, locals := 13 } : Room)) (fun aa U => aa = #[(.ref a), (.int p1)] ∧ Z.Warmed39 U.vm ∧ U.heap = h0) (fun _ _ _ _ _ => True) (fun _ U o U' => ∃ v L, o = .returned v ∧ Q18w Z a p1 ia ma st bs mk cn xs x y h0 n0 v U'.heap L ∧ FrameEnd U o U' L ({ frames := 1, cells := 0, slots := 0, locals := 13 } : Room).cells ({ frames := 1, cells := 0, slots := 0, locals := 13 } : Room).slots) := by
  refine MetFree.of_bodySF (plainFor_of_name pn_0) hisR ?_
  intro p e s m args below meth c s₁ Bd hml0 hP hK
  obtain ⟨rfl, hZ, hh⟩ := hP
  have hx := Bd.exec
  have hby := Bd.bytes
  have hml : c.maxLocals = 3 := hml0
  have hown : s.vm.findClass "com/example/admission_by_rate/admissionbyrate/KeyTable" = some m.cls := findClass_of_methodNamed Bd.named
  have hnm := (name_of_methodNamed Bd.named Bd.method).1
  have X0 : Stand p l e ({ frames := 1, cells := 0, slots := 0, locals := 13 } : Room) s m #[(.ref a), (.int p1)] below meth c s₁ [] 0 0 := Stand.of_body Bd
  have e0 : s₁.heap = h0 := by rw [← hh, Bd.state]; rfl
  have N0 := Fr.nil n0
  obtain ⟨Ω, hΩ⟩ : ∃ z, z = s₁.setTop (entryFrame m #[(.ref a), (.int p1)] 3) := ⟨_, rfl⟩
  have S0 : Steps p.tables e below Ω (s₁.setTop (mkF m 0 #[.val (.ref a), .val (.int p1), .unset] [])) := by rw [hΩ]; exact castTop (ef_rm18w m a p1) (Steps.refl _)
  have KT1 := KT0
  obtain ⟨E0, Pst, Pin, Pbs, Pma, Pmk, Pcn, A0, Em, Pw, ne1, ne2, ne3⟩ := KT0
  have S1 : Steps p.tables e below Ω (s₁.setTop (mkF m 2 #[.val (.ref a), .val (.int p1), .unset] [(.ref a), (.int p1)])) := by
    refine S0.trans ?_
    refine XS.iloadN X0.here hx rfl (hb hby d18_0) rfl ?_
    show Steps p.tables e below (s₁.setTop (mkF m 1 #[.val (.ref a), .val (.int p1), .unset] [(.int p1)])) _
    refine XS.aloadN X0.here hx rfl (hb hby d18_1) rfl rfl ?_
    exact Steps.refl _
  obtain ⟨T2, X2, e2, st2⟩ := getF X0 hx hZ hown (host := "") (Or.inl (hw _ (List.mem_of_getElem? (i := 14) rfl))) Via.refl e0 Pst (g := (mkF m 2 #[.val (.ref a), .val (.int p1), .unset] [(.ref a), (.int p1)])) rfl rfl (hb hby d18_2)
  have S3 : Steps p.tables e below Ω (T2.setTop (mkF m 5 #[.val (.ref a), .val (.int p1), .unset] [(.int st), (.int p1)])) := S1.trans (st2 _ (Steps.refl _))
  have S4 : Steps p.tables e below Ω (T2.setTop (mkF m 10 #[.val (.ref a), .val (.int p1), .val (.int ((p1 * st) + (2 : Int32)))] [(.ref a)])) := by
    refine S3.trans ?_
    refine XS.imul X2.here hx rfl (hb hby d18_5) rfl ?_
    show Steps p.tables e below (T2.setTop (mkF m 6 #[.val (.ref a), .val (.int p1), .unset] [(.int (p1 * st))])) _
    refine XS.iconst X2.here hx rfl (hb hby d18_6) ?_
    show Steps p.tables e below (T2.setTop (mkF m 7 #[.val (.ref a), .val (.int p1), .unset] [(.int (2 : Int32)), (.int (p1 * st))])) _
    refine XS.iadd X2.here hx rfl (hb hby d18_7) rfl ?_
    show Steps p.tables e below (T2.setTop (mkF m 8 #[.val (.ref a), .val (.int p1), .unset] [(.int ((p1 * st) + (2 : Int32)))])) _
    refine XS.istoreN X2.here hx rfl (hb hby d18_8) rfl (l' := #[.val (.ref a), .val (.int p1), .val (.int ((p1 * st) + (2 : Int32)))]) rfl ?_
    show Steps p.tables e below (T2.setTop (mkF m 9 #[.val (.ref a), .val (.int p1), .val (.int ((p1 * st) + (2 : Int32)))] [])) _
    refine XS.aloadN X2.here hx rfl (hb hby d18_9) rfl rfl ?_
    exact Steps.refl _
  obtain ⟨T5, X5, e5, st5⟩ := getF X2 hx hZ hown (host := "") (Or.inl (hw _ (List.mem_of_getElem? (i := 14) rfl))) Via.refl e2 Pst (g := (mkF m 10 #[.val (.ref a), .val (.int p1), .val (.int ((p1 * st) + (2 : Int32)))] [(.ref a)])) rfl rfl (hb hby d18_10)
  have S6 : Steps p.tables e below Ω (T5.setTop (mkF m 13 #[.val (.ref a), .val (.int p1), .val (.int ((p1 * st) + (2 : Int32)))] [(.int st)])) := S4.trans (st5 _ (Steps.refl _))
  have S7 : Steps p.tables e below Ω (T5.setTop (mkF m 34 #[.val (.ref a), .val (.int p1), .val (.int ((p1 * st) + (2 : Int32)))] [(.int ((p1 * st) + (2 : Int32))), (.ref a)])) := by
    refine S6.trans ?_
    refine XS.iconst X5.here hx rfl (hb hby d18_13) ?_
    show Steps p.tables e below (T5.setTop (mkF m 14 #[.val (.ref a), .val (.int p1), .val (.int ((p1 * st) + (2 : Int32)))] [(.int (3 : Int32)), (.int st)])) _
    refine XS.icmpYes X5.here hx rfl (pc0 := 14) (pc' := 32) rfl (hb hby d18_14) rfl (XT.ii_ne_t pe3) (by decide) (by decide) ?_
    show Steps p.tables e below (T5.setTop (mkF m 32 #[.val (.ref a), .val (.int p1), .val (.int ((p1 * st) + (2 : Int32)))] [])) _
    refine XS.aloadN X5.here hx rfl (hb hby d18_32) rfl rfl ?_
    show Steps p.tables e below (T5.setTop (mkF m 33 #[.val (.ref a), .val (.int p1), .val (.int ((p1 * st) + (2 : Int32)))] [(.ref a)])) _
    refine XS.iloadN X5.here hx rfl (hb hby d18_33) rfl ?_
    exact Steps.refl _
  obtain ⟨cq8, q8, q8'⟩ := (E0).cell
  obtain ⟨_, _, ⟨T8, L8, k8, n8⟩, -, X8, ⟨Lc8, hQ8, l8, y8, z8⟩, st8⟩ := X5.privateBack hx (y := (⟨"com/example/admission_by_rate/admissionbyrate/KeyTable", "longOf", "(I)J"⟩ : MethodName)) hown (mvT hZ (hw _ (List.mem_of_getElem? (i := 72) rfl))) (mvT hZ (hw _ (List.mem_of_getElem? (i := 73) rfl))) (own_sel (z := (⟨"com/example/admission_by_rate/admissionbyrate/KeyTable", "holds", "(J)Z"⟩ : MethodName)) (mvT hZ (hw _ (List.mem_of_getElem? (i := 41) rfl))) rfl (Cond.privateMethod_at (mvP hZ (hw _ (List.mem_of_getElem? (i := 74) rfl)) (args := #[]))) (mvT hZ (hw _ (List.mem_of_getElem? (i := 73) rfl))) (by decide)) (Cond.privateMethod_at (mvP hZ (hw _ (List.mem_of_getElem? (i := 74) rfl)) (args := #[]))) (mvT hZ (hw _ (List.mem_of_getElem? (i := 75) rfl))) (by decide) (backOf (W := 0) (rm11 l Z a0 hw [] a ((p1 * st) + (2 : Int32)) ia ma st bs mk cn xs x y h0 n0 Z0 KT1 b1 b2 b3 b4) hZ (hw _ (List.mem_of_getElem? (i := 75) rfl)) (hw _ (List.mem_of_getElem? (i := 2) rfl)) (by decide) (by decide)) (g := (mkF m 34 #[.val (.ref a), .val (.int p1), .val (.int ((p1 * st) + (2 : Int32)))] [(.int ((p1 * st) + (2 : Int32))), (.ref a)])) rfl (by rw [hml]; rfl) (Steps.refl _) (a := a) (by rw [e5]; exact q8) q8' (argsL := [(.int ((p1 * st) + (2 : Int32)))]) (rest := []) (lenOf pd_0 rfl) rfl (by show 2 * 0 + _ ≤ _; exact Nat.le_of_eq rfl) (hb hby d18_34) (fun _ _ => ⟨rfl, e5, (by decide : 0 + 0 ≤ _), (by decide : 0 + 0 ≤ _)⟩)
  dsimp only [Pt.U, Pt.locs, Pt.cells, Pt.slots] at X8 l8 y8 z8 st8 hQ8
  subst l8 y8 z8
  obtain ⟨rfl, N8q, e8⟩ := hQ8
  have N8 := Fr.app N0 N8q
  have S9 : Steps p.tables e below Ω (T8.setTop (mkF m 37 #[.val (.ref a), .val (.int p1), .val (.int ((p1 * st) + (2 : Int32)))] [(.long (own_of x y))])) := S7.trans st8
  obtain ⟨fs, hr, hrun, hended, hW, hsame⟩ := X8.leave (v := some (.long (own_of x y))) (fun h => by rw [Bd.returns] at h; cases h)
  have hfin : Steps p.tables e below Ω (T8.setFrames fs) := by
    refine S9.trans ?_
    exact X8.lreturnOut hx Bd.returns (hb hby d18_37) hr
  rw [hΩ] at hfin
  refine ⟨_, _, hfin, hrun, hended, _, _, rfl, ?_, ⟨_, rfl⟩, hW, hsame.mono (by decide) (by decide)⟩
  show Q18w Z a p1 ia ma st bs mk cn xs x y h0 n0 _ T8.heap _
  rw [e8]
  exact ⟨rfl, N8, rfl⟩
theorem d15_0 : decode prog_28_method_3_code 0 = .ok (.aload_n 0, 1) := by decide +kernel
theorem d15_1 : decode prog_28_method_3_code 1 = .ok (.getfield 43, 3) := by decide +kernel
theorem d15_4 : decode prog_28_method_3_code 4 = .ok (.iconst 1, 1) := by decide +kernel
theorem d15_5 : decode prog_28_method_3_code 5 = .ok (.iadd, 1) := by decide +kernel
theorem d15_6 : decode prog_28_method_3_code 6 = .ok (.ireturn, 1) := by decide +kernel
theorem ef_rm15 (m : MethodId) (x0 : Addr) : entryFrame m #[(.ref x0)] 1 = mkF m 0 #[.val (.ref x0)] [] := by first | (simp [entryFrame, mkF, argsToLocals, Value.category]; done) | rfl
def Q15 (Z : State) (a : Addr) (ia : Addr) (ma : Addr) (st : Int32) (bs : Int64) (mk : Int32) (cn : Int32) (xs : List Int32) (h0 : Heap) (n0 : Nat) (v : Option Value) (h : Heap) (L : List Loc) : Prop := v = some (.int (mk + (1 : Int32))) ∧ Fr n0 L ∧ h = h0
set_option maxRecDepth 65536 in
set_option maxHeartbeats 40000000 in
theorem rm15 (l : Launch) (Z : State) (a0 : Array Value) (hw : ∀ d ∈ tables_1, d.before a0 Z = true) (ws : List Jvm.Cond) (a : Addr) (ia : Addr) (ma : Addr) (st : Int32) (bs : Int64) (mk : Int32) (cn : Int32) (xs : List Int32) (h0 : Heap) (n0 : Nat) (Z0 : n0 ≤ h0.size) (KT0 : KT Z h0 a ia ma st bs mk cn xs) :
    MetFree l (⟨"com/example/admission_by_rate/admissionbyrate/KeyTable", "places", "()I"⟩ : MethodName) (head1 (Jvm.Cond.code (⟨"com/example/admission_by_rate/admissionbyrate/KeyTable", "places", "()I"⟩ : MethodName) prog_28_method_3_code 1 (some .int) :: ws) ({ frames := 0, cells := 0, slots := 0, locals := 0 } : Room)) (fun aa U => aa = #[(.ref a)] ∧ Z.Warmed39 U.vm ∧ U.heap = h0) (fun _ _ _ _ _ => True) (fun _ U o U' => ∃ v L, o = .returned v ∧ Q15 Z a ia ma st bs mk cn xs h0 n0 v U'.heap L ∧ FrameEnd U o U' L ({ frames := 0, cells := 0, slots := 0, locals := 0 } : Room).cells ({ frames := 0, cells := 0, slots := 0, locals := 0 } : Room).slots) := by
  refine MetFree.of_bodySF (plainFor_of_name pn_0) hisR ?_
  intro p e s m args below meth c s₁ Bd hml0 hP hK
  obtain ⟨rfl, hZ, hh⟩ := hP
  have hx := Bd.exec
  have hby := Bd.bytes
  have hml : c.maxLocals = 1 := hml0
  have hown : s.vm.findClass "com/example/admission_by_rate/admissionbyrate/KeyTable" = some m.cls := findClass_of_methodNamed Bd.named
  have hnm := (name_of_methodNamed Bd.named Bd.method).1
  have X0 : Stand p l e ({ frames := 0, cells := 0, slots := 0, locals := 0 } : Room) s m #[(.ref a)] below meth c s₁ [] 0 0 := Stand.of_body Bd
  have e0 : s₁.heap = h0 := by rw [← hh, Bd.state]; rfl
  have N0 := Fr.nil n0
  obtain ⟨Ω, hΩ⟩ : ∃ z, z = s₁.setTop (entryFrame m #[(.ref a)] 1) := ⟨_, rfl⟩
  have S0 : Steps p.tables e below Ω (s₁.setTop (mkF m 0 #[.val (.ref a)] [])) := by rw [hΩ]; exact castTop (ef_rm15 m a) (Steps.refl _)
  obtain ⟨E0, Pst, Pin, Pbs, Pma, Pmk, Pcn, A0, Em, Pw, ne1, ne2, ne3⟩ := KT0
  have S1 : Steps p.tables e below Ω (s₁.setTop (mkF m 1 #[.val (.ref a)] [(.ref a)])) := by
    refine S0.trans ?_
    refine XS.aloadN X0.here hx rfl (hb hby d15_0) rfl rfl ?_
    exact Steps.refl _
  obtain ⟨T2, X2, e2, st2⟩ := getF X0 hx hZ hown (host := "") (Or.inl (hw _ (List.mem_of_getElem? (i := 34) rfl))) Via.refl e0 Pmk (g := (mkF m 1 #[.val (.ref a)] [(.ref a)])) rfl rfl (hb hby d15_1)
  have S3 : Steps p.tables e below Ω (T2.setTop (mkF m 4 #[.val (.ref a)] [(.int mk)])) := S1.trans (st2 _ (Steps.refl _))
  have S4 : Steps p.tables e below Ω (T2.setTop (mkF m 6 #[.val (.ref a)] [(.int (mk + (1 : Int32)))])) := by
    refine S3.trans ?_
    refine XS.iconst X2.here hx rfl (hb hby d15_4) ?_
    show Steps p.tables e below (T2.setTop (mkF m 5 #[.val (.ref a)] [(.int (1 : Int32)), (.int mk)])) _
    refine XS.iadd X2.here hx rfl (hb hby d15_5) rfl ?_
    exact Steps.refl _
  obtain ⟨fs, hr, hrun, hended, hW, hsame⟩ := X2.leave (v := some (.int (mk + (1 : Int32)))) (fun h => by rw [Bd.returns] at h; cases h)
  have hfin : Steps p.tables e below Ω (T2.setFrames fs) := by
    refine S4.trans ?_
    exact retI X2 hx Bd.returns (hb hby d15_6) hr
  rw [hΩ] at hfin
  refine ⟨_, _, hfin, hrun, hended, _, _, rfl, ?_, ⟨_, rfl⟩, hW, hsame.mono (by decide) (by decide)⟩
  show Q15 Z a ia ma st bs mk cn xs h0 n0 _ T2.heap _
  rw [e2]
  exact ⟨rfl, N0, rfl⟩
theorem d7_0 : decode prog_28_method_25_code 0 = .ok (.aload_n 0, 1) := by decide +kernel
theorem d7_1 : decode prog_28_method_25_code 1 = .ok (.getfield 22, 3) := by decide +kernel
theorem d7_4 : decode prog_28_method_25_code 4 = .ok (.iload_n 1, 1) := by decide +kernel
theorem d7_5 : decode prog_28_method_25_code 5 = .ok (.lload_n 2, 1) := by decide +kernel
theorem d7_6 : decode prog_28_method_25_code 6 = .ok (.bipush 32, 2) := by decide +kernel
theorem d7_8 : decode prog_28_method_25_code 8 = .ok (.lushr, 1) := by decide +kernel
theorem d7_9 : decode prog_28_method_25_code 9 = .ok (.l2i, 1) := by decide +kernel
theorem d7_10 : decode prog_28_method_25_code 10 = .ok (.iastore, 1) := by decide +kernel
theorem d7_11 : decode prog_28_method_25_code 11 = .ok (.aload_n 0, 1) := by decide +kernel
theorem d7_12 : decode prog_28_method_25_code 12 = .ok (.getfield 22, 3) := by decide +kernel
theorem d7_15 : decode prog_28_method_25_code 15 = .ok (.iload_n 1, 1) := by decide +kernel
theorem d7_16 : decode prog_28_method_25_code 16 = .ok (.iconst 1, 1) := by decide +kernel
theorem d7_17 : decode prog_28_method_25_code 17 = .ok (.iadd, 1) := by decide +kernel
theorem d7_18 : decode prog_28_method_25_code 18 = .ok (.lload_n 2, 1) := by decide +kernel
theorem d7_19 : decode prog_28_method_25_code 19 = .ok (.l2i, 1) := by decide +kernel
theorem d7_20 : decode prog_28_method_25_code 20 = .ok (.iastore, 1) := by decide +kernel
theorem d7_21 : decode prog_28_method_25_code 21 = .ok (.return_, 1) := by decide +kernel
theorem ef_rm7 (m : MethodId) (x0 : Addr) (x1 : Int32) (x2 : Int64) : entryFrame m #[(.ref x0), (.int x1), (.long x2)] 4 = mkF m 0 #[.val (.ref x0), .val (.int x1), .val (.long x2), .second] [] := by first | (simp [entryFrame, mkF, argsToLocals, Value.category]; done) | rfl
def Q7 (Z : State) (a : Addr) (p1 : Int32) (q1 : Int64) (ia : Addr) (ma : Addr) (st : Int32) (bs : Int64) (mk : Int32) (cn : Int32) (xs : List Int32) (i : Nat) (h0 : Heap) (n0 : Nat) (v : Option Value) (h : Heap) (L : List Loc) : Prop := v = none ∧ Fr n0 L ∧ Keep h0 h [ia] ∧ KT Z h a ia ma st bs mk cn ((xs.set i (own_hi q1)).set (i + 1) q1.toInt32)
set_option maxRecDepth 65536 in
set_option maxHeartbeats 40000000 in
theorem rm7 (l : Launch) (Z : State) (a0 : Array Value) (hw : ∀ d ∈ tables_1, d.before a0 Z = true) (ws : List Jvm.Cond) (a : Addr) (p1 : Int32) (q1 : Int64) (ia : Addr) (ma : Addr) (st : Int32) (bs : Int64) (mk : Int32) (cn : Int32) (xs : List Int32) (i : Nat) (h0 : Heap) (n0 : Nat) (Z0 : n0 ≤ h0.size) (KT0 : KT Z h0 a ia ma st bs mk cn xs) (g : n0 ≤ ia) (b1 : ¬ p1 < 0) (b2 : p1.toNatClampNeg = i) (b3 : ¬ (p1 + (1 : Int32)) < 0) (b4 : (p1 + (1 : Int32)).toNatClampNeg = i + 1) (b5 : i + 1 < xs.length) :
    MetFree l (⟨"com/example/admission_by_rate/admissionbyrate/KeyTable", "putLongAt", "(IJ)V"⟩ : MethodName) (head1 (Jvm.Cond.code (⟨"com/example/admission_by_rate/admissionbyrate/KeyTable", "putLongAt", "(IJ)V"⟩ : MethodName) prog_28_method_25_code 4 none :: ws) ({ frames := 0, cells := 0, slots := 0, locals := 0 } : Room)) (fun aa U => aa = #[(.ref a), (.int p1), (.long q1)] ∧ Z.Warmed39 U.vm ∧ U.heap = h0) (fun _ _ _ _ _ => True) (fun _ U o U' => ∃ v L, o = .returned v ∧ Q7 Z a p1 q1 ia ma st bs mk cn xs i h0 n0 v U'.heap L ∧ FrameEnd U o U' L ({ frames := 0, cells := 0, slots := 0, locals := 0 } : Room).cells ({ frames := 0, cells := 0, slots := 0, locals := 0 } : Room).slots) := by
  refine MetFree.of_bodySF (plainFor_of_name pn_0) hisR ?_
  intro p e s m args below meth c s₁ Bd hml0 hP hK
  obtain ⟨rfl, hZ, hh⟩ := hP
  have hx := Bd.exec
  have hby := Bd.bytes
  have hml : c.maxLocals = 4 := hml0
  have hown : s.vm.findClass "com/example/admission_by_rate/admissionbyrate/KeyTable" = some m.cls := findClass_of_methodNamed Bd.named
  have hnm := (name_of_methodNamed Bd.named Bd.method).1
  have X0 : Stand p l e ({ frames := 0, cells := 0, slots := 0, locals := 0 } : Room) s m #[(.ref a), (.int p1), (.long q1)] below meth c s₁ [] 0 0 := Stand.of_body Bd
  have e0 : s₁.heap = h0 := by rw [← hh, Bd.state]; rfl
  have N0 := Fr.nil n0
  obtain ⟨Ω, hΩ⟩ : ∃ z, z = s₁.setTop (entryFrame m #[(.ref a), (.int p1), (.long q1)] 4) := ⟨_, rfl⟩
  have S0 : Steps p.tables e below Ω (s₁.setTop (mkF m 0 #[.val (.ref a), .val (.int p1), .val (.long q1), .second] [])) := by rw [hΩ]; exact castTop (ef_rm7 m a p1 q1) (Steps.refl _)
  have KT1 := KT0
  obtain ⟨E0, Pst, Pin, Pbs, Pma, Pmk, Pcn, A0, Em, Pw, ne1, ne2, ne3⟩ := KT0
  have S1 : Steps p.tables e below Ω (s₁.setTop (mkF m 1 #[.val (.ref a), .val (.int p1), .val (.long q1), .second] [(.ref a)])) := by
    refine S0.trans ?_
    refine XS.aloadN X0.here hx rfl (hb hby d7_0) rfl rfl ?_
    exact Steps.refl _
  obtain ⟨T2, X2, e2, st2⟩ := getF X0 hx hZ hown (host := "") (Or.inl (hw _ (List.mem_of_getElem? (i := 17) rfl))) Via.refl e0 Pin (g := (mkF m 1 #[.val (.ref a), .val (.int p1), .val (.long q1), .second] [(.ref a)])) rfl rfl (hb hby d7_1)
  have S3 : Steps p.tables e below Ω (T2.setTop (mkF m 4 #[.val (.ref a), .val (.int p1), .val (.long q1), .second] [(.ref ia)])) := S1.trans (st2 _ (Steps.refl _))
  have S4 : Steps p.tables e below Ω (T2.setTop (mkF m 10 #[.val (.ref a), .val (.int p1), .val (.long q1), .second] [(.int (((q1.toUInt64 >>> ((32 : Int32) &&& 0x3f).toInt64.toUInt64).toInt64).toInt32)), (.int p1), (.ref ia)])) := by
    refine S3.trans ?_
    refine XS.iloadN X2.here hx rfl (hb hby d7_4) rfl ?_
    show Steps p.tables e below (T2.setTop (mkF m 5 #[.val (.ref a), .val (.int p1), .val (.long q1), .second] [(.int p1), (.ref ia)])) _
    refine XS.lloadN X2.here hx rfl (hb hby d7_5) rfl ?_
    show Steps p.tables e below (T2.setTop (mkF m 6 #[.val (.ref a), .val (.int p1), .val (.long q1), .second] [(.long q1), (.int p1), (.ref ia)])) _
    refine XS.bipush X2.here hx rfl (hb hby d7_6) ?_
    show Steps p.tables e below (T2.setTop (mkF m 8 #[.val (.ref a), .val (.int p1), .val (.long q1), .second] [(.int (32 : Int32)), (.long q1), (.int p1), (.ref ia)])) _
    refine XS.lushr X2.here hx rfl (hb hby d7_8) rfl ?_
    show Steps p.tables e below (T2.setTop (mkF m 9 #[.val (.ref a), .val (.int p1), .val (.long q1), .second] [(.long ((q1.toUInt64 >>> ((32 : Int32) &&& 0x3f).toInt64.toUInt64).toInt64)), (.int p1), (.ref ia)])) _
    refine XS.l2i X2.here hx rfl (hb hby d7_9) rfl ?_
    exact Steps.refl _
  obtain ⟨T5, h5, X5, e5, W5, V5', st5⟩ := own_stI X2 hx hZ e2 A0 (j := p1) (i := i) b2 ⟨b1, by rw [List.length_map]; omega⟩ (g := (mkF m 10 #[.val (.ref a), .val (.int p1), .val (.long q1), .second] [(.int (((q1.toUInt64 >>> ((32 : Int32) &&& 0x3f).toInt64.toUInt64).toInt64).toInt32)), (.int p1), (.ref ia)])) rfl rfl (hb hby d7_10)
  have V5 : LA Z h5 ia .int (List.map Value.int (xs.set i (own_hi q1))) := by rw [own_ms] at V5'; exact V5'
  have S6 : Steps p.tables e below Ω (T5.setTop (mkF m 11 #[.val (.ref a), .val (.int p1), .val (.long q1), .second] [])) := S4.trans (st5 _ (Steps.refl _))
  have N5 := Fr.snoc X5 N0 g
  have E_a_5 := (E0).wr W5
  have F_stride_a_5 : Fld Z h5 a "com/example/admission_by_rate/admissionbyrate/KeyTable" "stride" "I" (.int st) := (Pst).other W5 (Or.inl ne1)
  have F_ints_a_5 : Fld Z h5 a "com/example/admission_by_rate/admissionbyrate/KeyTable" "ints" "[I" (.ref ia) := (Pin).other W5 (Or.inl ne1)
  have F_base_a_5 : Fld Z h5 a "com/example/admission_by_rate/admissionbyrate/KeyTable" "base" "J" (.long bs) := (Pbs).other W5 (Or.inl ne1)
  have F_marks_a_5 : Fld Z h5 a "com/example/admission_by_rate/admissionbyrate/KeyTable" "marks" "Lcom/example/admission_by_rate/admissionbyrate/PlaceMarks;" (.ref ma) := (Pma).other W5 (Or.inl ne1)
  have F_mask_a_5 : Fld Z h5 a "com/example/admission_by_rate/admissionbyrate/KeyTable" "mask" "I" (.int mk) := (Pmk).other W5 (Or.inl ne1)
  have F_count_a_5 : Fld Z h5 a "com/example/admission_by_rate/admissionbyrate/KeyTable" "count" "I" (.int cn) := (Pcn).other W5 (Or.inl ne1)
  have S7 : Steps p.tables e below Ω (T5.setTop (mkF m 12 #[.val (.ref a), .val (.int p1), .val (.long q1), .second] [(.ref a)])) := by
    refine S6.trans ?_
    refine XS.aloadN X5.here hx rfl (hb hby d7_11) rfl rfl ?_
    exact Steps.refl _
  obtain ⟨T8, X8, e8, st8⟩ := getF X5 hx hZ hown (host := "") (Or.inl (hw _ (List.mem_of_getElem? (i := 17) rfl))) Via.refl e5 F_ints_a_5 (g := (mkF m 12 #[.val (.ref a), .val (.int p1), .val (.long q1), .second] [(.ref a)])) rfl rfl (hb hby d7_12)
  have S9 : Steps p.tables e below Ω (T8.setTop (mkF m 15 #[.val (.ref a), .val (.int p1), .val (.long q1), .second] [(.ref ia)])) := S7.trans (st8 _ (Steps.refl _))
  have S10 : Steps p.tables e below Ω (T8.setTop (mkF m 20 #[.val (.ref a), .val (.int p1), .val (.long q1), .second] [(.int (q1.toInt32)), (.int (p1 + (1 : Int32))), (.ref ia)])) := by
    refine S9.trans ?_
    refine XS.iloadN X8.here hx rfl (hb hby d7_15) rfl ?_
    show Steps p.tables e below (T8.setTop (mkF m 16 #[.val (.ref a), .val (.int p1), .val (.long q1), .second] [(.int p1), (.ref ia)])) _
    refine XS.iconst X8.here hx rfl (hb hby d7_16) ?_
    show Steps p.tables e below (T8.setTop (mkF m 17 #[.val (.ref a), .val (.int p1), .val (.long q1), .second] [(.int (1 : Int32)), (.int p1), (.ref ia)])) _
    refine XS.iadd X8.here hx rfl (hb hby d7_17) rfl ?_
    show Steps p.tables e below (T8.setTop (mkF m 18 #[.val (.ref a), .val (.int p1), .val (.long q1), .second] [(.int (p1 + (1 : Int32))), (.ref ia)])) _
    refine XS.lloadN X8.here hx rfl (hb hby d7_18) rfl ?_
    show Steps p.tables e below (T8.setTop (mkF m 19 #[.val (.ref a), .val (.int p1), .val (.long q1), .second] [(.long q1), (.int (p1 + (1 : Int32))), (.ref ia)])) _
    refine XS.l2i X8.here hx rfl (hb hby d7_19) rfl ?_
    exact Steps.refl _
  obtain ⟨T11, h11, X11, e11, W11, V11', st11⟩ := own_stI X8 hx hZ e8 V5 (j := (p1 + (1 : Int32))) (i := (i + 1)) b4 ⟨b3, by rw [List.length_map, List.length_set]; omega⟩ (g := (mkF m 20 #[.val (.ref a), .val (.int p1), .val (.long q1), .second] [(.int (q1.toInt32)), (.int (p1 + (1 : Int32))), (.ref ia)])) rfl rfl (hb hby d7_20)
  have V11 : LA Z h11 ia .int (List.map Value.int ((xs.set i (own_hi q1)).set (i + 1) q1.toInt32)) := by rw [own_ms] at V11'; exact V11'
  have S12 : Steps p.tables e below Ω (T11.setTop (mkF m 21 #[.val (.ref a), .val (.int p1), .val (.long q1), .second] [])) := S10.trans (st11 _ (Steps.refl _))
  have N11 := Fr.snoc X11 N5 g
  have KK : Keep h0 h11 [ia] := ((Keep.refl h0 [ia]).wr W5 (Or.inl (List.mem_of_getElem? (i := 0) rfl))).wr W11 (Or.inl (List.mem_of_getElem? (i := 0) rfl))
  obtain ⟨fs, hr, hrun, hended, hW, hsame⟩ := X11.leave (v := none) (fun _ => rfl)
  have hfin : Steps p.tables e below Ω (T11.setFrames fs) := by
    refine S12.trans ?_
    exact X11.returnOut hx Bd.returns (hb hby d7_21) hr
  rw [hΩ] at hfin
  refine ⟨_, _, hfin, hrun, hended, _, _, rfl, ?_, ⟨_, rfl⟩, hW, hsame.mono (by decide) (by decide)⟩
  show Q7 Z a p1 q1 ia ma st bs mk cn xs i h0 n0 _ T11.heap _
  rw [e11]
  exact ⟨rfl, N11, KK, KT1.put KK V11⟩
theorem d17_0 : decode prog_28_method_11_code 0 = .ok (.iload_n 1, 1) := by decide +kernel
theorem d17_1 : decode prog_28_method_11_code 1 = .ok (.aload_n 0, 1) := by decide +kernel
theorem d17_2 : decode prog_28_method_11_code 2 = .ok (.getfield 18, 3) := by decide +kernel
theorem d17_5 : decode prog_28_method_11_code 5 = .ok (.imul, 1) := by decide +kernel
theorem d17_6 : decode prog_28_method_11_code 6 = .ok (.iconst 2, 1) := by decide +kernel
theorem d17_7 : decode prog_28_method_11_code 7 = .ok (.iadd, 1) := by decide +kernel
theorem d17_8 : decode prog_28_method_11_code 8 = .ok (.istore 4, 2) := by decide +kernel
theorem d17_10 : decode prog_28_method_11_code 10 = .ok (.aload_n 0, 1) := by decide +kernel
theorem d17_11 : decode prog_28_method_11_code 11 = .ok (.getfield 18, 3) := by decide +kernel
theorem d17_14 : decode prog_28_method_11_code 14 = .ok (.iconst 4, 1) := by decide +kernel
theorem d17_15 : decode prog_28_method_11_code 15 = .ok (.if_icmp .ne 13, 3) := by decide +kernel
theorem d17_28 : decode prog_28_method_11_code 28 = .ok (.aload_n 0, 1) := by decide +kernel
theorem d17_29 : decode prog_28_method_11_code 29 = .ok (.lload_n 2, 1) := by decide +kernel
theorem pd_1 : parseMethodDescriptor "(J)Z" = some ⟨[.long], some .boolean⟩ := by decide +kernel
theorem d17_30 : decode prog_28_method_11_code 30 = .ok (.invokevirtual 66, 3) := by decide +kernel
theorem d17_33 : decode prog_28_method_11_code 33 = .ok (.ifCond .eq 20, 3) := by decide +kernel
theorem d17_36 : decode prog_28_method_11_code 36 = .ok (.aload_n 0, 1) := by decide +kernel
theorem d17_37 : decode prog_28_method_11_code 37 = .ok (.getfield 22, 3) := by decide +kernel
theorem d17_40 : decode prog_28_method_11_code 40 = .ok (.iload 4, 2) := by decide +kernel
theorem d17_42 : decode prog_28_method_11_code 42 = .ok (.lload_n 2, 1) := by decide +kernel
theorem d17_43 : decode prog_28_method_11_code 43 = .ok (.aload_n 0, 1) := by decide +kernel
theorem d17_44 : decode prog_28_method_11_code 44 = .ok (.getfield 26, 3) := by decide +kernel
theorem d17_47 : decode prog_28_method_11_code 47 = .ok (.lsub, 1) := by decide +kernel
theorem d17_48 : decode prog_28_method_11_code 48 = .ok (.l2i, 1) := by decide +kernel
theorem d17_49 : decode prog_28_method_11_code 49 = .ok (.iastore, 1) := by decide +kernel
theorem d17_50 : decode prog_28_method_11_code 50 = .ok (.goto 21, 3) := by decide +kernel
theorem d17_71 : decode prog_28_method_11_code 71 = .ok (.return_, 1) := by decide +kernel
theorem ef_rm17n (m : MethodId) (x0 : Addr) (x1 : Int32) (x2 : Int64) : entryFrame m #[(.ref x0), (.int x1), (.long x2)] 5 = mkF m 0 #[.val (.ref x0), .val (.int x1), .val (.long x2), .second, .unset] [] := by first | (simp [entryFrame, mkF, argsToLocals, Value.category]; done) | rfl
def Q17n (Z : State) (a : Addr) (p1 : Int32) (q1 : Int64) (ia : Addr) (ma : Addr) (st : Int32) (bs : Int64) (mk : Int32) (cn : Int32) (xs : List Int32) (i : Nat) (h0 : Heap) (n0 : Nat) (v : Option Value) (h : Heap) (L : List Loc) : Prop := v = none ∧ Fr n0 L ∧ Keep h0 h [ia] ∧ KT Z h a ia ma st bs mk cn (xs.set i ((q1 - bs).toInt32))
set_option maxRecDepth 65536 in
set_option maxHeartbeats 40000000 in
theorem rm17n (l : Launch) (Z : State) (a0 : Array Value) (hw : ∀ d ∈ tables_1, d.before a0 Z = true) (ws : List Jvm.Cond) (a : Addr) (p1 : Int32) (q1 : Int64) (ia : Addr) (ma : Addr) (st : Int32) (bs : Int64) (mk : Int32) (cn : Int32) (xs : List Int32) (i : Nat) (h0 : Heap) (n0 : Nat) (Z0 : n0 ≤ h0.size) (KT0 : KT Z h0 a ia ma st bs mk cn xs) (g : n0 ≤ ia) (pe4 : ¬ st = (4 : Int32)) (eh : ¬ own_holds st bs q1 = (0 : Int32)) (b1 : ¬ ((p1 * st) + (2 : Int32)) < 0) (b2 : ((p1 * st) + (2 : Int32)).toNatClampNeg = i) (b5 : i < xs.length) :
    MetFree l (⟨"com/example/admission_by_rate/admissionbyrate/KeyTable", "putLong", "(IJ)V"⟩ : MethodName) (head1 (Jvm.Cond.code (⟨"com/example/admission_by_rate/admissionbyrate/KeyTable", "putLong", "(IJ)V"⟩ : MethodName) prog_28_method_11_code 5 none :: ws) ({ frames := 1, cells := 0, slots := 0, locals := 16 } : Room)) (fun aa U => aa = #[(.ref a), (.int p1), (.long q1)] ∧ Z.Warmed39 U.vm ∧ U.heap = h0) (fun _ _ _ _ _ => True) (fun _ U o U' => ∃ v L, o = .returned v ∧ Q17n Z a p1 q1 ia ma st bs mk cn xs i h0 n0 v U'.heap L ∧ FrameEnd U o U' L ({ frames := 1, cells := 0, slots := 0, locals := 16 } : Room).cells ({ frames := 1, cells := 0, slots := 0, locals := 16 } : Room).slots) := by
  refine MetFree.of_bodySF (plainFor_of_name pn_0) hisR ?_
  intro p e s m args below meth c s₁ Bd hml0 hP hK
  obtain ⟨rfl, hZ, hh⟩ := hP
  have hx := Bd.exec
  have hby := Bd.bytes
  have hml : c.maxLocals = 5 := hml0
  have hown : s.vm.findClass "com/example/admission_by_rate/admissionbyrate/KeyTable" = some m.cls := findClass_of_methodNamed Bd.named
  have hnm := (name_of_methodNamed Bd.named Bd.method).1
  have X0 : Stand p l e ({ frames := 1, cells := 0, slots := 0, locals := 16 } : Room) s m #[(.ref a), (.int p1), (.long q1)] below meth c s₁ [] 0 0 := Stand.of_body Bd
  have e0 : s₁.heap = h0 := by rw [← hh, Bd.state]; rfl
  have N0 := Fr.nil n0
  obtain ⟨Ω, hΩ⟩ : ∃ z, z = s₁.setTop (entryFrame m #[(.ref a), (.int p1), (.long q1)] 5) := ⟨_, rfl⟩
  have S0 : Steps p.tables e below Ω (s₁.setTop (mkF m 0 #[.val (.ref a), .val (.int p1), .val (.long q1), .second, .unset] [])) := by rw [hΩ]; exact castTop (ef_rm17n m a p1 q1) (Steps.refl _)
  have KT1 := KT0
  obtain ⟨E0, Pst, Pin, Pbs, Pma, Pmk, Pcn, A0, Em, Pw, ne1, ne2, ne3⟩ := KT0
  have S1 : Steps p.tables e below Ω (s₁.setTop (mkF m 2 #[.val (.ref a), .val (.int p1), .val (.long q1), .second, .unset] [(.ref a), (.int p1)])) := by
    refine S0.trans ?_
    refine XS.iloadN X0.here hx rfl (hb hby d17_0) rfl ?_
    show Steps p.tables e below (s₁.setTop (mkF m 1 #[.val (.ref a), .val (.int p1), .val (.long q1), .second, .unset] [(.int p1)])) _
    refine XS.aloadN X0.here hx rfl (hb hby d17_1) rfl rfl ?_
    exact Steps.refl _
  obtain ⟨T2, X2, e2, st2⟩ := getF X0 hx hZ hown (host := "") (Or.inl (hw _ (List.mem_of_getElem? (i := 14) rfl))) Via.refl e0 Pst (g := (mkF m 2 #[.val (.ref a), .val (.int p1), .val (.long q1), .second, .unset] [(.ref a), (.int p1)])) rfl rfl (hb hby d17_2)
  have S3 : Steps p.tables e below Ω (T2.setTop (mkF m 5 #[.val (.ref a), .val (.int p1), .val (.long q1), .second, .unset] [(.int st), (.int p1)])) := S1.trans (st2 _ (Steps.refl _))
  have S4 : Steps p.tables e below Ω (T2.setTop (mkF m 11 #[.val (.ref a), .val (.int p1), .val (.long q1), .second, .val (.int ((p1 * st) + (2 : Int32)))] [(.ref a)])) := by
    refine S3.trans ?_
    refine XS.imul X2.here hx rfl (hb hby d17_5) rfl ?_
    show Steps p.tables e below (T2.setTop (mkF m 6 #[.val (.ref a), .val (.int p1), .val (.long q1), .second, .unset] [(.int (p1 * st))])) _
    refine XS.iconst X2.here hx rfl (hb hby d17_6) ?_
    show Steps p.tables e below (T2.setTop (mkF m 7 #[.val (.ref a), .val (.int p1), .val (.long q1), .second, .unset] [(.int (2 : Int32)), (.int (p1 * st))])) _
    refine XS.iadd X2.here hx rfl (hb hby d17_7) rfl ?_
    show Steps p.tables e below (T2.setTop (mkF m 8 #[.val (.ref a), .val (.int p1), .val (.long q1), .second, .unset] [(.int ((p1 * st) + (2 : Int32)))])) _
    refine XS.istore X2.here hx rfl (hb hby d17_8) rfl (l' := #[.val (.ref a), .val (.int p1), .val (.long q1), .second, .val (.int ((p1 * st) + (2 : Int32)))]) rfl ?_
    show Steps p.tables e below (T2.setTop (mkF m 10 #[.val (.ref a), .val (.int p1), .val (.long q1), .second, .val (.int ((p1 * st) + (2 : Int32)))] [])) _
    refine XS.aloadN X2.here hx rfl (hb hby d17_10) rfl rfl ?_
    exact Steps.refl _
  obtain ⟨T5, X5, e5, st5⟩ := getF X2 hx hZ hown (host := "") (Or.inl (hw _ (List.mem_of_getElem? (i := 14) rfl))) Via.refl e2 Pst (g := (mkF m 11 #[.val (.ref a), .val (.int p1), .val (.long q1), .second, .val (.int ((p1 * st) + (2 : Int32)))] [(.ref a)])) rfl rfl (hb hby d17_11)
  have S6 : Steps p.tables e below Ω (T5.setTop (mkF m 14 #[.val (.ref a), .val (.int p1), .val (.long q1), .second, .val (.int ((p1 * st) + (2 : Int32)))] [(.int st)])) := S4.trans (st5 _ (Steps.refl _))
  have S7 : Steps p.tables e below Ω (T5.setTop (mkF m 30 #[.val (.ref a), .val (.int p1), .val (.long q1), .second, .val (.int ((p1 * st) + (2 : Int32)))] [(.long q1), (.ref a)])) := by
    refine S6.trans ?_
    refine XS.iconst X5.here hx rfl (hb hby d17_14) ?_
    show Steps p.tables e below (T5.setTop (mkF m 15 #[.val (.ref a), .val (.int p1), .val (.long q1), .second, .val (.int ((p1 * st) + (2 : Int32)))] [(.int (4 : Int32)), (.int st)])) _
    refine XS.icmpYes X5.here hx rfl (pc0 := 15) (pc' := 28) rfl (hb hby d17_15) rfl (XT.ii_ne_t pe4) (by decide) (by decide) ?_
    show Steps p.tables e below (T5.setTop (mkF m 28 #[.val (.ref a), .val (.int p1), .val (.long q1), .second, .val (.int ((p1 * st) + (2 : Int32)))] [])) _
    refine XS.aloadN X5.here hx rfl (hb hby d17_28) rfl rfl ?_
    show Steps p.tables e below (T5.setTop (mkF m 29 #[.val (.ref a), .val (.int p1), .val (.long q1), .second, .val (.int ((p1 * st) + (2 : Int32)))] [(.ref a)])) _
    refine XS.lloadN X5.here hx rfl (hb hby d17_29) rfl ?_
    exact Steps.refl _
  obtain ⟨cq8, kq8, q8a, q8b, q8c⟩ := isOf hZ e5 E0
  obtain ⟨_, _, ⟨T8, L8, k8, n8⟩, -, X8, ⟨Lc8, hQ8, l8, y8, z8⟩, st8⟩ := X5.virtualBack hx (y := (⟨"com/example/admission_by_rate/admissionbyrate/KeyTable", "holds", "(J)Z"⟩ : MethodName)) (z := (⟨"com/example/admission_by_rate/admissionbyrate/KeyTable", "holds", "(J)Z"⟩ : MethodName)) hown (mvT hZ (hw _ (List.mem_of_getElem? (i := 105) rfl))) (mvT hZ (hw _ (List.mem_of_getElem? (i := 39) rfl))) (notFace_of_selects (args := #[]) (mvT hZ (hw _ (List.mem_of_getElem? (i := 41) rfl)))) (mvT hZ (hw _ (List.mem_of_getElem? (i := 41) rfl))) (mvT hZ (hw _ (List.mem_of_getElem? (i := 40) rfl))) (by decide) (backOf (W := 0) (rm5 l Z a0 hw [] a q1 ia ma st bs mk cn xs h0 n0 Z0 KT1) hZ (hw _ (List.mem_of_getElem? (i := 42) rfl)) (hw _ (List.mem_of_getElem? (i := 2) rfl)) (by decide) (by decide)) q8a q8c (g := (mkF m 30 #[.val (.ref a), .val (.int p1), .val (.long q1), .second, .val (.int ((p1 * st) + (2 : Int32)))] [(.long q1), (.ref a)])) rfl (by rw [hml]; rfl) (Steps.refl _) (argsL := [(.long q1)]) (rest := []) (lenOf pd_1 rfl) rfl (by show 2 * 0 + _ ≤ _; exact Nat.le_of_eq rfl) (hb hby d17_30) (fun _ _ => ⟨rfl, e5, (by decide : 0 + 0 ≤ _), (by decide : 0 + 0 ≤ _)⟩)
  dsimp only [Pt.U, Pt.locs, Pt.cells, Pt.slots] at X8 l8 y8 z8 st8 hQ8
  subst l8 y8 z8
  obtain ⟨rfl, N8q, e8⟩ := hQ8
  have N8 := Fr.app N0 N8q
  have S9 : Steps p.tables e below Ω (T8.setTop (mkF m 33 #[.val (.ref a), .val (.int p1), .val (.long q1), .second, .val (.int ((p1 * st) + (2 : Int32)))] [(.int (own_holds st bs q1))])) := S7.trans st8
  have S10 : Steps p.tables e below Ω (T8.setTop (mkF m 37 #[.val (.ref a), .val (.int p1), .val (.long q1), .second, .val (.int ((p1 * st) + (2 : Int32)))] [(.ref a)])) := by
    refine S9.trans ?_
    refine XS.ifNo X8.here hx rfl (hb hby d17_33) rfl (XT.i0_eq_f eh) ?_
    show Steps p.tables e below (T8.setTop (mkF m 36 #[.val (.ref a), .val (.int p1), .val (.long q1), .second, .val (.int ((p1 * st) + (2 : Int32)))] [])) _
    refine XS.aloadN X8.here hx rfl (hb hby d17_36) rfl rfl ?_
    exact Steps.refl _
  obtain ⟨T11, X11, e11, st11⟩ := getF X8 hx hZ hown (host := "") (Or.inl (hw _ (List.mem_of_getElem? (i := 17) rfl))) Via.refl e8 Pin (g := (mkF m 37 #[.val (.ref a), .val (.int p1), .val (.long q1), .second, .val (.int ((p1 * st) + (2 : Int32)))] [(.ref a)])) rfl rfl (hb hby d17_37)
  have S12 : Steps p.tables e below Ω (T11.setTop (mkF m 40 #[.val (.ref a), .val (.int p1), .val (.long q1), .second, .val (.int ((p1 * st) + (2 : Int32)))] [(.ref ia)])) := S10.trans (st11 _ (Steps.refl _))
  have S13 : Steps p.tables e below Ω (T11.setTop (mkF m 44 #[.val (.ref a), .val (.int p1), .val (.long q1), .second, .val (.int ((p1 * st) + (2 : Int32)))] [(.ref a), (.long q1), (.int ((p1 * st) + (2 : Int32))), (.ref ia)])) := by
    refine S12.trans ?_
    refine XS.iload X11.here hx rfl (hb hby d17_40) rfl ?_
    show Steps p.tables e below (T11.setTop (mkF m 42 #[.val (.ref a), .val (.int p1), .val (.long q1), .second, .val (.int ((p1 * st) + (2 : Int32)))] [(.int ((p1 * st) + (2 : Int32))), (.ref ia)])) _
    refine XS.lloadN X11.here hx rfl (hb hby d17_42) rfl ?_
    show Steps p.tables e below (T11.setTop (mkF m 43 #[.val (.ref a), .val (.int p1), .val (.long q1), .second, .val (.int ((p1 * st) + (2 : Int32)))] [(.long q1), (.int ((p1 * st) + (2 : Int32))), (.ref ia)])) _
    refine XS.aloadN X11.here hx rfl (hb hby d17_43) rfl rfl ?_
    exact Steps.refl _
  obtain ⟨T14, X14, e14, st14⟩ := getF X11 hx hZ hown (host := "") (Or.inl (hw _ (List.mem_of_getElem? (i := 19) rfl))) Via.refl e11 Pbs (g := (mkF m 44 #[.val (.ref a), .val (.int p1), .val (.long q1), .second, .val (.int ((p1 * st) + (2 : Int32)))] [(.ref a), (.long q1), (.int ((p1 * st) + (2 : Int32))), (.ref ia)])) rfl rfl (hb hby d17_44)
  have S15 : Steps p.tables e below Ω (T14.setTop (mkF m 47 #[.val (.ref a), .val (.int p1), .val (.long q1), .second, .val (.int ((p1 * st) + (2 : Int32)))] [(.long bs), (.long q1), (.int ((p1 * st) + (2 : Int32))), (.ref ia)])) := S13.trans (st14 _ (Steps.refl _))
  have S16 : Steps p.tables e below Ω (T14.setTop (mkF m 49 #[.val (.ref a), .val (.int p1), .val (.long q1), .second, .val (.int ((p1 * st) + (2 : Int32)))] [(.int ((q1 - bs).toInt32)), (.int ((p1 * st) + (2 : Int32))), (.ref ia)])) := by
    refine S15.trans ?_
    refine XS.lsub X14.here hx rfl (hb hby d17_47) rfl ?_
    show Steps p.tables e below (T14.setTop (mkF m 48 #[.val (.ref a), .val (.int p1), .val (.long q1), .second, .val (.int ((p1 * st) + (2 : Int32)))] [(.long (q1 - bs)), (.int ((p1 * st) + (2 : Int32))), (.ref ia)])) _
    refine XS.l2i X14.here hx rfl (hb hby d17_48) rfl ?_
    exact Steps.refl _
  obtain ⟨T17, h17, X17, e17, W17, V17', st17⟩ := own_stI X14 hx hZ e14 A0 (j := ((p1 * st) + (2 : Int32))) (i := i) b2 ⟨b1, by rw [List.length_map]; exact b5⟩ (g := (mkF m 49 #[.val (.ref a), .val (.int p1), .val (.long q1), .second, .val (.int ((p1 * st) + (2 : Int32)))] [(.int ((q1 - bs).toInt32)), (.int ((p1 * st) + (2 : Int32))), (.ref ia)])) rfl rfl (hb hby d17_49)
  have V17 : LA Z h17 ia .int (List.map Value.int (xs.set i ((q1 - bs).toInt32))) := by rw [own_ms] at V17'; exact V17'
  have S18 : Steps p.tables e below Ω (T17.setTop (mkF m 50 #[.val (.ref a), .val (.int p1), .val (.long q1), .second, .val (.int ((p1 * st) + (2 : Int32)))] [])) := S16.trans (st17 _ (Steps.refl _))
  have N17 := Fr.snoc X17 N8 g
  have KK : Keep h0 h17 [ia] := (Keep.refl h0 [ia]).wr W17 (Or.inl (List.mem_of_getElem? (i := 0) rfl))
  have S19 : Steps p.tables e below Ω (T17.setTop (mkF m 71 #[.val (.ref a), .val (.int p1), .val (.long q1), .second, .val (.int ((p1 * st) + (2 : Int32)))] [])) := by
    refine S18.trans ?_
    refine XS.goto X17.here hx rfl (pc0 := 50) (pc' := 71) rfl (hb hby d17_50) (by decide) (by decide) ?_
    exact Steps.refl _
  obtain ⟨fs, hr, hrun, hended, hW, hsame⟩ := X17.leave (v := none) (fun _ => rfl)
  have hfin : Steps p.tables e below Ω (T17.setFrames fs) := by
    refine S19.trans ?_
    exact X17.returnOut hx Bd.returns (hb hby d17_71) hr
  rw [hΩ] at hfin
  refine ⟨_, _, hfin, hrun, hended, _, _, rfl, ?_, ⟨_, rfl⟩, hW, hsame.mono (by decide) (by decide)⟩
  show Q17n Z a p1 q1 ia ma st bs mk cn xs i h0 n0 _ T17.heap _
  rw [e17]
  exact ⟨rfl, N17, KK, KT1.put KK V17⟩
theorem d17_18 : decode prog_28_method_11_code 18 = .ok (.aload_n 0, 1) := by decide +kernel
theorem d17_19 : decode prog_28_method_11_code 19 = .ok (.iload 4, 2) := by decide +kernel
theorem d17_21 : decode prog_28_method_11_code 21 = .ok (.lload_n 2, 1) := by decide +kernel
theorem pd_2 : parseMethodDescriptor "(IJ)V" = some ⟨[.int, .long], none⟩ := by decide +kernel
theorem d17_22 : decode prog_28_method_11_code 22 = .ok (.invokevirtual 62, 3) := by decide +kernel
theorem d17_25 : decode prog_28_method_11_code 25 = .ok (.goto 46, 3) := by decide +kernel
theorem ef_rm17w (m : MethodId) (x0 : Addr) (x1 : Int32) (x2 : Int64) : entryFrame m #[(.ref x0), (.int x1), (.long x2)] 5 = mkF m 0 #[.val (.ref x0), .val (.int x1), .val (.long x2), .second, .unset] [] := by first | (simp [entryFrame, mkF, argsToLocals, Value.category]; done) | rfl
def Q17w (Z : State) (a : Addr) (p1 : Int32) (q1 : Int64) (ia : Addr) (ma : Addr) (st : Int32) (bs : Int64) (mk : Int32) (cn : Int32) (xs : List Int32) (i : Nat) (h0 : Heap) (n0 : Nat) (v : Option Value) (h : Heap) (L : List Loc) : Prop := v = none ∧ Fr n0 L ∧ Keep h0 h [ia] ∧ KT Z h a ia ma st bs mk cn ((xs.set i (own_hi q1)).set (i + 1) q1.toInt32)
set_option maxRecDepth 65536 in
set_option maxHeartbeats 40000000 in
theorem rm17w (l : Launch) (Z : State) (a0 : Array Value) (hw : ∀ d ∈ tables_1, d.before a0 Z = true) (ws : List Jvm.Cond) (a : Addr) (p1 : Int32) (q1 : Int64) (ia : Addr) (ma : Addr) (st : Int32) (bs : Int64) (mk : Int32) (cn : Int32) (xs : List Int32) (i : Nat) (h0 : Heap) (n0 : Nat) (Z0 : n0 ≤ h0.size) (KT0 : KT Z h0 a ia ma st bs mk cn xs) (g : n0 ≤ ia) (pe4 : st = (4 : Int32)) (b1 : ¬ ((p1 * st) + (2 : Int32)) < 0) (b2 : ((p1 * st) + (2 : Int32)).toNatClampNeg = i) (b3 : ¬ (((p1 * st) + (2 : Int32)) + (1 : Int32)) < 0) (b4 : (((p1 * st) + (2 : Int32)) + (1 : Int32)).toNatClampNeg = i + 1) (b5 : i + 1 < xs.length) :
    MetFree l (⟨"com/example/admission_by_rate/admissionbyrate/KeyTable", "putLong", "(IJ)V"⟩ : MethodName) (head1 (Jvm.Cond.code (⟨"com/example/admission_by_rate/admissionbyrate/KeyTable", "putLong", "(IJ)V"⟩ : MethodName) prog_28_method_11_code 5 none :: ws) ({ frames := 1, cells := 0, slots := 0, locals := 15 } : Room)) (fun aa U => aa = #[(.ref a), (.int p1), (.long q1)] ∧ Z.Warmed39 U.vm ∧ U.heap = h0) (fun _ _ _ _ _ => True) (fun _ U o U' => ∃ v L, o = .returned v ∧ Q17w Z a p1 q1 ia ma st bs mk cn xs i h0 n0 v U'.heap L ∧ FrameEnd U o U' L ({ frames := 1, cells := 0, slots := 0, locals := 15 } : Room).cells ({ frames := 1, cells := 0, slots := 0, locals := 15 } : Room).slots) := by
  refine MetFree.of_bodySF (plainFor_of_name pn_0) hisR ?_
  intro p e s m args below meth c s₁ Bd hml0 hP hK
  obtain ⟨rfl, hZ, hh⟩ := hP
  have hx := Bd.exec
  have hby := Bd.bytes
  have hml : c.maxLocals = 5 := hml0
  have hown : s.vm.findClass "com/example/admission_by_rate/admissionbyrate/KeyTable" = some m.cls := findClass_of_methodNamed Bd.named
  have hnm := (name_of_methodNamed Bd.named Bd.method).1
  have X0 : Stand p l e ({ frames := 1, cells := 0, slots := 0, locals := 15 } : Room) s m #[(.ref a), (.int p1), (.long q1)] below meth c s₁ [] 0 0 := Stand.of_body Bd
  have e0 : s₁.heap = h0 := by rw [← hh, Bd.state]; rfl
  have N0 := Fr.nil n0
  obtain ⟨Ω, hΩ⟩ : ∃ z, z = s₁.setTop (entryFrame m #[(.ref a), (.int p1), (.long q1)] 5) := ⟨_, rfl⟩
  have S0 : Steps p.tables e below Ω (s₁.setTop (mkF m 0 #[.val (.ref a), .val (.int p1), .val (.long q1), .second, .unset] [])) := by rw [hΩ]; exact castTop (ef_rm17w m a p1 q1) (Steps.refl _)
  have KT1 := KT0
  obtain ⟨E0, Pst, Pin, Pbs, Pma, Pmk, Pcn, A0, Em, Pw, ne1, ne2, ne3⟩ := KT0
  have S1 : Steps p.tables e below Ω (s₁.setTop (mkF m 2 #[.val (.ref a), .val (.int p1), .val (.long q1), .second, .unset] [(.ref a), (.int p1)])) := by
    refine S0.trans ?_
    refine XS.iloadN X0.here hx rfl (hb hby d17_0) rfl ?_
    show Steps p.tables e below (s₁.setTop (mkF m 1 #[.val (.ref a), .val (.int p1), .val (.long q1), .second, .unset] [(.int p1)])) _
    refine XS.aloadN X0.here hx rfl (hb hby d17_1) rfl rfl ?_
    exact Steps.refl _
  obtain ⟨T2, X2, e2, st2⟩ := getF X0 hx hZ hown (host := "") (Or.inl (hw _ (List.mem_of_getElem? (i := 14) rfl))) Via.refl e0 Pst (g := (mkF m 2 #[.val (.ref a), .val (.int p1), .val (.long q1), .second, .unset] [(.ref a), (.int p1)])) rfl rfl (hb hby d17_2)
  have S3 : Steps p.tables e below Ω (T2.setTop (mkF m 5 #[.val (.ref a), .val (.int p1), .val (.long q1), .second, .unset] [(.int st), (.int p1)])) := S1.trans (st2 _ (Steps.refl _))
  have S4 : Steps p.tables e below Ω (T2.setTop (mkF m 11 #[.val (.ref a), .val (.int p1), .val (.long q1), .second, .val (.int ((p1 * st) + (2 : Int32)))] [(.ref a)])) := by
    refine S3.trans ?_
    refine XS.imul X2.here hx rfl (hb hby d17_5) rfl ?_
    show Steps p.tables e below (T2.setTop (mkF m 6 #[.val (.ref a), .val (.int p1), .val (.long q1), .second, .unset] [(.int (p1 * st))])) _
    refine XS.iconst X2.here hx rfl (hb hby d17_6) ?_
    show Steps p.tables e below (T2.setTop (mkF m 7 #[.val (.ref a), .val (.int p1), .val (.long q1), .second, .unset] [(.int (2 : Int32)), (.int (p1 * st))])) _
    refine XS.iadd X2.here hx rfl (hb hby d17_7) rfl ?_
    show Steps p.tables e below (T2.setTop (mkF m 8 #[.val (.ref a), .val (.int p1), .val (.long q1), .second, .unset] [(.int ((p1 * st) + (2 : Int32)))])) _
    refine XS.istore X2.here hx rfl (hb hby d17_8) rfl (l' := #[.val (.ref a), .val (.int p1), .val (.long q1), .second, .val (.int ((p1 * st) + (2 : Int32)))]) rfl ?_
    show Steps p.tables e below (T2.setTop (mkF m 10 #[.val (.ref a), .val (.int p1), .val (.long q1), .second, .val (.int ((p1 * st) + (2 : Int32)))] [])) _
    refine XS.aloadN X2.here hx rfl (hb hby d17_10) rfl rfl ?_
    exact Steps.refl _
  obtain ⟨T5, X5, e5, st5⟩ := getF X2 hx hZ hown (host := "") (Or.inl (hw _ (List.mem_of_getElem? (i := 14) rfl))) Via.refl e2 Pst (g := (mkF m 11 #[.val (.ref a), .val (.int p1), .val (.long q1), .second, .val (.int ((p1 * st) + (2 : Int32)))] [(.ref a)])) rfl rfl (hb hby d17_11)
  have S6 : Steps p.tables e below Ω (T5.setTop (mkF m 14 #[.val (.ref a), .val (.int p1), .val (.long q1), .second, .val (.int ((p1 * st) + (2 : Int32)))] [(.int st)])) := S4.trans (st5 _ (Steps.refl _))
  have S7 : Steps p.tables e below Ω (T5.setTop (mkF m 22 #[.val (.ref a), .val (.int p1), .val (.long q1), .second, .val (.int ((p1 * st) + (2 : Int32)))] [(.long q1), (.int ((p1 * st) + (2 : Int32))), (.ref a)])) := by
    refine S6.trans ?_
    refine XS.iconst X5.here hx rfl (hb hby d17_14) ?_
    show Steps p.tables e below (T5.setTop (mkF m 15 #[.val (.ref a), .val (.int p1), .val (.long q1), .second, .val (.int ((p1 * st) + (2 : Int32)))] [(.int (4 : Int32)), (.int st)])) _
    refine XS.icmpNo X5.here hx rfl (hb hby d17_15) rfl (XT.ii_ne_f pe4) ?_
    show Steps p.tables e below (T5.setTop (mkF m 18 #[.val (.ref a), .val (.int p1), .val (.long q1), .second, .val (.int ((p1 * st) + (2 : Int32)))] [])) _
    refine XS.aloadN X5.here hx rfl (hb hby d17_18) rfl rfl ?_
    show Steps p.tables e below (T5.setTop (mkF m 19 #[.val (.ref a), .val (.int p1), .val (.long q1), .second, .val (.int ((p1 * st) + (2 : Int32)))] [(.ref a)])) _
    refine XS.iload X5.here hx rfl (hb hby d17_19) rfl ?_
    show Steps p.tables e below (T5.setTop (mkF m 21 #[.val (.ref a), .val (.int p1), .val (.long q1), .second, .val (.int ((p1 * st) + (2 : Int32)))] [(.int ((p1 * st) + (2 : Int32))), (.ref a)])) _
    refine XS.lloadN X5.here hx rfl (hb hby d17_21) rfl ?_
    exact Steps.refl _
  obtain ⟨cq8, q8, q8'⟩ := (E0).cell
  obtain ⟨_, _, ⟨T8, L8, k8, n8⟩, -, X8, ⟨Lc8, hQ8, l8, y8, z8⟩, st8⟩ := X5.privateBack hx (y := (⟨"com/example/admission_by_rate/admissionbyrate/KeyTable", "putLongAt", "(IJ)V"⟩ : MethodName)) hown (mvT hZ (hw _ (List.mem_of_getElem? (i := 48) rfl))) (mvT hZ (hw _ (List.mem_of_getElem? (i := 49) rfl))) (own_sel (z := (⟨"com/example/admission_by_rate/admissionbyrate/KeyTable", "holds", "(J)Z"⟩ : MethodName)) (mvT hZ (hw _ (List.mem_of_getElem? (i := 41) rfl))) rfl (Cond.privateMethod_at (mvP hZ (hw _ (List.mem_of_getElem? (i := 50) rfl)) (args := #[]))) (mvT hZ (hw _ (List.mem_of_getElem? (i := 49) rfl))) (by decide)) (Cond.privateMethod_at (mvP hZ (hw _ (List.mem_of_getElem? (i := 50) rfl)) (args := #[]))) (mvT hZ (hw _ (List.mem_of_getElem? (i := 51) rfl))) (by decide) (backOf (W := 0) (rm7 l Z a0 hw [] a ((p1 * st) + (2 : Int32)) q1 ia ma st bs mk cn xs i h0 n0 Z0 KT1 g b1 b2 b3 b4 b5) hZ (hw _ (List.mem_of_getElem? (i := 51) rfl)) (hw _ (List.mem_of_getElem? (i := 2) rfl)) (by decide) (by decide)) (g := (mkF m 22 #[.val (.ref a), .val (.int p1), .val (.long q1), .second, .val (.int ((p1 * st) + (2 : Int32)))] [(.long q1), (.int ((p1 * st) + (2 : Int32))), (.ref a)])) rfl (by rw [hml]; rfl) (Steps.refl _) (a := a) (by rw [e5]; exact q8) q8' (argsL := [(.int ((p1 * st) + (2 : Int32))), (.long q1)]) (rest := []) (lenOf pd_2 rfl) rfl (by show 2 * 0 + _ ≤ _; exact Nat.le_of_eq rfl) (hb hby d17_22) (fun _ _ => ⟨rfl, e5, (by decide : 0 + 0 ≤ _), (by decide : 0 + 0 ≤ _)⟩)
  dsimp only [Pt.U, Pt.locs, Pt.cells, Pt.slots] at X8 l8 y8 z8 st8 hQ8
  subst l8 y8 z8
  obtain ⟨rfl, N8q, K8, KT2⟩ := hQ8
  have N8 := Fr.app N0 N8q
  have S9 : Steps p.tables e below Ω (T8.setTop (mkF m 25 #[.val (.ref a), .val (.int p1), .val (.long q1), .second, .val (.int ((p1 * st) + (2 : Int32)))] [])) := S7.trans st8
  have S10 : Steps p.tables e below Ω (T8.setTop (mkF m 71 #[.val (.ref a), .val (.int p1), .val (.long q1), .second, .val (.int ((p1 * st) + (2 : Int32)))] [])) := by
    refine S9.trans ?_
    refine XS.goto X8.here hx rfl (pc0 := 25) (pc' := 71) rfl (hb hby d17_25) (by decide) (by decide) ?_
    exact Steps.refl _
  obtain ⟨fs, hr, hrun, hended, hW, hsame⟩ := X8.leave (v := none) (fun _ => rfl)
  have hfin : Steps p.tables e below Ω (T8.setFrames fs) := by
    refine S10.trans ?_
    exact X8.returnOut hx Bd.returns (hb hby d17_71) hr
  rw [hΩ] at hfin
  refine ⟨_, _, hfin, hrun, hended, _, _, rfl, ?_, ⟨_, rfl⟩, hW, hsame.mono (by decide) (by decide)⟩
  show Q17w Z a p1 q1 ia ma st bs mk cn xs i h0 n0 _ T8.heap _
  exact ⟨rfl, N8, K8, KT2⟩
theorem d6_0 : decode prog_28_method_15_code 0 = .ok (.aload_n 0, 1) := by decide +kernel
theorem d6_1 : decode prog_28_method_15_code 1 = .ok (.iload_n 1, 1) := by decide +kernel
theorem d6_2 : decode prog_28_method_15_code 2 = .ok (.aload_n 0, 1) := by decide +kernel
theorem d6_3 : decode prog_28_method_15_code 3 = .ok (.getfield 18, 3) := by decide +kernel
theorem d6_6 : decode prog_28_method_15_code 6 = .ok (.imul, 1) := by decide +kernel
theorem d6_7 : decode prog_28_method_15_code 7 = .ok (.lload_n 2, 1) := by decide +kernel
theorem d6_8 : decode prog_28_method_15_code 8 = .ok (.invokevirtual 62, 3) := by decide +kernel
theorem d6_11 : decode prog_28_method_15_code 11 = .ok (.aload_n 0, 1) := by decide +kernel
theorem d6_12 : decode prog_28_method_15_code 12 = .ok (.getfield 39, 3) := by decide +kernel
theorem d6_15 : decode prog_28_method_15_code 15 = .ok (.iload_n 1, 1) := by decide +kernel
theorem d6_16 : decode prog_28_method_15_code 16 = .ok (.iload 4, 2) := by decide +kernel
theorem pd_3 : parseMethodDescriptor "(II)V" = some ⟨[.int, .int], none⟩ := by decide +kernel
theorem d6_18 : decode prog_28_method_15_code 18 = .ok (.invokevirtual 83, 3) := by decide +kernel
theorem d6_21 : decode prog_28_method_15_code 21 = .ok (.aload_n 0, 1) := by decide +kernel
theorem d6_22 : decode prog_28_method_15_code 22 = .ok (.dup, 1) := by decide +kernel
theorem d6_23 : decode prog_28_method_15_code 23 = .ok (.getfield 46, 3) := by decide +kernel
theorem d6_26 : decode prog_28_method_15_code 26 = .ok (.iconst 1, 1) := by decide +kernel
theorem d6_27 : decode prog_28_method_15_code 27 = .ok (.iadd, 1) := by decide +kernel
theorem d6_28 : decode prog_28_method_15_code 28 = .ok (.putfield 46, 3) := by decide +kernel
theorem d6_31 : decode prog_28_method_15_code 31 = .ok (.return_, 1) := by decide +kernel
theorem ef_rm6 (m : MethodId) (x0 : Addr) (x1 : Int32) (x2 : Int64) (x3 : Int32) : entryFrame m #[(.ref x0), (.int x1), (.long x2), (.int x3)] 5 = mkF m 0 #[.val (.ref x0), .val (.int x1), .val (.long x2), .second, .val (.int x3)] [] := by first | (simp [entryFrame, mkF, argsToLocals, Value.category]; done) | rfl
def Q6 (Z : State) (a : Addr) (p1 : Int32) (q1 : Int64) (p2 : Int32) (ia : Addr) (ma : Addr) (st : Int32) (bs : Int64) (mk : Int32) (cn : Int32) (xs : List Int32) (i : Nat) (h0 : Heap) (n0 : Nat) (v : Option Value) (h : Heap) (L : List Loc) : Prop := v = none ∧ Fr n0 L ∧ Keep h0 h [a, ia] ∧ KT Z h a ia ma st bs mk (cn + (1 : Int32)) ((xs.set i (own_hi q1)).set (i + 1) q1.toInt32)
set_option maxRecDepth 65536 in
set_option maxHeartbeats 40000000 in
theorem rm6 (l : Launch) (Z : State) (a0 : Array Value) (hw : ∀ d ∈ tables_1, d.before a0 Z = true) (ws : List Jvm.Cond) (a : Addr) (p1 : Int32) (q1 : Int64) (p2 : Int32) (ia : Addr) (ma : Addr) (st : Int32) (bs : Int64) (mk : Int32) (cn : Int32) (xs : List Int32) (i : Nat) (h0 : Heap) (n0 : Nat) (Z0 : n0 ≤ h0.size) (KT0 : KT Z h0 a ia ma st bs mk cn xs) (g : n0 ≤ a) (gi : n0 ≤ ia) (pe2 : p2 = (0 : Int32)) (b1 : ¬ (p1 * st) < 0) (b2 : (p1 * st).toNatClampNeg = i) (b3 : ¬ ((p1 * st) + (1 : Int32)) < 0) (b4 : ((p1 * st) + (1 : Int32)).toNatClampNeg = i + 1) (b5 : i + 1 < xs.length) :
    MetFree l (⟨"com/example/admission_by_rate/admissionbyrate/KeyTable", "occupy", "(IJI)V"⟩ : MethodName) (head1 (Jvm.Cond.code (⟨"com/example/admission_by_rate/admissionbyrate/KeyTable", "occupy", "(IJI)V"⟩ : MethodName) prog_28_method_15_code 5 none :: ws) ({ frames := 1, cells := 0, slots := 0, locals := 15 } : Room)) (fun aa U => aa = #[(.ref a), (.int p1), (.long q1), (.int p2)] ∧ Z.Warmed39 U.vm ∧ U.heap = h0) (fun _ _ _ _ _ => True) (fun _ U o U' => ∃ v L, o = .returned v ∧ Q6 Z a p1 q1 p2 ia ma st bs mk cn xs i h0 n0 v U'.heap L ∧ FrameEnd U o U' L ({ frames := 1, cells := 0, slots := 0, locals := 15 } : Room).cells ({ frames := 1, cells := 0, slots := 0, locals := 15 } : Room).slots) := by
  refine MetFree.of_bodySF (plainFor_of_name pn_0) hisR ?_
  intro p e s m args below meth c s₁ Bd hml0 hP hK
  obtain ⟨rfl, hZ, hh⟩ := hP
  have hx := Bd.exec
  have hby := Bd.bytes
  have hml : c.maxLocals = 5 := hml0
  have hown : s.vm.findClass "com/example/admission_by_rate/admissionbyrate/KeyTable" = some m.cls := findClass_of_methodNamed Bd.named
  have hnm := (name_of_methodNamed Bd.named Bd.method).1
  have X0 : Stand p l e ({ frames := 1, cells := 0, slots := 0, locals := 15 } : Room) s m #[(.ref a), (.int p1), (.long q1), (.int p2)] below meth c s₁ [] 0 0 := Stand.of_body Bd
  have e0 : s₁.heap = h0 := by rw [← hh, Bd.state]; rfl
  have N0 := Fr.nil n0
  obtain ⟨Ω, hΩ⟩ : ∃ z, z = s₁.setTop (entryFrame m #[(.ref a), (.int p1), (.long q1), (.int p2)] 5) := ⟨_, rfl⟩
  have S0 : Steps p.tables e below Ω (s₁.setTop (mkF m 0 #[.val (.ref a), .val (.int p1), .val (.long q1), .second, .val (.int p2)] [])) := by rw [hΩ]; exact castTop (ef_rm6 m a p1 q1 p2) (Steps.refl _)
  have KT1 := KT0
  obtain ⟨E0, Pst, Pin, Pbs, Pma, Pmk, Pcn, A0, Em, Pw, ne1, ne2, ne3⟩ := KT0
  have S1 : Steps p.tables e below Ω (s₁.setTop (mkF m 3 #[.val (.ref a), .val (.int p1), .val (.long q1), .second, .val (.int p2)] [(.ref a), (.int p1), (.ref a)])) := by
    refine S0.trans ?_
    refine XS.aloadN X0.here hx rfl (hb hby d6_0) rfl rfl ?_
    show Steps p.tables e below (s₁.setTop (mkF m 1 #[.val (.ref a), .val (.int p1), .val (.long q1), .second, .val (.int p2)] [(.ref a)])) _
    refine XS.iloadN X0.here hx rfl (hb hby d6_1) rfl ?_
    show Steps p.tables e below (s₁.setTop (mkF m 2 #[.val (.ref a), .val (.int p1), .val (.long q1), .second, .val (.int p2)] [(.int p1), (.ref a)])) _
    refine XS.aloadN X0.here hx rfl (hb hby d6_2) rfl rfl ?_
    exact Steps.refl _
  obtain ⟨T2, X2, e2, st2⟩ := getF X0 hx hZ hown (host := "") (Or.inl (hw _ (List.mem_of_getElem? (i := 14) rfl))) Via.refl e0 Pst (g := (mkF m 3 #[.val (.ref a), .val (.int p1), .val (.long q1), .second, .val (.int p2)] [(.ref a), (.int p1), (.ref a)])) rfl rfl (hb hby d6_3)
  have S3 : Steps p.tables e below Ω (T2.setTop (mkF m 6 #[.val (.ref a), .val (.int p1), .val (.long q1), .second, .val (.int p2)] [(.int st), (.int p1), (.ref a)])) := S1.trans (st2 _ (Steps.refl _))
  have S4 : Steps p.tables e below Ω (T2.setTop (mkF m 8 #[.val (.ref a), .val (.int p1), .val (.long q1), .second, .val (.int p2)] [(.long q1), (.int (p1 * st)), (.ref a)])) := by
    refine S3.trans ?_
    refine XS.imul X2.here hx rfl (hb hby d6_6) rfl ?_
    show Steps p.tables e below (T2.setTop (mkF m 7 #[.val (.ref a), .val (.int p1), .val (.long q1), .second, .val (.int p2)] [(.int (p1 * st)), (.ref a)])) _
    refine XS.lloadN X2.here hx rfl (hb hby d6_7) rfl ?_
    exact Steps.refl _
  obtain ⟨cq5, q5, q5'⟩ := (E0).cell
  obtain ⟨_, _, ⟨T5, L5, k5, n5⟩, -, X5, ⟨Lc5, hQ5, l5, y5, z5⟩, st5⟩ := X2.privateBack hx (y := (⟨"com/example/admission_by_rate/admissionbyrate/KeyTable", "putLongAt", "(IJ)V"⟩ : MethodName)) hown (mvT hZ (hw _ (List.mem_of_getElem? (i := 48) rfl))) (mvT hZ (hw _ (List.mem_of_getElem? (i := 49) rfl))) (own_sel (z := (⟨"com/example/admission_by_rate/admissionbyrate/KeyTable", "holds", "(J)Z"⟩ : MethodName)) (mvT hZ (hw _ (List.mem_of_getElem? (i := 41) rfl))) rfl (Cond.privateMethod_at (mvP hZ (hw _ (List.mem_of_getElem? (i := 50) rfl)) (args := #[]))) (mvT hZ (hw _ (List.mem_of_getElem? (i := 49) rfl))) (by decide)) (Cond.privateMethod_at (mvP hZ (hw _ (List.mem_of_getElem? (i := 50) rfl)) (args := #[]))) (mvT hZ (hw _ (List.mem_of_getElem? (i := 51) rfl))) (by decide) (backOf (W := 0) (rm7 l Z a0 hw [] a (p1 * st) q1 ia ma st bs mk cn xs i h0 n0 Z0 KT1 gi b1 b2 b3 b4 b5) hZ (hw _ (List.mem_of_getElem? (i := 51) rfl)) (hw _ (List.mem_of_getElem? (i := 2) rfl)) (by decide) (by decide)) (g := (mkF m 8 #[.val (.ref a), .val (.int p1), .val (.long q1), .second, .val (.int p2)] [(.long q1), (.int (p1 * st)), (.ref a)])) rfl (by rw [hml]; rfl) (Steps.refl _) (a := a) (by rw [e2]; exact q5) q5' (argsL := [(.int (p1 * st)), (.long q1)]) (rest := []) (lenOf pd_2 rfl) rfl (by show 2 * 0 + _ ≤ _; exact Nat.le_of_eq rfl) (hb hby d6_8) (fun _ _ => ⟨rfl, e2, (by decide : 0 + 0 ≤ _), (by decide : 0 + 0 ≤ _)⟩)
  dsimp only [Pt.U, Pt.locs, Pt.cells, Pt.slots] at X5 l5 y5 z5 st5 hQ5
  subst l5 y5 z5
  obtain ⟨rfl, N5q, K5, KT2⟩ := hQ5
  have N5 := Fr.app N0 N5q
  have S6 : Steps p.tables e below Ω (T5.setTop (mkF m 11 #[.val (.ref a), .val (.int p1), .val (.long q1), .second, .val (.int p2)] [])) := S4.trans st5
  obtain ⟨E0, Pst, Pin, Pbs, Pma, Pmk, Pcn, A0, Em, Pw, ne1, ne2, ne3⟩ := KT2
  have eH : T5.heap = T5.heap := rfl
  have S7 : Steps p.tables e below Ω (T5.setTop (mkF m 12 #[.val (.ref a), .val (.int p1), .val (.long q1), .second, .val (.int p2)] [(.ref a)])) := by
    refine S6.trans ?_
    refine XS.aloadN X5.here hx rfl (hb hby d6_11) rfl rfl ?_
    exact Steps.refl _
  obtain ⟨T8, X8, e8, st8⟩ := getF X5 hx hZ hown (host := "") (Or.inl (hw _ (List.mem_of_getElem? (i := 32) rfl))) Via.refl rfl Pma (g := (mkF m 12 #[.val (.ref a), .val (.int p1), .val (.long q1), .second, .val (.int p2)] [(.ref a)])) rfl rfl (hb hby d6_12)
  have S9 : Steps p.tables e below Ω (T8.setTop (mkF m 15 #[.val (.ref a), .val (.int p1), .val (.long q1), .second, .val (.int p2)] [(.ref ma)])) := S7.trans (st8 _ (Steps.refl _))
  have S10 : Steps p.tables e below Ω (T8.setTop (mkF m 18 #[.val (.ref a), .val (.int p1), .val (.long q1), .second, .val (.int p2)] [(.int p2), (.int p1), (.ref ma)])) := by
    refine S9.trans ?_
    refine XS.iloadN X8.here hx rfl (hb hby d6_15) rfl ?_
    show Steps p.tables e below (T8.setTop (mkF m 16 #[.val (.ref a), .val (.int p1), .val (.long q1), .second, .val (.int p2)] [(.int p1), (.ref ma)])) _
    refine XS.iload X8.here hx rfl (hb hby d6_16) rfl ?_
    exact Steps.refl _
  obtain ⟨cq11, kq11, q11a, q11b, q11c⟩ := isOf hZ e8 Em
  obtain ⟨_, _, ⟨T11, L11, k11, n11⟩, -, X11, ⟨Lc11, hQ11, l11, y11, z11⟩, st11⟩ := X8.virtualBack hx (y := (⟨"com/example/admission_by_rate/admissionbyrate/PlaceMarks", "set", "(II)V"⟩ : MethodName)) (z := (⟨"com/example/admission_by_rate/admissionbyrate/PlaceMarks", "set", "(II)V"⟩ : MethodName)) hown (mvT hZ (hw _ (List.mem_of_getElem? (i := 52) rfl))) (mvT hZ (hw _ (List.mem_of_getElem? (i := 53) rfl))) (notFace_of_selects (args := #[]) (mvT hZ (hw _ (List.mem_of_getElem? (i := 55) rfl)))) (mvT hZ (hw _ (List.mem_of_getElem? (i := 55) rfl))) (mvT hZ (hw _ (List.mem_of_getElem? (i := 54) rfl))) (by decide) (backOf (W := 0) (rm8 l Z a0 hw [] ma p1 p2  T5.heap n0 (Nat.le_trans Z0 K5.1) Pw pe2) hZ (hw _ (List.mem_of_getElem? (i := 56) rfl)) (hw _ (List.mem_of_getElem? (i := 25) rfl)) (by decide) (by decide)) q11a q11c (g := (mkF m 18 #[.val (.ref a), .val (.int p1), .val (.long q1), .second, .val (.int p2)] [(.int p2), (.int p1), (.ref ma)])) rfl (by rw [hml]; rfl) (Steps.refl _) (argsL := [(.int p1), (.int p2)]) (rest := []) (lenOf pd_3 rfl) rfl (by show 2 * 0 + _ ≤ _; exact Nat.le_of_eq rfl) (hb hby d6_18) (fun _ _ => ⟨rfl, e8, (by decide : 0 + 0 ≤ _), (by decide : 0 + 0 ≤ _)⟩)
  dsimp only [Pt.U, Pt.locs, Pt.cells, Pt.slots] at X11 l11 y11 z11 st11 hQ11
  subst l11 y11 z11
  obtain ⟨rfl, N11q, e11⟩ := hQ11
  have N11 := Fr.app N5 N11q
  have S12 : Steps p.tables e below Ω (T11.setTop (mkF m 21 #[.val (.ref a), .val (.int p1), .val (.long q1), .second, .val (.int p2)] [])) := S10.trans st11
  have S13 : Steps p.tables e below Ω (T11.setTop (mkF m 23 #[.val (.ref a), .val (.int p1), .val (.long q1), .second, .val (.int p2)] [(.ref a), (.ref a)])) := by
    refine S12.trans ?_
    refine XS.aloadN X11.here hx rfl (hb hby d6_21) rfl rfl ?_
    show Steps p.tables e below (T11.setTop (mkF m 22 #[.val (.ref a), .val (.int p1), .val (.long q1), .second, .val (.int p2)] [(.ref a)])) _
    refine XS.dup X11.here hx rfl (hb hby d6_22) rfl rfl ?_
    exact Steps.refl _
  obtain ⟨T14, X14, e14, st14⟩ := getF X11 hx hZ hown (host := "") (Or.inl (hw _ (List.mem_of_getElem? (i := 60) rfl))) Via.refl e11 Pcn (g := (mkF m 23 #[.val (.ref a), .val (.int p1), .val (.long q1), .second, .val (.int p2)] [(.ref a), (.ref a)])) rfl rfl (hb hby d6_23)
  have S15 : Steps p.tables e below Ω (T14.setTop (mkF m 26 #[.val (.ref a), .val (.int p1), .val (.long q1), .second, .val (.int p2)] [(.int cn), (.ref a)])) := S13.trans (st14 _ (Steps.refl _))
  have S16 : Steps p.tables e below Ω (T14.setTop (mkF m 28 #[.val (.ref a), .val (.int p1), .val (.long q1), .second, .val (.int p2)] [(.int (cn + (1 : Int32))), (.ref a)])) := by
    refine S15.trans ?_
    refine XS.iconst X14.here hx rfl (hb hby d6_26) ?_
    show Steps p.tables e below (T14.setTop (mkF m 27 #[.val (.ref a), .val (.int p1), .val (.long q1), .second, .val (.int p2)] [(.int (1 : Int32)), (.int cn), (.ref a)])) _
    refine XS.iadd X14.here hx rfl (hb hby d6_27) rfl ?_
    exact Steps.refl _
  obtain ⟨T17, h17, X17, e17, W17, st17⟩ := putF X14 hx hZ hown (host := "") (Or.inl (hw _ (List.mem_of_getElem? (i := 60) rfl))) Via.refl e14 Pcn E0 (Or.inl (hw _ (List.mem_of_getElem? (i := 61) rfl))) (hw _ (List.mem_of_getElem? (i := 1) rfl)) (ty := .int) (by decide) rfl rfl (g := (mkF m 28 #[.val (.ref a), .val (.int p1), .val (.long q1), .second, .val (.int p2)] [(.int (cn + (1 : Int32))), (.ref a)])) rfl rfl (hb hby d6_28)
  have S18 : Steps p.tables e below Ω (T17.setTop (mkF m 31 #[.val (.ref a), .val (.int p1), .val (.long q1), .second, .val (.int p2)] [])) := S16.trans (st17 _ (Steps.refl _))
  have N17 := Fr.snoc X17 N11 g
  have E_a_17 := (E0).wr W17
  have F_stride_a_17 : Fld Z h17 a "com/example/admission_by_rate/admissionbyrate/KeyTable" "stride" "I" (.int st) := (Pst).other W17 (Or.inr (slot_ne (Or.inr (hw _ (List.mem_of_getElem? (i := 15) rfl))) (Or.inl (hw _ (List.mem_of_getElem? (i := 61) rfl))) (by decide) (t := .int) (t' := .int) (by decide) (by decide)))
  have F_ints_a_17 : Fld Z h17 a "com/example/admission_by_rate/admissionbyrate/KeyTable" "ints" "[I" (.ref ia) := (Pin).other W17 (Or.inr (slot_ne (Or.inr (hw _ (List.mem_of_getElem? (i := 18) rfl))) (Or.inl (hw _ (List.mem_of_getElem? (i := 61) rfl))) (by decide) (t := (.array .int)) (t' := .int) (by decide) (by decide)))
  have F_base_a_17 : Fld Z h17 a "com/example/admission_by_rate/admissionbyrate/KeyTable" "base" "J" (.long bs) := (Pbs).other W17 (Or.inr (slot_ne (Or.inr (hw _ (List.mem_of_getElem? (i := 20) rfl))) (Or.inl (hw _ (List.mem_of_getElem? (i := 61) rfl))) (by decide) (t := .long) (t' := .int) (by decide) (by decide)))
  have F_marks_a_17 : Fld Z h17 a "com/example/admission_by_rate/admissionbyrate/KeyTable" "marks" "Lcom/example/admission_by_rate/admissionbyrate/PlaceMarks;" (.ref ma) := (Pma).other W17 (Or.inr (slot_ne (Or.inr (hw _ (List.mem_of_getElem? (i := 33) rfl))) (Or.inl (hw _ (List.mem_of_getElem? (i := 61) rfl))) (by decide) (t := (.object "com/example/admission_by_rate/admissionbyrate/PlaceMarks")) (t' := .int) (by decide) (by decide)))
  have F_mask_a_17 : Fld Z h17 a "com/example/admission_by_rate/admissionbyrate/KeyTable" "mask" "I" (.int mk) := (Pmk).other W17 (Or.inr (slot_ne (Or.inr (hw _ (List.mem_of_getElem? (i := 35) rfl))) (Or.inl (hw _ (List.mem_of_getElem? (i := 61) rfl))) (by decide) (t := .int) (t' := .int) (by decide) (by decide)))
  have F_count_a_17 : Fld Z h17 a "com/example/admission_by_rate/admissionbyrate/KeyTable" "count" "I" (.int (cn + (1 : Int32))) := (Pcn).same W17
  have A1 := A0.other W17 (Ne.symm ne1)
  have Em1 := Em.wr W17
  have Pw1 := Pw.other W17 (Or.inl (Ne.symm ne3))
  have KK : Keep h0 h17 [a, ia] := (Keep.trans (Keep.refl h0 [a, ia]) K5 (fun x hx => Or.inl (by cases List.mem_singleton.mp hx; exact List.mem_of_getElem? (i := 1) rfl))).wr W17 (Or.inl (List.mem_of_getElem? (i := 0) rfl))
  obtain ⟨fs, hr, hrun, hended, hW, hsame⟩ := X17.leave (v := none) (fun _ => rfl)
  have hfin : Steps p.tables e below Ω (T17.setFrames fs) := by
    refine S18.trans ?_
    exact X17.returnOut hx Bd.returns (hb hby d6_31) hr
  rw [hΩ] at hfin
  refine ⟨_, _, hfin, hrun, hended, _, _, rfl, ?_, ⟨_, rfl⟩, hW, hsame.mono (by decide) (by decide)⟩
  show Q6 Z a p1 q1 p2 ia ma st bs mk cn xs i h0 n0 _ T17.heap _
  rw [e17]
  exact ⟨rfl, N17, KK, ⟨E_a_17, F_stride_a_17, F_ints_a_17, F_base_a_17, F_marks_a_17, F_mask_a_17, F_count_a_17, A1, Em1, Pw1, ne1, ne2, ne3⟩⟩
theorem d2_0 : decode prog_28_method_2_code 0 = .ok (.aload_n 0, 1) := by decide +kernel
theorem d2_1 : decode prog_28_method_2_code 1 = .ok (.invokespecial 9, 3) := by decide +kernel
theorem d2_4 : decode prog_28_method_2_code 4 = .ok (.aload_n 0, 1) := by decide +kernel
theorem d2_5 : decode prog_28_method_2_code 5 = .ok (.iload_n 1, 1) := by decide +kernel
theorem d2_6 : decode prog_28_method_2_code 6 = .ok (.putfield 14, 3) := by decide +kernel
theorem d2_9 : decode prog_28_method_2_code 9 = .ok (.aload_n 0, 1) := by decide +kernel
theorem d2_10 : decode prog_28_method_2_code 10 = .ok (.iload_n 3, 1) := by decide +kernel
theorem d2_11 : decode prog_28_method_2_code 11 = .ok (.putfield 18, 3) := by decide +kernel
theorem d2_14 : decode prog_28_method_2_code 14 = .ok (.aload_n 0, 1) := by decide +kernel
theorem d2_15 : decode prog_28_method_2_code 15 = .ok (.iload_n 2, 1) := by decide +kernel
theorem d2_16 : decode prog_28_method_2_code 16 = .ok (.iload_n 3, 1) := by decide +kernel
theorem d2_17 : decode prog_28_method_2_code 17 = .ok (.imul, 1) := by decide +kernel
theorem d2_18 : decode prog_28_method_2_code 18 = .ok (.newarray .int, 2) := by decide +kernel
theorem d2_20 : decode prog_28_method_2_code 20 = .ok (.putfield 22, 3) := by decide +kernel
theorem d2_23 : decode prog_28_method_2_code 23 = .ok (.aload_n 0, 1) := by decide +kernel
theorem d2_24 : decode prog_28_method_2_code 24 = .ok (.lload 4, 2) := by decide +kernel
theorem d2_26 : decode prog_28_method_2_code 26 = .ok (.putfield 26, 3) := by decide +kernel
theorem d2_29 : decode prog_28_method_2_code 29 = .ok (.aload_n 0, 1) := by decide +kernel
theorem d2_30 : decode prog_28_method_2_code 30 = .ok (.iload_n 1, 1) := by decide +kernel
theorem d2_31 : decode prog_28_method_2_code 31 = .ok (.ifCond .eq 7, 3) := by decide +kernel
theorem d2_34 : decode prog_28_method_2_code 34 = .ok (.aconst_null, 1) := by decide +kernel
theorem d2_35 : decode prog_28_method_2_code 35 = .ok (.goto 7, 3) := by decide +kernel
theorem d2_42 : decode prog_28_method_2_code 42 = .ok (.putfield 30, 3) := by decide +kernel
theorem d2_45 : decode prog_28_method_2_code 45 = .ok (.aload_n 0, 1) := by decide +kernel
theorem d2_46 : decode prog_28_method_2_code 46 = .ok (.new 34, 3) := by decide +kernel
theorem d2_49 : decode prog_28_method_2_code 49 = .ok (.dup, 1) := by decide +kernel
theorem d2_50 : decode prog_28_method_2_code 50 = .ok (.iload_n 2, 1) := by decide +kernel
theorem pd_4 : parseMethodDescriptor "(I)V" = some ⟨[.int], none⟩ := by decide +kernel
theorem d2_51 : decode prog_28_method_2_code 51 = .ok (.invokespecial 36, 3) := by decide +kernel
theorem d2_54 : decode prog_28_method_2_code 54 = .ok (.putfield 39, 3) := by decide +kernel
theorem d2_57 : decode prog_28_method_2_code 57 = .ok (.aload_n 0, 1) := by decide +kernel
theorem d2_58 : decode prog_28_method_2_code 58 = .ok (.iload_n 2, 1) := by decide +kernel
theorem d2_59 : decode prog_28_method_2_code 59 = .ok (.iconst 1, 1) := by decide +kernel
theorem d2_60 : decode prog_28_method_2_code 60 = .ok (.isub, 1) := by decide +kernel
theorem d2_61 : decode prog_28_method_2_code 61 = .ok (.putfield 43, 3) := by decide +kernel
theorem d2_64 : decode prog_28_method_2_code 64 = .ok (.return_, 1) := by decide +kernel
theorem ef_rm2 (m : MethodId) (x0 : Addr) (x1 : Int32) (x2 : Int32) (x3 : Int32) (x4 : Int64) : entryFrame m #[(.ref x0), (.int x1), (.int x2), (.int x3), (.long x4)] 6 = mkF m 0 #[.val (.ref x0), .val (.int x1), .val (.int x2), .val (.int x3), .val (.long x4), .second] [] := by first | (simp [entryFrame, mkF, argsToLocals, Value.category]; done) | rfl
def Q2 (Z : State) (a : Addr) (p1 : Int32) (p2 : Int32) (p3 : Int32) (q1 : Int64) (N : Nat) (h0 : Heap) (n0 : Nat) (v : Option Value) (h : Heap) (L : List Loc) : Prop := ∃ ia ma : Addr, v = none ∧ Fr n0 L ∧ Keep h0 h [a] ∧ KT Z h a ia ma p3 q1 (p2 - (1 : Int32)) (0 : Int32) (List.replicate N (0 : Int32)) ∧ h0.size ≤ ia ∧ h0.size ≤ ma
set_option maxRecDepth 65536 in
set_option maxHeartbeats 40000000 in
theorem rm2 (l : Launch) (Z : State) (a0 : Array Value) (hw : ∀ d ∈ tables_1, d.before a0 Z = true) (ws : List Jvm.Cond) (a : Addr) (p1 : Int32) (p2 : Int32) (p3 : Int32) (q1 : Int64) (N : Nat) (h0 : Heap) (n0 : Nat) (Z0 : n0 ≤ h0.size) (E0 : Exa Z h0 a "com/example/admission_by_rate/admissionbyrate/KeyTable") (P_inLongs : Fld Z h0 a "com/example/admission_by_rate/admissionbyrate/KeyTable" "inLongs" "Z" (.int (0 : Int32))) (P_stride : Fld Z h0 a "com/example/admission_by_rate/admissionbyrate/KeyTable" "stride" "I" (.int (0 : Int32))) (P_ints : Fld Z h0 a "com/example/admission_by_rate/admissionbyrate/KeyTable" "ints" "[I" .null) (P_base : Fld Z h0 a "com/example/admission_by_rate/admissionbyrate/KeyTable" "base" "J" (.long (0 : Int64))) (P_objects : Fld Z h0 a "com/example/admission_by_rate/admissionbyrate/KeyTable" "objects" "[Ljava/lang/Object;" .null) (P_marks : Fld Z h0 a "com/example/admission_by_rate/admissionbyrate/KeyTable" "marks" "Lcom/example/admission_by_rate/admissionbyrate/PlaceMarks;" .null) (P_mask : Fld Z h0 a "com/example/admission_by_rate/admissionbyrate/KeyTable" "mask" "I" (.int (0 : Int32))) (P_count : Fld Z h0 a "com/example/admission_by_rate/admissionbyrate/KeyTable" "count" "I" (.int (0 : Int32))) (g : n0 ≤ a) (pe1 : ¬ p1 = (0 : Int32)) (b1 : ¬ (p2 * p3) < 0) (b2 : (p2 * p3).toNatClampNeg = N) (b3 : N ≤ 8) :
    MetFree l (⟨"com/example/admission_by_rate/admissionbyrate/KeyTable", "<init>", "(ZIIJ)V"⟩ : MethodName) (head1 (Jvm.Cond.code (⟨"com/example/admission_by_rate/admissionbyrate/KeyTable", "<init>", "(ZIIJ)V"⟩ : MethodName) prog_28_method_2_code 6 none :: ws) ({ frames := 2, cells := 2, slots := 10, locals := 27 } : Room)) (fun aa U => aa = #[(.ref a), (.int p1), (.int p2), (.int p3), (.long q1)] ∧ Z.Warmed39 U.vm ∧ U.heap = h0) (fun _ _ _ _ _ => True) (fun _ U o U' => ∃ v L, o = .returned v ∧ Q2 Z a p1 p2 p3 q1 N h0 n0 v U'.heap L ∧ FrameEnd U o U' L ({ frames := 2, cells := 2, slots := 10, locals := 27 } : Room).cells ({ frames := 2, cells := 2, slots := 10, locals := 27 } : Room).slots) := by
  refine MetFree.of_bodySF (plainFor_of_name pn_0) hisR ?_
  intro p e s m args below meth c s₁ Bd hml0 hP hK
  obtain ⟨rfl, hZ, hh⟩ := hP
  have hx := Bd.exec
  have hby := Bd.bytes
  have hml : c.maxLocals = 6 := hml0
  have hown : s.vm.findClass "com/example/admission_by_rate/admissionbyrate/KeyTable" = some m.cls := findClass_of_methodNamed Bd.named
  have hnm := (name_of_methodNamed Bd.named Bd.method).1
  have X0 : Stand p l e ({ frames := 2, cells := 2, slots := 10, locals := 27 } : Room) s m #[(.ref a), (.int p1), (.int p2), (.int p3), (.long q1)] below meth c s₁ [] 0 0 := Stand.of_body Bd
  have e0 : s₁.heap = h0 := by rw [← hh, Bd.state]; rfl
  have N0 := Fr.nil n0
  obtain ⟨Ω, hΩ⟩ : ∃ z, z = s₁.setTop (entryFrame m #[(.ref a), (.int p1), (.int p2), (.int p3), (.long q1)] 6) := ⟨_, rfl⟩
  have S0 : Steps p.tables e below Ω (s₁.setTop (mkF m 0 #[.val (.ref a), .val (.int p1), .val (.int p2), .val (.int p3), .val (.long q1), .second] [])) := by rw [hΩ]; exact castTop (ef_rm2 m a p1 p2 p3 q1) (Steps.refl _)
  have S1 : Steps p.tables e below Ω (s₁.setTop (mkF m 1 #[.val (.ref a), .val (.int p1), .val (.int p2), .val (.int p3), .val (.long q1), .second] [(.ref a)])) := by
    refine S0.trans ?_
    refine XS.aloadN X0.here hx rfl (hb hby d2_0) rfl rfl ?_
    exact Steps.refl _
  obtain ⟨T2, X2, e2, st2⟩ := initO X0 hx hZ hown (hw _ (List.mem_of_getElem? (i := 9) rfl)) (hw _ (List.mem_of_getElem? (i := 10) rfl)) (hw _ (List.mem_of_getElem? (i := 11) rfl)) e0 (g := (mkF m 1 #[.val (.ref a), .val (.int p1), .val (.int p2), .val (.int p3), .val (.long q1), .second] [(.ref a)])) rfl (by rw [hml]; rfl) rfl (hb hby d2_1) (by decide) (W := 0) (by show 2 * 0 + _ ≤ _; exact Nat.le_of_eq rfl) (by decide)
  have S3 : Steps p.tables e below Ω (T2.setTop (mkF m 4 #[.val (.ref a), .val (.int p1), .val (.int p2), .val (.int p3), .val (.long q1), .second] [])) := S1.trans (st2 _ (Steps.refl _))
  have S4 : Steps p.tables e below Ω (T2.setTop (mkF m 6 #[.val (.ref a), .val (.int p1), .val (.int p2), .val (.int p3), .val (.long q1), .second] [(.int p1), (.ref a)])) := by
    refine S3.trans ?_
    refine XS.aloadN X2.here hx rfl (hb hby d2_4) rfl rfl ?_
    show Steps p.tables e below (T2.setTop (mkF m 5 #[.val (.ref a), .val (.int p1), .val (.int p2), .val (.int p3), .val (.long q1), .second] [(.ref a)])) _
    refine XS.iloadN X2.here hx rfl (hb hby d2_5) rfl ?_
    exact Steps.refl _
  obtain ⟨T5, h5, X5, e5, W5, st5⟩ := putFN X2 hx hZ hown (hw _ (List.mem_of_getElem? (i := 12) rfl)) Via.refl e2 P_inLongs E0 (Or.inr ⟨(hw _ (List.mem_of_getElem? (i := 13) rfl)), rfl, hnm⟩) (hw _ (List.mem_of_getElem? (i := 1) rfl)) (ty := .boolean) (v' := .int (nar .boolean p1)) (by decide) rfl (fits_nar_bool _) (g := (mkF m 6 #[.val (.ref a), .val (.int p1), .val (.int p2), .val (.int p3), .val (.long q1), .second] [(.int p1), (.ref a)])) rfl rfl (hb hby d2_6)
  have S6 : Steps p.tables e below Ω (T5.setTop (mkF m 9 #[.val (.ref a), .val (.int p1), .val (.int p2), .val (.int p3), .val (.long q1), .second] [])) := S4.trans (st5 _ (Steps.refl _))
  have N5 := Fr.snoc X5 N0 g
  have E_a_5 := (E0).wr W5
  have F_inLongs_a_5 : Fld Z h5 a "com/example/admission_by_rate/admissionbyrate/KeyTable" "inLongs" "Z" (.int (nar .boolean p1)) := (P_inLongs).same W5
  have F_stride_a_5 : Fld Z h5 a "com/example/admission_by_rate/admissionbyrate/KeyTable" "stride" "I" (.int (0 : Int32)) := (P_stride).other W5 (Or.inr (slot_ne (Or.inr (hw _ (List.mem_of_getElem? (i := 15) rfl))) (Or.inr (hw _ (List.mem_of_getElem? (i := 13) rfl))) (by decide) (t := .int) (t' := .boolean) (by decide) (by decide)))
  have F_ints_a_5 : Fld Z h5 a "com/example/admission_by_rate/admissionbyrate/KeyTable" "ints" "[I" .null := (P_ints).other W5 (Or.inr (slot_ne (Or.inr (hw _ (List.mem_of_getElem? (i := 18) rfl))) (Or.inr (hw _ (List.mem_of_getElem? (i := 13) rfl))) (by decide) (t := (.array .int)) (t' := .boolean) (by decide) (by decide)))
  have F_base_a_5 : Fld Z h5 a "com/example/admission_by_rate/admissionbyrate/KeyTable" "base" "J" (.long (0 : Int64)) := (P_base).other W5 (Or.inr (slot_ne (Or.inr (hw _ (List.mem_of_getElem? (i := 20) rfl))) (Or.inr (hw _ (List.mem_of_getElem? (i := 13) rfl))) (by decide) (t := .long) (t' := .boolean) (by decide) (by decide)))
  have F_objects_a_5 : Fld Z h5 a "com/example/admission_by_rate/admissionbyrate/KeyTable" "objects" "[Ljava/lang/Object;" .null := (P_objects).other W5 (Or.inr (slot_ne (Or.inr (hw _ (List.mem_of_getElem? (i := 22) rfl))) (Or.inr (hw _ (List.mem_of_getElem? (i := 13) rfl))) (by decide) (t := (.array (.object "java/lang/Object"))) (t' := .boolean) (by decide) (by decide)))
  have F_marks_a_5 : Fld Z h5 a "com/example/admission_by_rate/admissionbyrate/KeyTable" "marks" "Lcom/example/admission_by_rate/admissionbyrate/PlaceMarks;" .null := (P_marks).other W5 (Or.inr (slot_ne (Or.inr (hw _ (List.mem_of_getElem? (i := 33) rfl))) (Or.inr (hw _ (List.mem_of_getElem? (i := 13) rfl))) (by decide) (t := (.object "com/example/admission_by_rate/admissionbyrate/PlaceMarks")) (t' := .boolean) (by decide) (by decide)))
  have F_mask_a_5 : Fld Z h5 a "com/example/admission_by_rate/admissionbyrate/KeyTable" "mask" "I" (.int (0 : Int32)) := (P_mask).other W5 (Or.inr (slot_ne (Or.inr (hw _ (List.mem_of_getElem? (i := 35) rfl))) (Or.inr (hw _ (List.mem_of_getElem? (i := 13) rfl))) (by decide) (t := .int) (t' := .boolean) (by decide) (by decide)))
  have F_count_a_5 : Fld Z h5 a "com/example/admission_by_rate/admissionbyrate/KeyTable" "count" "I" (.int (0 : Int32)) := (P_count).other W5 (Or.inr (slot_ne (Or.inl (hw _ (List.mem_of_getElem? (i := 61) rfl))) (Or.inr (hw _ (List.mem_of_getElem? (i := 13) rfl))) (by decide) (t := .int) (t' := .boolean) (by decide) (by decide)))
  have S7 : Steps p.tables e below Ω (T5.setTop (mkF m 11 #[.val (.ref a), .val (.int p1), .val (.int p2), .val (.int p3), .val (.long q1), .second] [(.int p3), (.ref a)])) := by
    refine S6.trans ?_
    refine XS.aloadN X5.here hx rfl (hb hby d2_9) rfl rfl ?_
    show Steps p.tables e below (T5.setTop (mkF m 10 #[.val (.ref a), .val (.int p1), .val (.int p2), .val (.int p3), .val (.long q1), .second] [(.ref a)])) _
    refine XS.iloadN X5.here hx rfl (hb hby d2_10) rfl ?_
    exact Steps.refl _
  obtain ⟨T8, h8, X8, e8, W8, st8⟩ := putF X5 hx hZ hown (host := "") (Or.inl (hw _ (List.mem_of_getElem? (i := 14) rfl))) Via.refl e5 F_stride_a_5 E_a_5 (Or.inr ⟨(hw _ (List.mem_of_getElem? (i := 15) rfl)), rfl, hnm⟩) (hw _ (List.mem_of_getElem? (i := 1) rfl)) (ty := .int) (by decide) rfl rfl (g := (mkF m 11 #[.val (.ref a), .val (.int p1), .val (.int p2), .val (.int p3), .val (.long q1), .second] [(.int p3), (.ref a)])) rfl rfl (hb hby d2_11)
  have S9 : Steps p.tables e below Ω (T8.setTop (mkF m 14 #[.val (.ref a), .val (.int p1), .val (.int p2), .val (.int p3), .val (.long q1), .second] [])) := S7.trans (st8 _ (Steps.refl _))
  have N8 := Fr.snoc X8 N5 g
  have E_a_8 := (E_a_5).wr W8
  have F_stride_a_8 : Fld Z h8 a "com/example/admission_by_rate/admissionbyrate/KeyTable" "stride" "I" (.int p3) := (F_stride_a_5).same W8
  have F_ints_a_8 : Fld Z h8 a "com/example/admission_by_rate/admissionbyrate/KeyTable" "ints" "[I" .null := (F_ints_a_5).other W8 (Or.inr (slot_ne (Or.inr (hw _ (List.mem_of_getElem? (i := 18) rfl))) (Or.inr (hw _ (List.mem_of_getElem? (i := 15) rfl))) (by decide) (t := (.array .int)) (t' := .int) (by decide) (by decide)))
  have F_base_a_8 : Fld Z h8 a "com/example/admission_by_rate/admissionbyrate/KeyTable" "base" "J" (.long (0 : Int64)) := (F_base_a_5).other W8 (Or.inr (slot_ne (Or.inr (hw _ (List.mem_of_getElem? (i := 20) rfl))) (Or.inr (hw _ (List.mem_of_getElem? (i := 15) rfl))) (by decide) (t := .long) (t' := .int) (by decide) (by decide)))
  have F_objects_a_8 : Fld Z h8 a "com/example/admission_by_rate/admissionbyrate/KeyTable" "objects" "[Ljava/lang/Object;" .null := (F_objects_a_5).other W8 (Or.inr (slot_ne (Or.inr (hw _ (List.mem_of_getElem? (i := 22) rfl))) (Or.inr (hw _ (List.mem_of_getElem? (i := 15) rfl))) (by decide) (t := (.array (.object "java/lang/Object"))) (t' := .int) (by decide) (by decide)))
  have F_marks_a_8 : Fld Z h8 a "com/example/admission_by_rate/admissionbyrate/KeyTable" "marks" "Lcom/example/admission_by_rate/admissionbyrate/PlaceMarks;" .null := (F_marks_a_5).other W8 (Or.inr (slot_ne (Or.inr (hw _ (List.mem_of_getElem? (i := 33) rfl))) (Or.inr (hw _ (List.mem_of_getElem? (i := 15) rfl))) (by decide) (t := (.object "com/example/admission_by_rate/admissionbyrate/PlaceMarks")) (t' := .int) (by decide) (by decide)))
  have F_mask_a_8 : Fld Z h8 a "com/example/admission_by_rate/admissionbyrate/KeyTable" "mask" "I" (.int (0 : Int32)) := (F_mask_a_5).other W8 (Or.inr (slot_ne (Or.inr (hw _ (List.mem_of_getElem? (i := 35) rfl))) (Or.inr (hw _ (List.mem_of_getElem? (i := 15) rfl))) (by decide) (t := .int) (t' := .int) (by decide) (by decide)))
  have F_count_a_8 : Fld Z h8 a "com/example/admission_by_rate/admissionbyrate/KeyTable" "count" "I" (.int (0 : Int32)) := (F_count_a_5).other W8 (Or.inr (slot_ne (Or.inl (hw _ (List.mem_of_getElem? (i := 61) rfl))) (Or.inr (hw _ (List.mem_of_getElem? (i := 15) rfl))) (by decide) (t := .int) (t' := .int) (by decide) (by decide)))
  have S10 : Steps p.tables e below Ω (T8.setTop (mkF m 18 #[.val (.ref a), .val (.int p1), .val (.int p2), .val (.int p3), .val (.long q1), .second] [(.int (p2 * p3)), (.ref a)])) := by
    refine S9.trans ?_
    refine XS.aloadN X8.here hx rfl (hb hby d2_14) rfl rfl ?_
    show Steps p.tables e below (T8.setTop (mkF m 15 #[.val (.ref a), .val (.int p1), .val (.int p2), .val (.int p3), .val (.long q1), .second] [(.ref a)])) _
    refine XS.iloadN X8.here hx rfl (hb hby d2_15) rfl ?_
    show Steps p.tables e below (T8.setTop (mkF m 16 #[.val (.ref a), .val (.int p1), .val (.int p2), .val (.int p3), .val (.long q1), .second] [(.int p2), (.ref a)])) _
    refine XS.iloadN X8.here hx rfl (hb hby d2_16) rfl ?_
    show Steps p.tables e below (T8.setTop (mkF m 17 #[.val (.ref a), .val (.int p1), .val (.int p2), .val (.int p3), .val (.long q1), .second] [(.int p3), (.int p2), (.ref a)])) _
    refine XS.imul X8.here hx rfl (hb hby d2_17) rfl ?_
    exact Steps.refl _
  obtain ⟨T11, h11, k11, X11, e11, E11, A11, st11⟩ := newP X8 hx hZ (hw _ (List.mem_of_getElem? (i := 16) rfl)) e8 (g := (mkF m 18 #[.val (.ref a), .val (.int p1), .val (.int p2), .val (.int p3), .val (.long q1), .second] [(.int (p2 * p3)), (.ref a)])) rfl (hb hby d2_18) rfl b1 (cap := 8) (by rw [b2]; exact b3) (by decide) (by decide) (by decide)
  obtain ⟨ia, s_ia⟩ : ∃ z, z = h8.size := ⟨_, rfl⟩
  rw [← s_ia] at A11 st11
  have g_ia : n0 ≤ ia := Nat.le_trans (Nat.le_trans (Nat.le_trans Z0 (Keep.of_wr W5).1) (Keep.of_wr W8).1) (Nat.le_of_eq s_ia.symm)
  have S12 : Steps p.tables e below Ω (T11.setTop (mkF m 20 #[.val (.ref a), .val (.int p1), .val (.int p2), .val (.int p3), .val (.long q1), .second] [(.ref ia), (.ref a)])) := S10.trans (st11 _ (Steps.refl _))
  have A1 : LA Z h11 ia .int (List.map Value.int (List.replicate N (0 : Int32))) := by rw [List.map_replicate]; exact LA.new A11 N b2
  have ne1 : a ≠ ia := Nat.ne_of_lt (Nat.lt_of_lt_of_le (E_a_8).lt (Nat.le_of_eq s_ia.symm))
  have si : h0.size ≤ ia := Nat.le_trans ((((((Keep.refl h0 [a])).wr W5 (Or.inl (List.mem_of_getElem? (i := 0) rfl)))).wr W8 (Or.inl (List.mem_of_getElem? (i := 0) rfl)))).1 (Nat.le_of_eq s_ia.symm)
  have E_a_11 := (E_a_8).ext E11
  have F_stride_a_11 : Fld Z h11 a "com/example/admission_by_rate/admissionbyrate/KeyTable" "stride" "I" (.int p3) := (F_stride_a_8).ext E11
  have F_ints_a_11 : Fld Z h11 a "com/example/admission_by_rate/admissionbyrate/KeyTable" "ints" "[I" .null := (F_ints_a_8).ext E11
  have F_base_a_11 : Fld Z h11 a "com/example/admission_by_rate/admissionbyrate/KeyTable" "base" "J" (.long (0 : Int64)) := (F_base_a_8).ext E11
  have F_objects_a_11 : Fld Z h11 a "com/example/admission_by_rate/admissionbyrate/KeyTable" "objects" "[Ljava/lang/Object;" .null := (F_objects_a_8).ext E11
  have F_marks_a_11 : Fld Z h11 a "com/example/admission_by_rate/admissionbyrate/KeyTable" "marks" "Lcom/example/admission_by_rate/admissionbyrate/PlaceMarks;" .null := (F_marks_a_8).ext E11
  have F_mask_a_11 : Fld Z h11 a "com/example/admission_by_rate/admissionbyrate/KeyTable" "mask" "I" (.int (0 : Int32)) := (F_mask_a_8).ext E11
  have F_count_a_11 : Fld Z h11 a "com/example/admission_by_rate/admissionbyrate/KeyTable" "count" "I" (.int (0 : Int32)) := (F_count_a_8).ext E11
  obtain ⟨T13, h13, X13, e13, W13, st13⟩ := putF X11 hx hZ hown (host := "") (Or.inl (hw _ (List.mem_of_getElem? (i := 17) rfl))) Via.refl e11 F_ints_a_11 E_a_11 (Or.inr ⟨(hw _ (List.mem_of_getElem? (i := 18) rfl)), rfl, hnm⟩) (hw _ (List.mem_of_getElem? (i := 1) rfl)) (ty := (.array .int)) (by decide) rfl rfl (g := (mkF m 20 #[.val (.ref a), .val (.int p1), .val (.int p2), .val (.int p3), .val (.long q1), .second] [(.ref ia), (.ref a)])) rfl rfl (hb hby d2_20)
  have S14 : Steps p.tables e below Ω (T13.setTop (mkF m 23 #[.val (.ref a), .val (.int p1), .val (.int p2), .val (.int p3), .val (.long q1), .second] [])) := S12.trans (st13 _ (Steps.refl _))
  have N13 := Fr.snoc X13 N8 g
  have E_a_13 := (E_a_11).wr W13
  have F_stride_a_13 : Fld Z h13 a "com/example/admission_by_rate/admissionbyrate/KeyTable" "stride" "I" (.int p3) := (F_stride_a_11).other W13 (Or.inr (slot_ne (Or.inr (hw _ (List.mem_of_getElem? (i := 15) rfl))) (Or.inr (hw _ (List.mem_of_getElem? (i := 18) rfl))) (by decide) (t := .int) (t' := (.array .int)) (by decide) (by decide)))
  have F_ints_a_13 : Fld Z h13 a "com/example/admission_by_rate/admissionbyrate/KeyTable" "ints" "[I" (.ref ia) := (F_ints_a_11).same W13
  have F_base_a_13 : Fld Z h13 a "com/example/admission_by_rate/admissionbyrate/KeyTable" "base" "J" (.long (0 : Int64)) := (F_base_a_11).other W13 (Or.inr (slot_ne (Or.inr (hw _ (List.mem_of_getElem? (i := 20) rfl))) (Or.inr (hw _ (List.mem_of_getElem? (i := 18) rfl))) (by decide) (t := .long) (t' := (.array .int)) (by decide) (by decide)))
  have F_objects_a_13 : Fld Z h13 a "com/example/admission_by_rate/admissionbyrate/KeyTable" "objects" "[Ljava/lang/Object;" .null := (F_objects_a_11).other W13 (Or.inr (slot_ne (Or.inr (hw _ (List.mem_of_getElem? (i := 22) rfl))) (Or.inr (hw _ (List.mem_of_getElem? (i := 18) rfl))) (by decide) (t := (.array (.object "java/lang/Object"))) (t' := (.array .int)) (by decide) (by decide)))
  have F_marks_a_13 : Fld Z h13 a "com/example/admission_by_rate/admissionbyrate/KeyTable" "marks" "Lcom/example/admission_by_rate/admissionbyrate/PlaceMarks;" .null := (F_marks_a_11).other W13 (Or.inr (slot_ne (Or.inr (hw _ (List.mem_of_getElem? (i := 33) rfl))) (Or.inr (hw _ (List.mem_of_getElem? (i := 18) rfl))) (by decide) (t := (.object "com/example/admission_by_rate/admissionbyrate/PlaceMarks")) (t' := (.array .int)) (by decide) (by decide)))
  have F_mask_a_13 : Fld Z h13 a "com/example/admission_by_rate/admissionbyrate/KeyTable" "mask" "I" (.int (0 : Int32)) := (F_mask_a_11).other W13 (Or.inr (slot_ne (Or.inr (hw _ (List.mem_of_getElem? (i := 35) rfl))) (Or.inr (hw _ (List.mem_of_getElem? (i := 18) rfl))) (by decide) (t := .int) (t' := (.array .int)) (by decide) (by decide)))
  have F_count_a_13 : Fld Z h13 a "com/example/admission_by_rate/admissionbyrate/KeyTable" "count" "I" (.int (0 : Int32)) := (F_count_a_11).other W13 (Or.inr (slot_ne (Or.inl (hw _ (List.mem_of_getElem? (i := 61) rfl))) (Or.inr (hw _ (List.mem_of_getElem? (i := 18) rfl))) (by decide) (t := .int) (t' := (.array .int)) (by decide) (by decide)))
  have A2 := A1.other W13 (Ne.symm ne1)
  have S15 : Steps p.tables e below Ω (T13.setTop (mkF m 26 #[.val (.ref a), .val (.int p1), .val (.int p2), .val (.int p3), .val (.long q1), .second] [(.long q1), (.ref a)])) := by
    refine S14.trans ?_
    refine XS.aloadN X13.here hx rfl (hb hby d2_23) rfl rfl ?_
    show Steps p.tables e below (T13.setTop (mkF m 24 #[.val (.ref a), .val (.int p1), .val (.int p2), .val (.int p3), .val (.long q1), .second] [(.ref a)])) _
    refine XS.lload X13.here hx rfl (hb hby d2_24) rfl ?_
    exact Steps.refl _
  obtain ⟨T16, h16, X16, e16, W16, st16⟩ := putF X13 hx hZ hown (host := "") (Or.inl (hw _ (List.mem_of_getElem? (i := 19) rfl))) Via.refl e13 F_base_a_13 E_a_13 (Or.inr ⟨(hw _ (List.mem_of_getElem? (i := 20) rfl)), rfl, hnm⟩) (hw _ (List.mem_of_getElem? (i := 1) rfl)) (ty := .long) (by decide) rfl rfl (g := (mkF m 26 #[.val (.ref a), .val (.int p1), .val (.int p2), .val (.int p3), .val (.long q1), .second] [(.long q1), (.ref a)])) rfl rfl (hb hby d2_26)
  have S17 : Steps p.tables e below Ω (T16.setTop (mkF m 29 #[.val (.ref a), .val (.int p1), .val (.int p2), .val (.int p3), .val (.long q1), .second] [])) := S15.trans (st16 _ (Steps.refl _))
  have N16 := Fr.snoc X16 N13 g
  have E_a_16 := (E_a_13).wr W16
  have F_stride_a_16 : Fld Z h16 a "com/example/admission_by_rate/admissionbyrate/KeyTable" "stride" "I" (.int p3) := (F_stride_a_13).other W16 (Or.inr (slot_ne (Or.inr (hw _ (List.mem_of_getElem? (i := 15) rfl))) (Or.inr (hw _ (List.mem_of_getElem? (i := 20) rfl))) (by decide) (t := .int) (t' := .long) (by decide) (by decide)))
  have F_ints_a_16 : Fld Z h16 a "com/example/admission_by_rate/admissionbyrate/KeyTable" "ints" "[I" (.ref ia) := (F_ints_a_13).other W16 (Or.inr (slot_ne (Or.inr (hw _ (List.mem_of_getElem? (i := 18) rfl))) (Or.inr (hw _ (List.mem_of_getElem? (i := 20) rfl))) (by decide) (t := (.array .int)) (t' := .long) (by decide) (by decide)))
  have F_base_a_16 : Fld Z h16 a "com/example/admission_by_rate/admissionbyrate/KeyTable" "base" "J" (.long q1) := (F_base_a_13).same W16
  have F_objects_a_16 : Fld Z h16 a "com/example/admission_by_rate/admissionbyrate/KeyTable" "objects" "[Ljava/lang/Object;" .null := (F_objects_a_13).other W16 (Or.inr (slot_ne (Or.inr (hw _ (List.mem_of_getElem? (i := 22) rfl))) (Or.inr (hw _ (List.mem_of_getElem? (i := 20) rfl))) (by decide) (t := (.array (.object "java/lang/Object"))) (t' := .long) (by decide) (by decide)))
  have F_marks_a_16 : Fld Z h16 a "com/example/admission_by_rate/admissionbyrate/KeyTable" "marks" "Lcom/example/admission_by_rate/admissionbyrate/PlaceMarks;" .null := (F_marks_a_13).other W16 (Or.inr (slot_ne (Or.inr (hw _ (List.mem_of_getElem? (i := 33) rfl))) (Or.inr (hw _ (List.mem_of_getElem? (i := 20) rfl))) (by decide) (t := (.object "com/example/admission_by_rate/admissionbyrate/PlaceMarks")) (t' := .long) (by decide) (by decide)))
  have F_mask_a_16 : Fld Z h16 a "com/example/admission_by_rate/admissionbyrate/KeyTable" "mask" "I" (.int (0 : Int32)) := (F_mask_a_13).other W16 (Or.inr (slot_ne (Or.inr (hw _ (List.mem_of_getElem? (i := 35) rfl))) (Or.inr (hw _ (List.mem_of_getElem? (i := 20) rfl))) (by decide) (t := .int) (t' := .long) (by decide) (by decide)))
  have F_count_a_16 : Fld Z h16 a "com/example/admission_by_rate/admissionbyrate/KeyTable" "count" "I" (.int (0 : Int32)) := (F_count_a_13).other W16 (Or.inr (slot_ne (Or.inl (hw _ (List.mem_of_getElem? (i := 61) rfl))) (Or.inr (hw _ (List.mem_of_getElem? (i := 20) rfl))) (by decide) (t := .int) (t' := .long) (by decide) (by decide)))
  have A3 := A2.other W16 (Ne.symm ne1)
  have S18 : Steps p.tables e below Ω (T16.setTop (mkF m 42 #[.val (.ref a), .val (.int p1), .val (.int p2), .val (.int p3), .val (.long q1), .second] [.null, (.ref a)])) := by
    refine S17.trans ?_
    refine XS.aloadN X16.here hx rfl (hb hby d2_29) rfl rfl ?_
    show Steps p.tables e below (T16.setTop (mkF m 30 #[.val (.ref a), .val (.int p1), .val (.int p2), .val (.int p3), .val (.long q1), .second] [(.ref a)])) _
    refine XS.iloadN X16.here hx rfl (hb hby d2_30) rfl ?_
    show Steps p.tables e below (T16.setTop (mkF m 31 #[.val (.ref a), .val (.int p1), .val (.int p2), .val (.int p3), .val (.long q1), .second] [(.int p1), (.ref a)])) _
    refine XS.ifNo X16.here hx rfl (hb hby d2_31) rfl (XT.i0_eq_f pe1) ?_
    show Steps p.tables e below (T16.setTop (mkF m 34 #[.val (.ref a), .val (.int p1), .val (.int p2), .val (.int p3), .val (.long q1), .second] [(.ref a)])) _
    refine XS.aconstNull X16.here hx rfl (hb hby d2_34) ?_
    show Steps p.tables e below (T16.setTop (mkF m 35 #[.val (.ref a), .val (.int p1), .val (.int p2), .val (.int p3), .val (.long q1), .second] [.null, (.ref a)])) _
    refine XS.goto X16.here hx rfl (pc0 := 35) (pc' := 42) rfl (hb hby d2_35) (by decide) (by decide) ?_
    exact Steps.refl _
  obtain ⟨T19, h19, X19, e19, W19, st19⟩ := putF X16 hx hZ hown (host := "") (Or.inl (hw _ (List.mem_of_getElem? (i := 21) rfl))) Via.refl e16 F_objects_a_16 E_a_16 (Or.inr ⟨(hw _ (List.mem_of_getElem? (i := 22) rfl)), rfl, hnm⟩) (hw _ (List.mem_of_getElem? (i := 1) rfl)) (ty := (.array (.object "java/lang/Object"))) (by decide) rfl rfl (g := (mkF m 42 #[.val (.ref a), .val (.int p1), .val (.int p2), .val (.int p3), .val (.long q1), .second] [.null, (.ref a)])) rfl rfl (hb hby d2_42)
  have S20 : Steps p.tables e below Ω (T19.setTop (mkF m 45 #[.val (.ref a), .val (.int p1), .val (.int p2), .val (.int p3), .val (.long q1), .second] [])) := S18.trans (st19 _ (Steps.refl _))
  have N19 := Fr.snoc X19 N16 g
  have E_a_19 := (E_a_16).wr W19
  have F_stride_a_19 : Fld Z h19 a "com/example/admission_by_rate/admissionbyrate/KeyTable" "stride" "I" (.int p3) := (F_stride_a_16).other W19 (Or.inr (slot_ne (Or.inr (hw _ (List.mem_of_getElem? (i := 15) rfl))) (Or.inr (hw _ (List.mem_of_getElem? (i := 22) rfl))) (by decide) (t := .int) (t' := (.array (.object "java/lang/Object"))) (by decide) (by decide)))
  have F_ints_a_19 : Fld Z h19 a "com/example/admission_by_rate/admissionbyrate/KeyTable" "ints" "[I" (.ref ia) := (F_ints_a_16).other W19 (Or.inr (slot_ne (Or.inr (hw _ (List.mem_of_getElem? (i := 18) rfl))) (Or.inr (hw _ (List.mem_of_getElem? (i := 22) rfl))) (by decide) (t := (.array .int)) (t' := (.array (.object "java/lang/Object"))) (by decide) (by decide)))
  have F_base_a_19 : Fld Z h19 a "com/example/admission_by_rate/admissionbyrate/KeyTable" "base" "J" (.long q1) := (F_base_a_16).other W19 (Or.inr (slot_ne (Or.inr (hw _ (List.mem_of_getElem? (i := 20) rfl))) (Or.inr (hw _ (List.mem_of_getElem? (i := 22) rfl))) (by decide) (t := .long) (t' := (.array (.object "java/lang/Object"))) (by decide) (by decide)))
  have F_objects_a_19 : Fld Z h19 a "com/example/admission_by_rate/admissionbyrate/KeyTable" "objects" "[Ljava/lang/Object;" .null := (F_objects_a_16).same W19
  have F_marks_a_19 : Fld Z h19 a "com/example/admission_by_rate/admissionbyrate/KeyTable" "marks" "Lcom/example/admission_by_rate/admissionbyrate/PlaceMarks;" .null := (F_marks_a_16).other W19 (Or.inr (slot_ne (Or.inr (hw _ (List.mem_of_getElem? (i := 33) rfl))) (Or.inr (hw _ (List.mem_of_getElem? (i := 22) rfl))) (by decide) (t := (.object "com/example/admission_by_rate/admissionbyrate/PlaceMarks")) (t' := (.array (.object "java/lang/Object"))) (by decide) (by decide)))
  have F_mask_a_19 : Fld Z h19 a "com/example/admission_by_rate/admissionbyrate/KeyTable" "mask" "I" (.int (0 : Int32)) := (F_mask_a_16).other W19 (Or.inr (slot_ne (Or.inr (hw _ (List.mem_of_getElem? (i := 35) rfl))) (Or.inr (hw _ (List.mem_of_getElem? (i := 22) rfl))) (by decide) (t := .int) (t' := (.array (.object "java/lang/Object"))) (by decide) (by decide)))
  have F_count_a_19 : Fld Z h19 a "com/example/admission_by_rate/admissionbyrate/KeyTable" "count" "I" (.int (0 : Int32)) := (F_count_a_16).other W19 (Or.inr (slot_ne (Or.inl (hw _ (List.mem_of_getElem? (i := 61) rfl))) (Or.inr (hw _ (List.mem_of_getElem? (i := 22) rfl))) (by decide) (t := .int) (t' := (.array (.object "java/lang/Object"))) (by decide) (by decide)))
  have A4 := A3.other W19 (Ne.symm ne1)
  have S21 : Steps p.tables e below Ω (T19.setTop (mkF m 46 #[.val (.ref a), .val (.int p1), .val (.int p2), .val (.int p3), .val (.long q1), .second] [(.ref a)])) := by
    refine S20.trans ?_
    refine XS.aloadN X19.here hx rfl (hb hby d2_45) rfl rfl ?_
    exact Steps.refl _
  obtain ⟨T22, h22, X22, e22, E22, A22, D22, -, st22⟩ := newO X19 hx hZ hown (hw _ (List.mem_of_getElem? (i := 23) rfl)) (hw _ (List.mem_of_getElem? (i := 24) rfl)) (hw _ (List.mem_of_getElem? (i := 25) rfl)) e19 (g := (mkF m 46 #[.val (.ref a), .val (.int p1), .val (.int p2), .val (.int p3), .val (.long q1), .second] [(.ref a)])) rfl (hb hby d2_46) (by decide) (by decide)
  obtain ⟨ma, s_ma⟩ : ∃ z, z = h19.size := ⟨_, rfl⟩
  rw [← s_ma] at A22 D22 st22
  have g_ma : n0 ≤ ma := Nat.le_trans (Nat.le_trans (Nat.le_trans (Nat.le_trans (Nat.le_trans (Nat.le_trans (Nat.le_trans Z0 (Keep.of_wr W5).1) (Keep.of_wr W8).1) E11.1) (Keep.of_wr W13).1) (Keep.of_wr W16).1) (Keep.of_wr W19).1) (Nat.le_of_eq s_ma.symm)
  have F_places_ma : Fld Z h22 ma "com/example/admission_by_rate/admissionbyrate/PlaceMarks" "places" "I" (.int (0 : Int32)) := D22 (Or.inr (hw _ (List.mem_of_getElem? (i := 31) rfl))) (ty := .int) (by decide)
  have F_words_ma : Fld Z h22 ma "com/example/admission_by_rate/admissionbyrate/PlaceMarks" "words" "[J" .null := D22 (Or.inl (hw _ (List.mem_of_getElem? (i := 59) rfl))) (ty := (.array .long)) (by decide)
  have S23 : Steps p.tables e below Ω (T22.setTop (mkF m 49 #[.val (.ref a), .val (.int p1), .val (.int p2), .val (.int p3), .val (.long q1), .second] [(.ref ma), (.ref a)])) := S21.trans (st22 _ (Steps.refl _))
  have A5 := A4.ext E22
  have ne3 : a ≠ ma := Nat.ne_of_lt (Nat.lt_of_lt_of_le (E_a_19).lt (Nat.le_of_eq s_ma.symm))
  have ne2 : ma ≠ ia := Nat.ne_of_gt (Nat.lt_of_lt_of_le A4.lt (Nat.le_of_eq s_ma.symm))
  have sm : h0.size ≤ ma := Nat.le_trans ((((((((((((((Keep.refl h0 [a])).wr W5 (Or.inl (List.mem_of_getElem? (i := 0) rfl)))).wr W8 (Or.inl (List.mem_of_getElem? (i := 0) rfl)))).ext E11)).wr W13 (Or.inl (List.mem_of_getElem? (i := 0) rfl)))).wr W16 (Or.inl (List.mem_of_getElem? (i := 0) rfl)))).wr W19 (Or.inl (List.mem_of_getElem? (i := 0) rfl)))).1 (Nat.le_of_eq s_ma.symm)
  have E_a_22 := (E_a_19).ext E22
  have F_stride_a_22 : Fld Z h22 a "com/example/admission_by_rate/admissionbyrate/KeyTable" "stride" "I" (.int p3) := (F_stride_a_19).ext E22
  have F_ints_a_22 : Fld Z h22 a "com/example/admission_by_rate/admissionbyrate/KeyTable" "ints" "[I" (.ref ia) := (F_ints_a_19).ext E22
  have F_base_a_22 : Fld Z h22 a "com/example/admission_by_rate/admissionbyrate/KeyTable" "base" "J" (.long q1) := (F_base_a_19).ext E22
  have F_marks_a_22 : Fld Z h22 a "com/example/admission_by_rate/admissionbyrate/KeyTable" "marks" "Lcom/example/admission_by_rate/admissionbyrate/PlaceMarks;" .null := (F_marks_a_19).ext E22
  have F_mask_a_22 : Fld Z h22 a "com/example/admission_by_rate/admissionbyrate/KeyTable" "mask" "I" (.int (0 : Int32)) := (F_mask_a_19).ext E22
  have F_count_a_22 : Fld Z h22 a "com/example/admission_by_rate/admissionbyrate/KeyTable" "count" "I" (.int (0 : Int32)) := (F_count_a_19).ext E22
  have S24 : Steps p.tables e below Ω (T22.setTop (mkF m 51 #[.val (.ref a), .val (.int p1), .val (.int p2), .val (.int p3), .val (.long q1), .second] [(.int p2), (.ref ma), (.ref ma), (.ref a)])) := by
    refine S23.trans ?_
    refine XS.dup X22.here hx rfl (hb hby d2_49) rfl rfl ?_
    show Steps p.tables e below (T22.setTop (mkF m 50 #[.val (.ref a), .val (.int p1), .val (.int p2), .val (.int p3), .val (.long q1), .second] [(.ref ma), (.ref ma), (.ref a)])) _
    refine XS.iloadN X22.here hx rfl (hb hby d2_50) rfl ?_
    exact Steps.refl _
  obtain ⟨_, _, ⟨T25, L25, k25, n25⟩, -, X25, ⟨Lc25, hQ25, l25, y25, z25⟩, st25⟩ := X22.specialBack hx (y := (⟨"com/example/admission_by_rate/admissionbyrate/PlaceMarks", "<init>", "(I)V"⟩ : MethodName)) rfl hown (mvT hZ (hw _ (List.mem_of_getElem? (i := 26) rfl))) (mvT hZ (hw _ (List.mem_of_getElem? (i := 27) rfl))) (mvT hZ (hw _ (List.mem_of_getElem? (i := 28) rfl))) (by decide) (backOf (W := 2) (rm4 l Z a0 hw [] ma p2  h22 n0 (Nat.le_trans (Nat.le_trans (Nat.le_trans (Nat.le_trans (Nat.le_trans (Nat.le_trans (Nat.le_trans Z0 (Keep.of_wr W5).1) (Keep.of_wr W8).1) E11.1) (Keep.of_wr W13).1) (Keep.of_wr W16).1) (Keep.of_wr W19).1) E22.1) A22 F_places_ma F_words_ma g_ma) hZ (hw _ (List.mem_of_getElem? (i := 28) rfl)) (hw _ (List.mem_of_getElem? (i := 25) rfl)) (by decide) (by decide)) (g := (mkF m 51 #[.val (.ref a), .val (.int p1), .val (.int p2), .val (.int p3), .val (.long q1), .second] [(.int p2), (.ref ma), (.ref ma), (.ref a)])) rfl (by rw [hml]; rfl) (Steps.refl _) (a := ma) (argsL := [(.int p2)]) (rest := [(.ref ma), (.ref a)]) (lenOf pd_4 rfl) rfl (by show 2 * 0 + _ ≤ _; exact Nat.le_of_eq rfl) (hb hby d2_51) (fun _ _ => ⟨rfl, e22, (by decide : 2 + 0 ≤ _), (by decide : 10 + 0 ≤ _)⟩)
  dsimp only [Pt.U, Pt.locs, Pt.cells, Pt.slots] at X25 l25 y25 z25 st25 hQ25
  subst l25 y25 z25
  obtain ⟨rfl, N25q, K25, Em25, Pw25⟩ := hQ25
  have N25 := Fr.app N19 N25q
  have S26 : Steps p.tables e below Ω (T25.setTop (mkF m 54 #[.val (.ref a), .val (.int p1), .val (.int p2), .val (.int p3), .val (.long q1), .second] [(.ref ma), (.ref a)])) := S24.trans st25
  have A6 := A5.keep K25 (ninS (Ne.symm ne2) nin0)
  have E_a_k25 := (E_a_22).keep K25
  have F_stride_a_k25 : Fld Z T25.heap a "com/example/admission_by_rate/admissionbyrate/KeyTable" "stride" "I" (.int p3) := (F_stride_a_22).keep K25 (ninS ne3 nin0)
  have F_ints_a_k25 : Fld Z T25.heap a "com/example/admission_by_rate/admissionbyrate/KeyTable" "ints" "[I" (.ref ia) := (F_ints_a_22).keep K25 (ninS ne3 nin0)
  have F_base_a_k25 : Fld Z T25.heap a "com/example/admission_by_rate/admissionbyrate/KeyTable" "base" "J" (.long q1) := (F_base_a_22).keep K25 (ninS ne3 nin0)
  have F_marks_a_k25 : Fld Z T25.heap a "com/example/admission_by_rate/admissionbyrate/KeyTable" "marks" "Lcom/example/admission_by_rate/admissionbyrate/PlaceMarks;" .null := (F_marks_a_22).keep K25 (ninS ne3 nin0)
  have F_mask_a_k25 : Fld Z T25.heap a "com/example/admission_by_rate/admissionbyrate/KeyTable" "mask" "I" (.int (0 : Int32)) := (F_mask_a_22).keep K25 (ninS ne3 nin0)
  have F_count_a_k25 : Fld Z T25.heap a "com/example/admission_by_rate/admissionbyrate/KeyTable" "count" "I" (.int (0 : Int32)) := (F_count_a_22).keep K25 (ninS ne3 nin0)
  obtain ⟨T27, h27, X27, e27, W27, st27⟩ := putF X25 hx hZ hown (host := "") (Or.inl (hw _ (List.mem_of_getElem? (i := 32) rfl))) Via.refl rfl F_marks_a_k25 E_a_k25 (Or.inr ⟨(hw _ (List.mem_of_getElem? (i := 33) rfl)), rfl, hnm⟩) (hw _ (List.mem_of_getElem? (i := 1) rfl)) (ty := (.object "com/example/admission_by_rate/admissionbyrate/PlaceMarks")) (by decide) rfl rfl (g := (mkF m 54 #[.val (.ref a), .val (.int p1), .val (.int p2), .val (.int p3), .val (.long q1), .second] [(.ref ma), (.ref a)])) rfl rfl (hb hby d2_54)
  have S28 : Steps p.tables e below Ω (T27.setTop (mkF m 57 #[.val (.ref a), .val (.int p1), .val (.int p2), .val (.int p3), .val (.long q1), .second] [])) := S26.trans (st27 _ (Steps.refl _))
  have N27 := Fr.snoc X27 N25 g
  have E_a_27 := (E_a_k25).wr W27
  have F_stride_a_27 : Fld Z h27 a "com/example/admission_by_rate/admissionbyrate/KeyTable" "stride" "I" (.int p3) := (F_stride_a_k25).other W27 (Or.inr (slot_ne (Or.inr (hw _ (List.mem_of_getElem? (i := 15) rfl))) (Or.inr (hw _ (List.mem_of_getElem? (i := 33) rfl))) (by decide) (t := .int) (t' := (.object "com/example/admission_by_rate/admissionbyrate/PlaceMarks")) (by decide) (by decide)))
  have F_ints_a_27 : Fld Z h27 a "com/example/admission_by_rate/admissionbyrate/KeyTable" "ints" "[I" (.ref ia) := (F_ints_a_k25).other W27 (Or.inr (slot_ne (Or.inr (hw _ (List.mem_of_getElem? (i := 18) rfl))) (Or.inr (hw _ (List.mem_of_getElem? (i := 33) rfl))) (by decide) (t := (.array .int)) (t' := (.object "com/example/admission_by_rate/admissionbyrate/PlaceMarks")) (by decide) (by decide)))
  have F_base_a_27 : Fld Z h27 a "com/example/admission_by_rate/admissionbyrate/KeyTable" "base" "J" (.long q1) := (F_base_a_k25).other W27 (Or.inr (slot_ne (Or.inr (hw _ (List.mem_of_getElem? (i := 20) rfl))) (Or.inr (hw _ (List.mem_of_getElem? (i := 33) rfl))) (by decide) (t := .long) (t' := (.object "com/example/admission_by_rate/admissionbyrate/PlaceMarks")) (by decide) (by decide)))
  have F_marks_a_27 : Fld Z h27 a "com/example/admission_by_rate/admissionbyrate/KeyTable" "marks" "Lcom/example/admission_by_rate/admissionbyrate/PlaceMarks;" (.ref ma) := (F_marks_a_k25).same W27
  have F_mask_a_27 : Fld Z h27 a "com/example/admission_by_rate/admissionbyrate/KeyTable" "mask" "I" (.int (0 : Int32)) := (F_mask_a_k25).other W27 (Or.inr (slot_ne (Or.inr (hw _ (List.mem_of_getElem? (i := 35) rfl))) (Or.inr (hw _ (List.mem_of_getElem? (i := 33) rfl))) (by decide) (t := .int) (t' := (.object "com/example/admission_by_rate/admissionbyrate/PlaceMarks")) (by decide) (by decide)))
  have F_count_a_27 : Fld Z h27 a "com/example/admission_by_rate/admissionbyrate/KeyTable" "count" "I" (.int (0 : Int32)) := (F_count_a_k25).other W27 (Or.inr (slot_ne (Or.inl (hw _ (List.mem_of_getElem? (i := 61) rfl))) (Or.inr (hw _ (List.mem_of_getElem? (i := 33) rfl))) (by decide) (t := .int) (t' := (.object "com/example/admission_by_rate/admissionbyrate/PlaceMarks")) (by decide) (by decide)))
  have A7 := A6.other W27 (Ne.symm ne1)
  have Em1 := Em25.wr W27
  have Pw1 := Pw25.other W27 (Or.inl (Ne.symm ne3))
  have S29 : Steps p.tables e below Ω (T27.setTop (mkF m 61 #[.val (.ref a), .val (.int p1), .val (.int p2), .val (.int p3), .val (.long q1), .second] [(.int (p2 - (1 : Int32))), (.ref a)])) := by
    refine S28.trans ?_
    refine XS.aloadN X27.here hx rfl (hb hby d2_57) rfl rfl ?_
    show Steps p.tables e below (T27.setTop (mkF m 58 #[.val (.ref a), .val (.int p1), .val (.int p2), .val (.int p3), .val (.long q1), .second] [(.ref a)])) _
    refine XS.iloadN X27.here hx rfl (hb hby d2_58) rfl ?_
    show Steps p.tables e below (T27.setTop (mkF m 59 #[.val (.ref a), .val (.int p1), .val (.int p2), .val (.int p3), .val (.long q1), .second] [(.int p2), (.ref a)])) _
    refine XS.iconst X27.here hx rfl (hb hby d2_59) ?_
    show Steps p.tables e below (T27.setTop (mkF m 60 #[.val (.ref a), .val (.int p1), .val (.int p2), .val (.int p3), .val (.long q1), .second] [(.int (1 : Int32)), (.int p2), (.ref a)])) _
    refine XS.isub X27.here hx rfl (hb hby d2_60) rfl ?_
    exact Steps.refl _
  obtain ⟨T30, h30, X30, e30, W30, st30⟩ := putF X27 hx hZ hown (host := "") (Or.inl (hw _ (List.mem_of_getElem? (i := 34) rfl))) Via.refl e27 F_mask_a_27 E_a_27 (Or.inr ⟨(hw _ (List.mem_of_getElem? (i := 35) rfl)), rfl, hnm⟩) (hw _ (List.mem_of_getElem? (i := 1) rfl)) (ty := .int) (by decide) rfl rfl (g := (mkF m 61 #[.val (.ref a), .val (.int p1), .val (.int p2), .val (.int p3), .val (.long q1), .second] [(.int (p2 - (1 : Int32))), (.ref a)])) rfl rfl (hb hby d2_61)
  have S31 : Steps p.tables e below Ω (T30.setTop (mkF m 64 #[.val (.ref a), .val (.int p1), .val (.int p2), .val (.int p3), .val (.long q1), .second] [])) := S29.trans (st30 _ (Steps.refl _))
  have N30 := Fr.snoc X30 N27 g
  have E_a_30 := (E_a_27).wr W30
  have F_stride_a_30 : Fld Z h30 a "com/example/admission_by_rate/admissionbyrate/KeyTable" "stride" "I" (.int p3) := (F_stride_a_27).other W30 (Or.inr (slot_ne (Or.inr (hw _ (List.mem_of_getElem? (i := 15) rfl))) (Or.inr (hw _ (List.mem_of_getElem? (i := 35) rfl))) (by decide) (t := .int) (t' := .int) (by decide) (by decide)))
  have F_ints_a_30 : Fld Z h30 a "com/example/admission_by_rate/admissionbyrate/KeyTable" "ints" "[I" (.ref ia) := (F_ints_a_27).other W30 (Or.inr (slot_ne (Or.inr (hw _ (List.mem_of_getElem? (i := 18) rfl))) (Or.inr (hw _ (List.mem_of_getElem? (i := 35) rfl))) (by decide) (t := (.array .int)) (t' := .int) (by decide) (by decide)))
  have F_base_a_30 : Fld Z h30 a "com/example/admission_by_rate/admissionbyrate/KeyTable" "base" "J" (.long q1) := (F_base_a_27).other W30 (Or.inr (slot_ne (Or.inr (hw _ (List.mem_of_getElem? (i := 20) rfl))) (Or.inr (hw _ (List.mem_of_getElem? (i := 35) rfl))) (by decide) (t := .long) (t' := .int) (by decide) (by decide)))
  have F_marks_a_30 : Fld Z h30 a "com/example/admission_by_rate/admissionbyrate/KeyTable" "marks" "Lcom/example/admission_by_rate/admissionbyrate/PlaceMarks;" (.ref ma) := (F_marks_a_27).other W30 (Or.inr (slot_ne (Or.inr (hw _ (List.mem_of_getElem? (i := 33) rfl))) (Or.inr (hw _ (List.mem_of_getElem? (i := 35) rfl))) (by decide) (t := (.object "com/example/admission_by_rate/admissionbyrate/PlaceMarks")) (t' := .int) (by decide) (by decide)))
  have F_mask_a_30 : Fld Z h30 a "com/example/admission_by_rate/admissionbyrate/KeyTable" "mask" "I" (.int (p2 - (1 : Int32))) := (F_mask_a_27).same W30
  have F_count_a_30 : Fld Z h30 a "com/example/admission_by_rate/admissionbyrate/KeyTable" "count" "I" (.int (0 : Int32)) := (F_count_a_27).other W30 (Or.inr (slot_ne (Or.inl (hw _ (List.mem_of_getElem? (i := 61) rfl))) (Or.inr (hw _ (List.mem_of_getElem? (i := 35) rfl))) (by decide) (t := .int) (t' := .int) (by decide) (by decide)))
  have A8 := A7.other W30 (Ne.symm ne1)
  have Em2 := Em1.wr W30
  have Pw2 := Pw1.other W30 (Or.inl (Ne.symm ne3))
  obtain ⟨fs, hr, hrun, hended, hW, hsame⟩ := X30.leave (v := none) (fun _ => rfl)
  have hfin : Steps p.tables e below Ω (T30.setFrames fs) := by
    refine S31.trans ?_
    exact X30.returnOut hx Bd.returns (hb hby d2_64) hr
  rw [hΩ] at hfin
  refine ⟨_, _, hfin, hrun, hended, _, _, rfl, ?_, ⟨_, rfl⟩, hW, hsame.mono (by decide) (by decide)⟩
  show Q2 Z a p1 p2 p3 q1 N h0 n0 _ T30.heap _
  rw [e30]
  exact ⟨ia, ma, rfl, N30, (((((Keep.trans (((((((((((((((Keep.refl h0 [a])).wr W5 (Or.inl (List.mem_of_getElem? (i := 0) rfl)))).wr W8 (Or.inl (List.mem_of_getElem? (i := 0) rfl)))).ext E11)).wr W13 (Or.inl (List.mem_of_getElem? (i := 0) rfl)))).wr W16 (Or.inl (List.mem_of_getElem? (i := 0) rfl)))).wr W19 (Or.inl (List.mem_of_getElem? (i := 0) rfl)))).ext E22) K25 (fun x hx => Or.inr (by cases List.mem_singleton.mp hx; exact sm)))).wr W27 (Or.inl (List.mem_of_getElem? (i := 0) rfl)))).wr W30 (Or.inl (List.mem_of_getElem? (i := 0) rfl))), ⟨E_a_30, F_stride_a_30, F_ints_a_30, F_base_a_30, F_marks_a_30, F_mask_a_30, F_count_a_30, A8, Em2, Pw2, ne1, ne2, ne3⟩, si, sm⟩
theorem d1_0 : decode prog_28_method_1_code 0 = .ok (.aload_n 0, 1) := by decide +kernel
theorem d1_1 : decode prog_28_method_1_code 1 = .ok (.iload_n 1, 1) := by decide +kernel
theorem d1_2 : decode prog_28_method_1_code 2 = .ok (.iload_n 2, 1) := by decide +kernel
theorem d1_3 : decode prog_28_method_1_code 3 = .ok (.iload_n 1, 1) := by decide +kernel
theorem d1_4 : decode prog_28_method_1_code 4 = .ok (.ifCond .eq 7, 3) := by decide +kernel
theorem d1_7 : decode prog_28_method_1_code 7 = .ok (.iconst 3, 1) := by decide +kernel
theorem d1_8 : decode prog_28_method_1_code 8 = .ok (.goto 4, 3) := by decide +kernel
theorem d1_12 : decode prog_28_method_1_code 12 = .ok (.lconst 0, 1) := by decide +kernel
theorem pd_5 : parseMethodDescriptor "(ZIIJ)V" = some ⟨[.boolean, .int, .int, .long], none⟩ := by decide +kernel
theorem d1_13 : decode prog_28_method_1_code 13 = .ok (.invokespecial 5, 3) := by decide +kernel
theorem d1_16 : decode prog_28_method_1_code 16 = .ok (.return_, 1) := by decide +kernel
theorem ef_rm1 (m : MethodId) (x0 : Addr) (x1 : Int32) (x2 : Int32) : entryFrame m #[(.ref x0), (.int x1), (.int x2)] 3 = mkF m 0 #[.val (.ref x0), .val (.int x1), .val (.int x2)] [] := by first | (simp [entryFrame, mkF, argsToLocals, Value.category]; done) | rfl
def Q1 (Z : State) (a : Addr) (p1 : Int32) (p2 : Int32) (h0 : Heap) (n0 : Nat) (v : Option Value) (h : Heap) (L : List Loc) : Prop := ∃ ia ma : Addr, v = none ∧ Fr n0 L ∧ Keep h0 h [a] ∧ KT Z h a ia ma (3 : Int32) (0 : Int64) (p2 - (1 : Int32)) (0 : Int32) (List.replicate 6 (0 : Int32)) ∧ h0.size ≤ ia ∧ h0.size ≤ ma
set_option maxRecDepth 65536 in
set_option maxHeartbeats 40000000 in
theorem rm1 (l : Launch) (Z : State) (a0 : Array Value) (hw : ∀ d ∈ tables_1, d.before a0 Z = true) (ws : List Jvm.Cond) (a : Addr) (p1 : Int32) (p2 : Int32) (h0 : Heap) (n0 : Nat) (Z0 : n0 ≤ h0.size) (E0 : Exa Z h0 a "com/example/admission_by_rate/admissionbyrate/KeyTable") (P_inLongs : Fld Z h0 a "com/example/admission_by_rate/admissionbyrate/KeyTable" "inLongs" "Z" (.int (0 : Int32))) (P_stride : Fld Z h0 a "com/example/admission_by_rate/admissionbyrate/KeyTable" "stride" "I" (.int (0 : Int32))) (P_ints : Fld Z h0 a "com/example/admission_by_rate/admissionbyrate/KeyTable" "ints" "[I" .null) (P_base : Fld Z h0 a "com/example/admission_by_rate/admissionbyrate/KeyTable" "base" "J" (.long (0 : Int64))) (P_objects : Fld Z h0 a "com/example/admission_by_rate/admissionbyrate/KeyTable" "objects" "[Ljava/lang/Object;" .null) (P_marks : Fld Z h0 a "com/example/admission_by_rate/admissionbyrate/KeyTable" "marks" "Lcom/example/admission_by_rate/admissionbyrate/PlaceMarks;" .null) (P_mask : Fld Z h0 a "com/example/admission_by_rate/admissionbyrate/KeyTable" "mask" "I" (.int (0 : Int32))) (P_count : Fld Z h0 a "com/example/admission_by_rate/admissionbyrate/KeyTable" "count" "I" (.int (0 : Int32))) (g : n0 ≤ a) (pe1 : ¬ p1 = (0 : Int32)) (pe2 : p2 = (2 : Int32)) :
    MetFree l (⟨"com/example/admission_by_rate/admissionbyrate/KeyTable", "<init>", "(ZI)V"⟩ : MethodName) (head1 (Jvm.Cond.code (⟨"com/example/admission_by_rate/admissionbyrate/KeyTable", "<init>", "(ZI)V"⟩ : MethodName) prog_28_method_1_code 3 none :: ws) ({ frames := 3, cells := 2, slots := 10, locals := 44 } : Room)) (fun aa U => aa = #[(.ref a), (.int p1), (.int p2)] ∧ Z.Warmed39 U.vm ∧ U.heap = h0) (fun _ _ _ _ _ => True) (fun _ U o U' => ∃ v L, o = .returned v ∧ Q1 Z a p1 p2 h0 n0 v U'.heap L ∧ FrameEnd U o U' L ({ frames := 3, cells := 2, slots := 10, locals := 44 } : Room).cells ({ frames := 3, cells := 2, slots := 10, locals := 44 } : Room).slots) := by
  refine MetFree.of_bodySF (plainFor_of_name pn_0) hisR ?_
  intro p e s m args below meth c s₁ Bd hml0 hP hK
  obtain ⟨rfl, hZ, hh⟩ := hP
  have hx := Bd.exec
  have hby := Bd.bytes
  have hml : c.maxLocals = 3 := hml0
  have hown : s.vm.findClass "com/example/admission_by_rate/admissionbyrate/KeyTable" = some m.cls := findClass_of_methodNamed Bd.named
  have hnm := (name_of_methodNamed Bd.named Bd.method).1
  have X0 : Stand p l e ({ frames := 3, cells := 2, slots := 10, locals := 44 } : Room) s m #[(.ref a), (.int p1), (.int p2)] below meth c s₁ [] 0 0 := Stand.of_body Bd
  have e0 : s₁.heap = h0 := by rw [← hh, Bd.state]; rfl
  have N0 := Fr.nil n0
  obtain ⟨Ω, hΩ⟩ : ∃ z, z = s₁.setTop (entryFrame m #[(.ref a), (.int p1), (.int p2)] 3) := ⟨_, rfl⟩
  have S0 : Steps p.tables e below Ω (s₁.setTop (mkF m 0 #[.val (.ref a), .val (.int p1), .val (.int p2)] [])) := by rw [hΩ]; exact castTop (ef_rm1 m a p1 p2) (Steps.refl _)
  have S1 : Steps p.tables e below Ω (s₁.setTop (mkF m 13 #[.val (.ref a), .val (.int p1), .val (.int p2)] [(.long (0 : Int64)), (.int (3 : Int32)), (.int p2), (.int p1), (.ref a)])) := by
    refine S0.trans ?_
    refine XS.aloadN X0.here hx rfl (hb hby d1_0) rfl rfl ?_
    show Steps p.tables e below (s₁.setTop (mkF m 1 #[.val (.ref a), .val (.int p1), .val (.int p2)] [(.ref a)])) _
    refine XS.iloadN X0.here hx rfl (hb hby d1_1) rfl ?_
    show Steps p.tables e below (s₁.setTop (mkF m 2 #[.val (.ref a), .val (.int p1), .val (.int p2)] [(.int p1), (.ref a)])) _
    refine XS.iloadN X0.here hx rfl (hb hby d1_2) rfl ?_
    show Steps p.tables e below (s₁.setTop (mkF m 3 #[.val (.ref a), .val (.int p1), .val (.int p2)] [(.int p2), (.int p1), (.ref a)])) _
    refine XS.iloadN X0.here hx rfl (hb hby d1_3) rfl ?_
    show Steps p.tables e below (s₁.setTop (mkF m 4 #[.val (.ref a), .val (.int p1), .val (.int p2)] [(.int p1), (.int p2), (.int p1), (.ref a)])) _
    refine XS.ifNo X0.here hx rfl (hb hby d1_4) rfl (XT.i0_eq_f pe1) ?_
    show Steps p.tables e below (s₁.setTop (mkF m 7 #[.val (.ref a), .val (.int p1), .val (.int p2)] [(.int p2), (.int p1), (.ref a)])) _
    refine XS.iconst X0.here hx rfl (hb hby d1_7) ?_
    show Steps p.tables e below (s₁.setTop (mkF m 8 #[.val (.ref a), .val (.int p1), .val (.int p2)] [(.int (3 : Int32)), (.int p2), (.int p1), (.ref a)])) _
    refine XS.goto X0.here hx rfl (pc0 := 8) (pc' := 12) rfl (hb hby d1_8) (by decide) (by decide) ?_
    show Steps p.tables e below (s₁.setTop (mkF m 12 #[.val (.ref a), .val (.int p1), .val (.int p2)] [(.int (3 : Int32)), (.int p2), (.int p1), (.ref a)])) _
    refine XS.lconst X0.here hx rfl (hb hby d1_12) ?_
    exact Steps.refl _
  obtain ⟨_, _, ⟨T2, L2, k2, n2⟩, -, X2, ⟨Lc2, hQ2, l2, y2, z2⟩, st2⟩ := X0.specialBack hx (y := (⟨"com/example/admission_by_rate/admissionbyrate/KeyTable", "<init>", "(ZIIJ)V"⟩ : MethodName)) rfl hown (mvT hZ (hw _ (List.mem_of_getElem? (i := 6) rfl))) (mvT hZ (hw _ (List.mem_of_getElem? (i := 7) rfl))) (mvT hZ (hw _ (List.mem_of_getElem? (i := 8) rfl))) (by decide) (backOf (W := 0) (rm2 l Z a0 hw [] a p1 p2 (3 : Int32) (0 : Int64) 6 h0 n0 Z0 E0 P_inLongs P_stride P_ints P_base P_objects P_marks P_mask P_count g pe1 (by rw [pe2]; decide) (by rw [pe2]; decide) (by decide)) hZ (hw _ (List.mem_of_getElem? (i := 8) rfl)) (hw _ (List.mem_of_getElem? (i := 2) rfl)) (by decide) (by decide)) (g := (mkF m 13 #[.val (.ref a), .val (.int p1), .val (.int p2)] [(.long (0 : Int64)), (.int (3 : Int32)), (.int p2), (.int p1), (.ref a)])) rfl (by rw [hml]; rfl) (Steps.refl _) (a := a) (argsL := [(.int p1), (.int p2), (.int (3 : Int32)), (.long (0 : Int64))]) (rest := []) (lenOf pd_5 rfl) rfl (by show 2 * 0 + _ ≤ _; exact Nat.le_of_eq rfl) (hb hby d1_13) (fun _ _ => ⟨rfl, e0, (by decide : 0 + 2 ≤ _), (by decide : 0 + 10 ≤ _)⟩)
  dsimp only [Pt.U, Pt.locs, Pt.cells, Pt.slots] at X2 l2 y2 z2 st2 hQ2
  subst l2 y2 z2
  obtain ⟨ia, ma, rfl, N2q, K2, KT1, si, sm⟩ := hQ2
  have N2 := Fr.app N0 N2q
  have S3 : Steps p.tables e below Ω (T2.setTop (mkF m 16 #[.val (.ref a), .val (.int p1), .val (.int p2)] [])) := S1.trans st2
  obtain ⟨fs, hr, hrun, hended, hW, hsame⟩ := X2.leave (v := none) (fun _ => rfl)
  have hfin : Steps p.tables e below Ω (T2.setFrames fs) := by
    refine S3.trans ?_
    exact X2.returnOut hx Bd.returns (hb hby d1_16) hr
  rw [hΩ] at hfin
  refine ⟨_, _, hfin, hrun, hended, _, _, rfl, ?_, ⟨_, rfl⟩, hW, hsame.mono (by decide) (by decide)⟩
  show Q1 Z a p1 p2 h0 n0 _ T2.heap _
  exact ⟨ia, ma, rfl, N2, K2, KT1, si, sm⟩
theorem d14_0 : decode prog_28_method_21_code 0 = .ok (.new 3, 3) := by decide +kernel
theorem d14_3 : decode prog_28_method_21_code 3 = .ok (.dup, 1) := by decide +kernel
theorem d14_4 : decode prog_28_method_21_code 4 = .ok (.iconst 1, 1) := by decide +kernel
theorem d14_5 : decode prog_28_method_21_code 5 = .ok (.aload_n 0, 1) := by decide +kernel
theorem pd_6 : parseMethodDescriptor "()I" = some ⟨[], some .int⟩ := by decide +kernel
theorem d14_6 : decode prog_28_method_21_code 6 = .ok (.invokevirtual 135, 3) := by decide +kernel
theorem d14_9 : decode prog_28_method_21_code 9 = .ok (.iload_n 1, 1) := by decide +kernel
theorem d14_10 : decode prog_28_method_21_code 10 = .ok (.lload_n 2, 1) := by decide +kernel
theorem d14_11 : decode prog_28_method_21_code 11 = .ok (.invokespecial 5, 3) := by decide +kernel
theorem d14_14 : decode prog_28_method_21_code 14 = .ok (.astore 5, 2) := by decide +kernel
theorem d14_16 : decode prog_28_method_21_code 16 = .ok (.iconst 0, 1) := by decide +kernel
theorem d14_17 : decode prog_28_method_21_code 17 = .ok (.istore 6, 2) := by decide +kernel
theorem d14_19 : decode prog_28_method_21_code 19 = .ok (.iload 6, 2) := by decide +kernel
theorem d14_21 : decode prog_28_method_21_code 21 = .ok (.aload_n 0, 1) := by decide +kernel
theorem d14_22 : decode prog_28_method_21_code 22 = .ok (.getfield 43, 3) := by decide +kernel
theorem d14_25 : decode prog_28_method_21_code 25 = .ok (.if_icmp .gt 74, 3) := by decide +kernel
theorem d14_28 : decode prog_28_method_21_code 28 = .ok (.aload_n 0, 1) := by decide +kernel
theorem d14_29 : decode prog_28_method_21_code 29 = .ok (.iload 6, 2) := by decide +kernel
theorem d14_31 : decode prog_28_method_21_code 31 = .ok (.invokevirtual 87, 3) := by decide +kernel
theorem d14_34 : decode prog_28_method_21_code 34 = .ok (.lstore 7, 2) := by decide +kernel
theorem d14_36 : decode prog_28_method_21_code 36 = .ok (.lload 7, 2) := by decide +kernel
theorem d14_38 : decode prog_28_method_21_code 38 = .ok (.lconst 0, 1) := by decide +kernel
theorem d14_39 : decode prog_28_method_21_code 39 = .ok (.lcmp, 1) := by decide +kernel
theorem d14_40 : decode prog_28_method_21_code 40 = .ok (.ifCond .eq 53, 3) := by decide +kernel
theorem d14_43 : decode prog_28_method_21_code 43 = .ok (.aload 5, 2) := by decide +kernel
theorem d14_45 : decode prog_28_method_21_code 45 = .ok (.iload 6, 2) := by decide +kernel
theorem d14_47 : decode prog_28_method_21_code 47 = .ok (.iload_n 1, 1) := by decide +kernel
theorem d14_48 : decode prog_28_method_21_code 48 = .ok (.imul, 1) := by decide +kernel
theorem d14_49 : decode prog_28_method_21_code 49 = .ok (.lload 7, 2) := by decide +kernel
theorem d14_51 : decode prog_28_method_21_code 51 = .ok (.invokevirtual 62, 3) := by decide +kernel
theorem d14_54 : decode prog_28_method_21_code 54 = .ok (.iload 6, 2) := by decide +kernel
theorem d14_56 : decode prog_28_method_21_code 56 = .ok (.iload 4, 2) := by decide +kernel
theorem d14_58 : decode prog_28_method_21_code 58 = .ok (.if_icmp .eq 16, 3) := by decide +kernel
theorem d14_74 : decode prog_28_method_21_code 74 = .ok (.aload 5, 2) := by decide +kernel
theorem d14_76 : decode prog_28_method_21_code 76 = .ok (.getfield 39, 3) := by decide +kernel
theorem d14_79 : decode prog_28_method_21_code 79 = .ok (.iload 6, 2) := by decide +kernel
theorem d14_81 : decode prog_28_method_21_code 81 = .ok (.aload_n 0, 1) := by decide +kernel
theorem d14_82 : decode prog_28_method_21_code 82 = .ok (.getfield 39, 3) := by decide +kernel
theorem d14_85 : decode prog_28_method_21_code 85 = .ok (.iload 6, 2) := by decide +kernel
theorem pd_7 : parseMethodDescriptor "(I)I" = some ⟨[.int], some .int⟩ := by decide +kernel
theorem d14_87 : decode prog_28_method_21_code 87 = .ok (.invokevirtual 79, 3) := by decide +kernel
theorem d14_90 : decode prog_28_method_21_code 90 = .ok (.invokevirtual 83, 3) := by decide +kernel
theorem d14_93 : decode prog_28_method_21_code 93 = .ok (.iinc 6 1, 3) := by decide +kernel
theorem d14_96 : decode prog_28_method_21_code 96 = .ok (.goto (-77), 3) := by decide +kernel
theorem d14_99 : decode prog_28_method_21_code 99 = .ok (.aload 5, 2) := by decide +kernel
theorem d14_101 : decode prog_28_method_21_code 101 = .ok (.aload_n 0, 1) := by decide +kernel
theorem d14_102 : decode prog_28_method_21_code 102 = .ok (.getfield 46, 3) := by decide +kernel
theorem d14_105 : decode prog_28_method_21_code 105 = .ok (.putfield 46, 3) := by decide +kernel
theorem d14_108 : decode prog_28_method_21_code 108 = .ok (.aload 5, 2) := by decide +kernel
theorem d14_110 : decode prog_28_method_21_code 110 = .ok (.areturn, 1) := by decide +kernel
theorem ef_rm14a (m : MethodId) (x0 : Addr) (x1 : Int32) (x2 : Int64) (x3 : Int32) : entryFrame m #[(.ref x0), (.int x1), (.long x2), (.int x3)] 9 = mkF m 0 #[.val (.ref x0), .val (.int x1), .val (.long x2), .second, .val (.int x3), .unset, .unset, .unset, .unset] [] := by first | (simp [entryFrame, mkF, argsToLocals, Value.category]; done) | rfl
def Q14a (Z : State) (a : Addr) (p1 : Int32) (q1 : Int64) (p2 : Int32) (ia : Addr) (ma : Addr) (h0 : Heap) (n0 : Nat) (v : Option Value) (h : Heap) (L : List Loc) : Prop := ∃ b ib mb : Addr, v = some (.ref b) ∧ Fr n0 L ∧ Keep h0 h [] ∧ KT Z h b ib mb (3 : Int32) q1 (1 : Int32) (1 : Int32) [(0 : Int32), (1 : Int32), (0 : Int32), (0 : Int32), (0 : Int32), (0 : Int32)] ∧ h0.size ≤ b ∧ h0.size ≤ ib ∧ h0.size ≤ mb
set_option maxRecDepth 65536 in
set_option maxHeartbeats 40000000 in
theorem rm14a (l : Launch) (Z : State) (a0 : Array Value) (hw : ∀ d ∈ tables_1, d.before a0 Z = true) (ws : List Jvm.Cond) (a : Addr) (p1 : Int32) (q1 : Int64) (p2 : Int32) (ia : Addr) (ma : Addr) (h0 : Heap) (n0 : Nat) (Z0 : n0 ≤ h0.size) (KT0 : KT Z h0 a ia ma (3 : Int32) (0 : Int64) (1 : Int32) (1 : Int32) [(0 : Int32), (1 : Int32), (0 : Int32), (0 : Int32), (0 : Int32), (0 : Int32)]) (pe1 : p1 = (3 : Int32)) (pe2 : p2 = (0 : Int32)) :
    MetFree l (⟨"com/example/admission_by_rate/admissionbyrate/KeyTable", "laidOut", "(IJI)Lcom/example/admission_by_rate/admissionbyrate/KeyTable;"⟩ : MethodName) (head1 (Jvm.Cond.code (⟨"com/example/admission_by_rate/admissionbyrate/KeyTable", "laidOut", "(IJI)Lcom/example/admission_by_rate/admissionbyrate/KeyTable;"⟩ : MethodName) prog_28_method_21_code 9 (some (.object "com/example/admission_by_rate/admissionbyrate/KeyTable")) :: ws) ({ frames := 3, cells := 3, slots := 18, locals := 45 } : Room)) (fun aa U => aa = #[(.ref a), (.int p1), (.long q1), (.int p2)] ∧ Z.Warmed39 U.vm ∧ U.heap = h0) (fun _ _ _ _ _ => True) (fun _ U o U' => ∃ v L, o = .returned v ∧ Q14a Z a (3 : Int32) q1 (0 : Int32) ia ma h0 n0 v U'.heap L ∧ FrameEnd U o U' L ({ frames := 3, cells := 3, slots := 18, locals := 45 } : Room).cells ({ frames := 3, cells := 3, slots := 18, locals := 45 } : Room).slots) := by
  refine MetFree.of_bodySF (plainFor_of_name pn_0) hisR ?_
  intro p e s m args below meth c s₁ Bd hml0 hP hK
  obtain ⟨rfl, hZ, hh⟩ := hP
  have hx := Bd.exec
  have hby := Bd.bytes
  have hml : c.maxLocals = 9 := hml0
  have hown : s.vm.findClass "com/example/admission_by_rate/admissionbyrate/KeyTable" = some m.cls := findClass_of_methodNamed Bd.named
  have hnm := (name_of_methodNamed Bd.named Bd.method).1
  have X0 : Stand p l e ({ frames := 3, cells := 3, slots := 18, locals := 45 } : Room) s m #[(.ref a), (.int p1), (.long q1), (.int p2)] below meth c s₁ [] 0 0 := Stand.of_body Bd
  have e0 : s₁.heap = h0 := by rw [← hh, Bd.state]; rfl
  have N0 := Fr.nil n0
  obtain ⟨Ω, hΩ⟩ : ∃ z, z = s₁.setTop (entryFrame m #[(.ref a), (.int p1), (.long q1), (.int p2)] 9) := ⟨_, rfl⟩
  have S0 : Steps p.tables e below Ω (s₁.setTop (mkF m 0 #[.val (.ref a), .val (.int p1), .val (.long q1), .second, .val (.int p2), .unset, .unset, .unset, .unset] [])) := by rw [hΩ]; exact castTop (ef_rm14a m a p1 q1 p2) (Steps.refl _)
  subst pe1 pe2
  have KTs := KT0
  obtain ⟨E0, Pst, Pin, Pbs, Pma, Pmk, Pcn, A0, Em, Pw, ne1, ne2, ne3⟩ := KT0
  have lts := KTs.lt1
  obtain ⟨T1, h1, X1, e1, E1, A1, D1, -, st1⟩ := newO X0 hx hZ hown (hw _ (List.mem_of_getElem? (i := 89) rfl)) (hw _ (List.mem_of_getElem? (i := 1) rfl)) (hw _ (List.mem_of_getElem? (i := 2) rfl)) e0 (g := (mkF m 0 #[.val (.ref a), .val (.int (3 : Int32)), .val (.long q1), .second, .val (.int (0 : Int32)), .unset, .unset, .unset, .unset] [])) rfl (hb hby d14_0) (by decide) (by decide)
  obtain ⟨b, s_b⟩ : ∃ z, z = h0.size := ⟨_, rfl⟩
  rw [← s_b] at A1 D1 st1
  have g_b : n0 ≤ b := Nat.le_trans Z0 (Nat.le_of_eq s_b.symm)
  have F_inLongs_b : Fld Z h1 b "com/example/admission_by_rate/admissionbyrate/KeyTable" "inLongs" "Z" (.int (0 : Int32)) := D1 (Or.inr (hw _ (List.mem_of_getElem? (i := 13) rfl))) (ty := .boolean) (by decide)
  have F_stride_b : Fld Z h1 b "com/example/admission_by_rate/admissionbyrate/KeyTable" "stride" "I" (.int (0 : Int32)) := D1 (Or.inr (hw _ (List.mem_of_getElem? (i := 15) rfl))) (ty := .int) (by decide)
  have F_ints_b : Fld Z h1 b "com/example/admission_by_rate/admissionbyrate/KeyTable" "ints" "[I" .null := D1 (Or.inr (hw _ (List.mem_of_getElem? (i := 18) rfl))) (ty := (.array .int)) (by decide)
  have F_base_b : Fld Z h1 b "com/example/admission_by_rate/admissionbyrate/KeyTable" "base" "J" (.long (0 : Int64)) := D1 (Or.inr (hw _ (List.mem_of_getElem? (i := 20) rfl))) (ty := .long) (by decide)
  have F_objects_b : Fld Z h1 b "com/example/admission_by_rate/admissionbyrate/KeyTable" "objects" "[Ljava/lang/Object;" .null := D1 (Or.inr (hw _ (List.mem_of_getElem? (i := 22) rfl))) (ty := (.array (.object "java/lang/Object"))) (by decide)
  have F_marks_b : Fld Z h1 b "com/example/admission_by_rate/admissionbyrate/KeyTable" "marks" "Lcom/example/admission_by_rate/admissionbyrate/PlaceMarks;" .null := D1 (Or.inr (hw _ (List.mem_of_getElem? (i := 33) rfl))) (ty := (.object "com/example/admission_by_rate/admissionbyrate/PlaceMarks")) (by decide)
  have F_mask_b : Fld Z h1 b "com/example/admission_by_rate/admissionbyrate/KeyTable" "mask" "I" (.int (0 : Int32)) := D1 (Or.inr (hw _ (List.mem_of_getElem? (i := 35) rfl))) (ty := .int) (by decide)
  have F_count_b : Fld Z h1 b "com/example/admission_by_rate/admissionbyrate/KeyTable" "count" "I" (.int (0 : Int32)) := D1 (Or.inl (hw _ (List.mem_of_getElem? (i := 61) rfl))) (ty := .int) (by decide)
  have S2 : Steps p.tables e below Ω (T1.setTop (mkF m 3 #[.val (.ref a), .val (.int (3 : Int32)), .val (.long q1), .second, .val (.int (0 : Int32)), .unset, .unset, .unset, .unset] [(.ref b)])) := S0.trans (st1 _ (Steps.refl _))
  have sb : h0.size ≤ b := Nat.le_of_eq s_b.symm
  have KTe : KT Z h1 a ia ma (3 : Int32) (0 : Int64) (1 : Int32) (1 : Int32) [(0 : Int32), (1 : Int32), (0 : Int32), (0 : Int32), (0 : Int32), (0 : Int32)] := KTs.keep ((Keep.refl h0 []).ext E1) nin0 nin0 nin0
  have S3 : Steps p.tables e below Ω (T1.setTop (mkF m 6 #[.val (.ref a), .val (.int (3 : Int32)), .val (.long q1), .second, .val (.int (0 : Int32)), .unset, .unset, .unset, .unset] [(.ref a), (.int (1 : Int32)), (.ref b), (.ref b)])) := by
    refine S2.trans ?_
    refine XS.dup X1.here hx rfl (hb hby d14_3) rfl rfl ?_
    show Steps p.tables e below (T1.setTop (mkF m 4 #[.val (.ref a), .val (.int (3 : Int32)), .val (.long q1), .second, .val (.int (0 : Int32)), .unset, .unset, .unset, .unset] [(.ref b), (.ref b)])) _
    refine XS.iconst X1.here hx rfl (hb hby d14_4) ?_
    show Steps p.tables e below (T1.setTop (mkF m 5 #[.val (.ref a), .val (.int (3 : Int32)), .val (.long q1), .second, .val (.int (0 : Int32)), .unset, .unset, .unset, .unset] [(.int (1 : Int32)), (.ref b), (.ref b)])) _
    refine XS.aloadN X1.here hx rfl (hb hby d14_5) rfl rfl ?_
    exact Steps.refl _
  obtain ⟨cq4, kq4, q4a, q4b, q4c⟩ := isOf hZ e1 KTe.1
  obtain ⟨_, _, ⟨T4, L4, k4, n4⟩, -, X4, ⟨Lc4, hQ4, l4, y4, z4⟩, st4⟩ := X1.virtualBack hx (y := (⟨"com/example/admission_by_rate/admissionbyrate/KeyTable", "places", "()I"⟩ : MethodName)) (z := (⟨"com/example/admission_by_rate/admissionbyrate/KeyTable", "places", "()I"⟩ : MethodName)) hown (mvT hZ (hw _ (List.mem_of_getElem? (i := 90) rfl))) (mvT hZ (hw _ (List.mem_of_getElem? (i := 91) rfl))) (notFace_of_selects (args := #[]) (mvT hZ (hw _ (List.mem_of_getElem? (i := 93) rfl)))) (mvT hZ (hw _ (List.mem_of_getElem? (i := 93) rfl))) (mvT hZ (hw _ (List.mem_of_getElem? (i := 92) rfl))) (by decide) (backOf (W := 3) (rm15 l Z a0 hw [] a ia ma (3 : Int32) (0 : Int64) (1 : Int32) (1 : Int32) [(0 : Int32), (1 : Int32), (0 : Int32), (0 : Int32), (0 : Int32), (0 : Int32)] h1 n0 (Nat.le_trans Z0 E1.1) KTe) hZ (hw _ (List.mem_of_getElem? (i := 94) rfl)) (hw _ (List.mem_of_getElem? (i := 2) rfl)) (by decide) (by decide)) q4a q4c (g := (mkF m 6 #[.val (.ref a), .val (.int (3 : Int32)), .val (.long q1), .second, .val (.int (0 : Int32)), .unset, .unset, .unset, .unset] [(.ref a), (.int (1 : Int32)), (.ref b), (.ref b)])) rfl (by rw [hml]; rfl) (Steps.refl _) (argsL := []) (rest := [(.int (1 : Int32)), (.ref b), (.ref b)]) (lenOf pd_6 rfl) rfl (by show 2 * 0 + _ ≤ _; exact Nat.le_of_eq rfl) (hb hby d14_6) (fun _ _ => ⟨rfl, e1, (by decide : 1 + 0 ≤ _), (by decide : 8 + 0 ≤ _)⟩)
  dsimp only [Pt.U, Pt.locs, Pt.cells, Pt.slots] at X4 l4 y4 z4 st4 hQ4
  subst l4 y4 z4
  obtain ⟨rfl, N4q, e4⟩ := hQ4
  have N4 := Fr.app N0 N4q
  have S5 : Steps p.tables e below Ω (T4.setTop (mkF m 9 #[.val (.ref a), .val (.int (3 : Int32)), .val (.long q1), .second, .val (.int (0 : Int32)), .unset, .unset, .unset, .unset] [(.int ((1 : Int32) + (1 : Int32))), (.int (1 : Int32)), (.ref b), (.ref b)])) := S3.trans st4
  rw [(by decide : ((1 : Int32) + (1 : Int32)) = (2 : Int32))] at S5
  have S6 : Steps p.tables e below Ω (T4.setTop (mkF m 11 #[.val (.ref a), .val (.int (3 : Int32)), .val (.long q1), .second, .val (.int (0 : Int32)), .unset, .unset, .unset, .unset] [(.long q1), (.int (3 : Int32)), (.int (2 : Int32)), (.int (1 : Int32)), (.ref b), (.ref b)])) := by
    refine S5.trans ?_
    refine XS.iloadN X4.here hx rfl (hb hby d14_9) rfl ?_
    show Steps p.tables e below (T4.setTop (mkF m 10 #[.val (.ref a), .val (.int (3 : Int32)), .val (.long q1), .second, .val (.int (0 : Int32)), .unset, .unset, .unset, .unset] [(.int (3 : Int32)), (.int (2 : Int32)), (.int (1 : Int32)), (.ref b), (.ref b)])) _
    refine XS.lloadN X4.here hx rfl (hb hby d14_10) rfl ?_
    exact Steps.refl _
  obtain ⟨_, _, ⟨T7, L7, k7, n7⟩, -, X7, ⟨Lc7, hQ7, l7, y7, z7⟩, st7⟩ := X4.specialBack hx (y := (⟨"com/example/admission_by_rate/admissionbyrate/KeyTable", "<init>", "(ZIIJ)V"⟩ : MethodName)) rfl hown (mvT hZ (hw _ (List.mem_of_getElem? (i := 6) rfl))) (mvT hZ (hw _ (List.mem_of_getElem? (i := 7) rfl))) (mvT hZ (hw _ (List.mem_of_getElem? (i := 8) rfl))) (by decide) (backOf (W := 1) (rm2 l Z a0 hw [] b (1 : Int32) (2 : Int32) (3 : Int32) q1 6 h1 n0 (Nat.le_trans Z0 E1.1) A1 F_inLongs_b F_stride_b F_ints_b F_base_b F_objects_b F_marks_b F_mask_b F_count_b g_b (by decide) (by decide) (by decide) (by decide)) hZ (hw _ (List.mem_of_getElem? (i := 8) rfl)) (hw _ (List.mem_of_getElem? (i := 2) rfl)) (by decide) (by decide)) (g := (mkF m 11 #[.val (.ref a), .val (.int (3 : Int32)), .val (.long q1), .second, .val (.int (0 : Int32)), .unset, .unset, .unset, .unset] [(.long q1), (.int (3 : Int32)), (.int (2 : Int32)), (.int (1 : Int32)), (.ref b), (.ref b)])) rfl (by rw [hml]; rfl) (Steps.refl _) (a := b) (argsL := [(.int (1 : Int32)), (.int (2 : Int32)), (.int (3 : Int32)), (.long q1)]) (rest := [(.ref b)]) (lenOf pd_5 rfl) rfl (by show 2 * 0 + _ ≤ _; exact Nat.le_of_eq rfl) (hb hby d14_11) (fun _ _ => ⟨rfl, e4, (by decide : 1 + 2 ≤ _), (by decide : 8 + 10 ≤ _)⟩)
  dsimp only [Pt.U, Pt.locs, Pt.cells, Pt.slots] at X7 l7 y7 z7 st7 hQ7
  subst l7 y7 z7
  obtain ⟨ib, mb, rfl, N7q, K7, KB0, sib, smb⟩ := hQ7
  have N7 := Fr.app N4 N7q
  have S8 : Steps p.tables e below Ω (T7.setTop (mkF m 14 #[.val (.ref a), .val (.int (3 : Int32)), .val (.long q1), .second, .val (.int (0 : Int32)), .unset, .unset, .unset, .unset] [(.ref b)])) := S6.trans st7
  have K0 : Keep h0 T7.heap [] := ((Keep.refl h0 []).ext E1).trans K7 (fun x hx => Or.inr (by cases List.mem_singleton.mp hx; exact sb))
  have gb := Nat.le_trans Z0 sb
  have hib : h0.size ≤ ib := Nat.le_trans E1.1 sib
  have hmb : h0.size ≤ mb := Nat.le_trans E1.1 smb
  have gib := Nat.le_trans Z0 hib
  have xa : a ∉ [ib] := ninS (Nat.ne_of_lt (Nat.lt_of_lt_of_le lts.1 hib)) nin0
  have xi : ia ∉ [ib] := ninS (Nat.ne_of_lt (Nat.lt_of_lt_of_le lts.2.1 hib)) nin0
  have xm : ma ∉ [ib] := ninS (Nat.ne_of_lt (Nat.lt_of_lt_of_le lts.2.2 hib)) nin0
  have KTo0 : KT Z T7.heap a ia ma (3 : Int32) (0 : Int64) (1 : Int32) (1 : Int32) [(0 : Int32), (1 : Int32), (0 : Int32), (0 : Int32), (0 : Int32), (0 : Int32)] := KTs.keep K0 nin0 nin0 nin0
  have S9 : Steps p.tables e below Ω (T7.setTop (mkF m 22 #[.val (.ref a), .val (.int (3 : Int32)), .val (.long q1), .second, .val (.int (0 : Int32)), .val (.ref b), .val (.int (0 : Int32)), .unset, .unset] [(.ref a), (.int (0 : Int32))])) := by
    refine S8.trans ?_
    refine XS.astore X7.here hx rfl (hb hby d14_14) rfl rfl (l' := #[.val (.ref a), .val (.int (3 : Int32)), .val (.long q1), .second, .val (.int (0 : Int32)), .val (.ref b), .unset, .unset, .unset]) rfl ?_
    show Steps p.tables e below (T7.setTop (mkF m 16 #[.val (.ref a), .val (.int (3 : Int32)), .val (.long q1), .second, .val (.int (0 : Int32)), .val (.ref b), .unset, .unset, .unset] [])) _
    refine XS.iconst X7.here hx rfl (hb hby d14_16) ?_
    show Steps p.tables e below (T7.setTop (mkF m 17 #[.val (.ref a), .val (.int (3 : Int32)), .val (.long q1), .second, .val (.int (0 : Int32)), .val (.ref b), .unset, .unset, .unset] [(.int (0 : Int32))])) _
    refine XS.istore X7.here hx rfl (hb hby d14_17) rfl (l' := #[.val (.ref a), .val (.int (3 : Int32)), .val (.long q1), .second, .val (.int (0 : Int32)), .val (.ref b), .val (.int (0 : Int32)), .unset, .unset]) rfl ?_
    show Steps p.tables e below (T7.setTop (mkF m 19 #[.val (.ref a), .val (.int (3 : Int32)), .val (.long q1), .second, .val (.int (0 : Int32)), .val (.ref b), .val (.int (0 : Int32)), .unset, .unset] [])) _
    refine XS.iload X7.here hx rfl (hb hby d14_19) rfl ?_
    show Steps p.tables e below (T7.setTop (mkF m 21 #[.val (.ref a), .val (.int (3 : Int32)), .val (.long q1), .second, .val (.int (0 : Int32)), .val (.ref b), .val (.int (0 : Int32)), .unset, .unset] [(.int (0 : Int32))])) _
    refine XS.aloadN X7.here hx rfl (hb hby d14_21) rfl rfl ?_
    exact Steps.refl _
  obtain ⟨E0_0, Pst_0, Pin_0, Pbs_0, Pma_0, Pmk_0, Pcn_0, A0_0, Em_0, Pw_0, -, -, -⟩ := (id KTo0)
  obtain ⟨T10, X10, e10, st10⟩ := getF X7 hx hZ hown (host := "") (Or.inl (hw _ (List.mem_of_getElem? (i := 34) rfl))) Via.refl rfl Pmk_0 (g := (mkF m 22 #[.val (.ref a), .val (.int (3 : Int32)), .val (.long q1), .second, .val (.int (0 : Int32)), .val (.ref b), .val (.int (0 : Int32)), .unset, .unset] [(.ref a), (.int (0 : Int32))])) rfl rfl (hb hby d14_22)
  have S11 : Steps p.tables e below Ω (T10.setTop (mkF m 25 #[.val (.ref a), .val (.int (3 : Int32)), .val (.long q1), .second, .val (.int (0 : Int32)), .val (.ref b), .val (.int (0 : Int32)), .unset, .unset] [(.int (1 : Int32)), (.int (0 : Int32))])) := S9.trans (st10 _ (Steps.refl _))
  have S12 : Steps p.tables e below Ω (T10.setTop (mkF m 31 #[.val (.ref a), .val (.int (3 : Int32)), .val (.long q1), .second, .val (.int (0 : Int32)), .val (.ref b), .val (.int (0 : Int32)), .unset, .unset] [(.int (0 : Int32)), (.ref a)])) := by
    refine S11.trans ?_
    refine XS.icmpNo X10.here hx rfl (hb hby d14_25) rfl (XT.ii_gt_f (by decide)) ?_
    show Steps p.tables e below (T10.setTop (mkF m 28 #[.val (.ref a), .val (.int (3 : Int32)), .val (.long q1), .second, .val (.int (0 : Int32)), .val (.ref b), .val (.int (0 : Int32)), .unset, .unset] [])) _
    refine XS.aloadN X10.here hx rfl (hb hby d14_28) rfl rfl ?_
    show Steps p.tables e below (T10.setTop (mkF m 29 #[.val (.ref a), .val (.int (3 : Int32)), .val (.long q1), .second, .val (.int (0 : Int32)), .val (.ref b), .val (.int (0 : Int32)), .unset, .unset] [(.ref a)])) _
    refine XS.iload X10.here hx rfl (hb hby d14_29) rfl ?_
    exact Steps.refl _
  obtain ⟨cq13, kq13, q13a, q13b, q13c⟩ := isOf hZ e10 KTo0.1
  obtain ⟨_, _, ⟨T13, L13, k13, n13⟩, -, X13, ⟨Lc13, hQ13, l13, y13, z13⟩, st13⟩ := X10.virtualBack hx (y := (⟨"com/example/admission_by_rate/admissionbyrate/KeyTable", "digestAt", "(I)J"⟩ : MethodName)) (z := (⟨"com/example/admission_by_rate/admissionbyrate/KeyTable", "digestAt", "(I)J"⟩ : MethodName)) hown (mvT hZ (hw _ (List.mem_of_getElem? (i := 67) rfl))) (mvT hZ (hw _ (List.mem_of_getElem? (i := 68) rfl))) (notFace_of_selects (args := #[]) (mvT hZ (hw _ (List.mem_of_getElem? (i := 70) rfl)))) (mvT hZ (hw _ (List.mem_of_getElem? (i := 70) rfl))) (mvT hZ (hw _ (List.mem_of_getElem? (i := 69) rfl))) (by decide) (backOf (W := 0) (rm10 l Z a0 hw [] a (0 : Int32) ia ma (3 : Int32) (0 : Int64) (1 : Int32) (1 : Int32) [(0 : Int32), (1 : Int32), (0 : Int32), (0 : Int32), (0 : Int32), (0 : Int32)] (0 : Int32) (1 : Int32) T7.heap n0 (Nat.le_trans (Nat.le_trans Z0 E1.1) K7.1) KTo0 (by decide) rfl (by decide) rfl) hZ (hw _ (List.mem_of_getElem? (i := 71) rfl)) (hw _ (List.mem_of_getElem? (i := 2) rfl)) (by decide) (by decide)) q13a q13c (g := (mkF m 31 #[.val (.ref a), .val (.int (3 : Int32)), .val (.long q1), .second, .val (.int (0 : Int32)), .val (.ref b), .val (.int (0 : Int32)), .unset, .unset] [(.int (0 : Int32)), (.ref a)])) rfl (by rw [hml]; rfl) (Steps.refl _) (argsL := [(.int (0 : Int32))]) (rest := []) (lenOf pd_0 rfl) rfl (by show 2 * 0 + _ ≤ _; exact Nat.le_of_eq rfl) (hb hby d14_31) (fun _ _ => ⟨rfl, e10, (by decide : 3 + 0 ≤ _), (by decide : 18 + 0 ≤ _)⟩)
  dsimp only [Pt.U, Pt.locs, Pt.cells, Pt.slots] at X13 l13 y13 z13 st13 hQ13
  subst l13 y13 z13
  obtain ⟨rfl, N13q, e13⟩ := hQ13
  have N13 := Fr.app N7 N13q
  have S14 : Steps p.tables e below Ω (T13.setTop (mkF m 34 #[.val (.ref a), .val (.int (3 : Int32)), .val (.long q1), .second, .val (.int (0 : Int32)), .val (.ref b), .val (.int (0 : Int32)), .unset, .unset] [(.long (own_of (0 : Int32) (1 : Int32)))])) := S12.trans st13
  rw [(by decide : (own_of (0 : Int32) (1 : Int32)) = (1 : Int64))] at S14
  have S15 : Steps p.tables e below Ω (T13.setTop (mkF m 40 #[.val (.ref a), .val (.int (3 : Int32)), .val (.long q1), .second, .val (.int (0 : Int32)), .val (.ref b), .val (.int (0 : Int32)), .val (.long (1 : Int64)), .second] [(.int (lcmpW (1 : Int64) (0 : Int64)))])) := by
    refine S14.trans ?_
    refine XS.lstore X13.here hx rfl (hb hby d14_34) rfl (l' := #[.val (.ref a), .val (.int (3 : Int32)), .val (.long q1), .second, .val (.int (0 : Int32)), .val (.ref b), .val (.int (0 : Int32)), .val (.long (1 : Int64)), .second]) rfl ?_
    show Steps p.tables e below (T13.setTop (mkF m 36 #[.val (.ref a), .val (.int (3 : Int32)), .val (.long q1), .second, .val (.int (0 : Int32)), .val (.ref b), .val (.int (0 : Int32)), .val (.long (1 : Int64)), .second] [])) _
    refine XS.lload X13.here hx rfl (hb hby d14_36) rfl ?_
    show Steps p.tables e below (T13.setTop (mkF m 38 #[.val (.ref a), .val (.int (3 : Int32)), .val (.long q1), .second, .val (.int (0 : Int32)), .val (.ref b), .val (.int (0 : Int32)), .val (.long (1 : Int64)), .second] [(.long (1 : Int64))])) _
    refine XS.lconst X13.here hx rfl (hb hby d14_38) ?_
    show Steps p.tables e below (T13.setTop (mkF m 39 #[.val (.ref a), .val (.int (3 : Int32)), .val (.long q1), .second, .val (.int (0 : Int32)), .val (.ref b), .val (.int (0 : Int32)), .val (.long (1 : Int64)), .second] [(.long (0 : Int64)), (.long (1 : Int64))])) _
    refine XS.lcmp X13.here hx rfl (hb hby d14_39) rfl ?_
    exact Steps.refl _
  have S16 : Steps p.tables e below Ω (T13.setTop (mkF m 51 #[.val (.ref a), .val (.int (3 : Int32)), .val (.long q1), .second, .val (.int (0 : Int32)), .val (.ref b), .val (.int (0 : Int32)), .val (.long (1 : Int64)), .second] [(.long (1 : Int64)), (.int (0 : Int32)), (.ref b)])) := by
    refine S15.trans ?_
    refine XS.ifNo X13.here hx rfl (hb hby d14_40) rfl (XT.ll_eq_f (by decide)) ?_
    show Steps p.tables e below (T13.setTop (mkF m 43 #[.val (.ref a), .val (.int (3 : Int32)), .val (.long q1), .second, .val (.int (0 : Int32)), .val (.ref b), .val (.int (0 : Int32)), .val (.long (1 : Int64)), .second] [])) _
    refine XS.aload X13.here hx rfl (hb hby d14_43) rfl rfl ?_
    show Steps p.tables e below (T13.setTop (mkF m 45 #[.val (.ref a), .val (.int (3 : Int32)), .val (.long q1), .second, .val (.int (0 : Int32)), .val (.ref b), .val (.int (0 : Int32)), .val (.long (1 : Int64)), .second] [(.ref b)])) _
    refine XS.iload X13.here hx rfl (hb hby d14_45) rfl ?_
    show Steps p.tables e below (T13.setTop (mkF m 47 #[.val (.ref a), .val (.int (3 : Int32)), .val (.long q1), .second, .val (.int (0 : Int32)), .val (.ref b), .val (.int (0 : Int32)), .val (.long (1 : Int64)), .second] [(.int (0 : Int32)), (.ref b)])) _
    refine XS.iloadN X13.here hx rfl (hb hby d14_47) rfl ?_
    show Steps p.tables e below (T13.setTop (mkF m 48 #[.val (.ref a), .val (.int (3 : Int32)), .val (.long q1), .second, .val (.int (0 : Int32)), .val (.ref b), .val (.int (0 : Int32)), .val (.long (1 : Int64)), .second] [(.int (3 : Int32)), (.int (0 : Int32)), (.ref b)])) _
    refine XS.imul X13.here hx rfl (hb hby d14_48) rfl ?_
    show Steps p.tables e below (T13.setTop (mkF m 49 #[.val (.ref a), .val (.int (3 : Int32)), .val (.long q1), .second, .val (.int (0 : Int32)), .val (.ref b), .val (.int (0 : Int32)), .val (.long (1 : Int64)), .second] [(.int (0 : Int32)), (.ref b)])) _
    refine XS.lload X13.here hx rfl (hb hby d14_49) rfl ?_
    exact Steps.refl _
  obtain ⟨cq17, q17, q17'⟩ := (KB0.1).cell
  obtain ⟨_, _, ⟨T17, L17, k17, n17⟩, -, X17, ⟨Lc17, hQ17, l17, y17, z17⟩, st17⟩ := X13.privateBack hx (y := (⟨"com/example/admission_by_rate/admissionbyrate/KeyTable", "putLongAt", "(IJ)V"⟩ : MethodName)) hown (mvT hZ (hw _ (List.mem_of_getElem? (i := 48) rfl))) (mvT hZ (hw _ (List.mem_of_getElem? (i := 49) rfl))) (own_sel (z := (⟨"com/example/admission_by_rate/admissionbyrate/KeyTable", "holds", "(J)Z"⟩ : MethodName)) (mvT hZ (hw _ (List.mem_of_getElem? (i := 41) rfl))) rfl (Cond.privateMethod_at (mvP hZ (hw _ (List.mem_of_getElem? (i := 50) rfl)) (args := #[]))) (mvT hZ (hw _ (List.mem_of_getElem? (i := 49) rfl))) (by decide)) (Cond.privateMethod_at (mvP hZ (hw _ (List.mem_of_getElem? (i := 50) rfl)) (args := #[]))) (mvT hZ (hw _ (List.mem_of_getElem? (i := 51) rfl))) (by decide) (backOf (W := 0) (rm7 l Z a0 hw [] b (0 : Int32) (1 : Int64) ib mb (3 : Int32) q1 ((2 : Int32) - (1 : Int32)) (0 : Int32) (List.replicate 6 (0 : Int32)) 0 T7.heap n0 (Nat.le_trans (Nat.le_trans Z0 E1.1) K7.1) KB0 gib (by decide) rfl (by decide) rfl (Nat.le_of_ble_eq_true rfl)) hZ (hw _ (List.mem_of_getElem? (i := 51) rfl)) (hw _ (List.mem_of_getElem? (i := 2) rfl)) (by decide) (by decide)) (g := (mkF m 51 #[.val (.ref a), .val (.int (3 : Int32)), .val (.long q1), .second, .val (.int (0 : Int32)), .val (.ref b), .val (.int (0 : Int32)), .val (.long (1 : Int64)), .second] [(.long (1 : Int64)), (.int (0 : Int32)), (.ref b)])) rfl (by rw [hml]; rfl) (Steps.refl _) (a := b) (by rw [e13]; exact q17) q17' (argsL := [(.int (0 : Int32)), (.long (1 : Int64))]) (rest := []) (lenOf pd_2 rfl) rfl (by show 2 * 0 + _ ≤ _; exact Nat.le_of_eq rfl) (hb hby d14_51) (fun _ _ => ⟨rfl, e13, (by decide : 3 + 0 ≤ _), (by decide : 18 + 0 ≤ _)⟩)
  dsimp only [Pt.U, Pt.locs, Pt.cells, Pt.slots] at X17 l17 y17 z17 st17 hQ17
  subst l17 y17 z17
  obtain ⟨rfl, N17q, K17, KB17⟩ := hQ17
  have N17 := Fr.app N13 N17q
  have S18 : Steps p.tables e below Ω (T17.setTop (mkF m 54 #[.val (.ref a), .val (.int (3 : Int32)), .val (.long q1), .second, .val (.int (0 : Int32)), .val (.ref b), .val (.int (0 : Int32)), .val (.long (1 : Int64)), .second] [])) := S16.trans st17
  have K_17 : Keep h0 T17.heap [] := K0.trans K17 (fun x hx => Or.inr (by cases List.mem_singleton.mp hx; exact hib))
  have KTo_17 : KT Z T17.heap a ia ma (3 : Int32) (0 : Int64) (1 : Int32) (1 : Int32) [(0 : Int32), (1 : Int32), (0 : Int32), (0 : Int32), (0 : Int32), (0 : Int32)] := KTo0.keep K17 xa xi xm
  have S19 : Steps p.tables e below Ω (T17.setTop (mkF m 58 #[.val (.ref a), .val (.int (3 : Int32)), .val (.long q1), .second, .val (.int (0 : Int32)), .val (.ref b), .val (.int (0 : Int32)), .val (.long (1 : Int64)), .second] [(.int (0 : Int32)), (.int (0 : Int32))])) := by
    refine S18.trans ?_
    refine XS.iload X17.here hx rfl (hb hby d14_54) rfl ?_
    show Steps p.tables e below (T17.setTop (mkF m 56 #[.val (.ref a), .val (.int (3 : Int32)), .val (.long q1), .second, .val (.int (0 : Int32)), .val (.ref b), .val (.int (0 : Int32)), .val (.long (1 : Int64)), .second] [(.int (0 : Int32))])) _
    refine XS.iload X17.here hx rfl (hb hby d14_56) rfl ?_
    exact Steps.refl _
  have S20 : Steps p.tables e below Ω (T17.setTop (mkF m 76 #[.val (.ref a), .val (.int (3 : Int32)), .val (.long q1), .second, .val (.int (0 : Int32)), .val (.ref b), .val (.int (0 : Int32)), .val (.long (1 : Int64)), .second] [(.ref b)])) := by
    refine S19.trans ?_
    refine XS.icmpYes X17.here hx rfl (pc0 := 58) (pc' := 74) rfl (hb hby d14_58) rfl (XT.ii_eq_t (by decide)) (by decide) (by decide) ?_
    show Steps p.tables e below (T17.setTop (mkF m 74 #[.val (.ref a), .val (.int (3 : Int32)), .val (.long q1), .second, .val (.int (0 : Int32)), .val (.ref b), .val (.int (0 : Int32)), .val (.long (1 : Int64)), .second] [])) _
    refine XS.aload X17.here hx rfl (hb hby d14_74) rfl rfl ?_
    exact Steps.refl _
  obtain ⟨EB, PBst, PBin, PBbs, PBma, PBmk, PBcn, AB, EBm, PBw, -, -, -⟩ := (id KB17)
  obtain ⟨EA, PAst, PAin, PAbs, PAma, PAmk, PAcn, AA, EAm, PAw, -, -, -⟩ := (id KTo_17)
  obtain ⟨T21, X21, e21, st21⟩ := getF X17 hx hZ hown (host := "") (Or.inl (hw _ (List.mem_of_getElem? (i := 32) rfl))) Via.refl rfl PBma (g := (mkF m 76 #[.val (.ref a), .val (.int (3 : Int32)), .val (.long q1), .second, .val (.int (0 : Int32)), .val (.ref b), .val (.int (0 : Int32)), .val (.long (1 : Int64)), .second] [(.ref b)])) rfl rfl (hb hby d14_76)
  have S22 : Steps p.tables e below Ω (T21.setTop (mkF m 79 #[.val (.ref a), .val (.int (3 : Int32)), .val (.long q1), .second, .val (.int (0 : Int32)), .val (.ref b), .val (.int (0 : Int32)), .val (.long (1 : Int64)), .second] [(.ref mb)])) := S20.trans (st21 _ (Steps.refl _))
  have S23 : Steps p.tables e below Ω (T21.setTop (mkF m 82 #[.val (.ref a), .val (.int (3 : Int32)), .val (.long q1), .second, .val (.int (0 : Int32)), .val (.ref b), .val (.int (0 : Int32)), .val (.long (1 : Int64)), .second] [(.ref a), (.int (0 : Int32)), (.ref mb)])) := by
    refine S22.trans ?_
    refine XS.iload X21.here hx rfl (hb hby d14_79) rfl ?_
    show Steps p.tables e below (T21.setTop (mkF m 81 #[.val (.ref a), .val (.int (3 : Int32)), .val (.long q1), .second, .val (.int (0 : Int32)), .val (.ref b), .val (.int (0 : Int32)), .val (.long (1 : Int64)), .second] [(.int (0 : Int32)), (.ref mb)])) _
    refine XS.aloadN X21.here hx rfl (hb hby d14_81) rfl rfl ?_
    exact Steps.refl _
  obtain ⟨T24, X24, e24, st24⟩ := getF X21 hx hZ hown (host := "") (Or.inl (hw _ (List.mem_of_getElem? (i := 32) rfl))) Via.refl e21 PAma (g := (mkF m 82 #[.val (.ref a), .val (.int (3 : Int32)), .val (.long q1), .second, .val (.int (0 : Int32)), .val (.ref b), .val (.int (0 : Int32)), .val (.long (1 : Int64)), .second] [(.ref a), (.int (0 : Int32)), (.ref mb)])) rfl rfl (hb hby d14_82)
  have S25 : Steps p.tables e below Ω (T24.setTop (mkF m 85 #[.val (.ref a), .val (.int (3 : Int32)), .val (.long q1), .second, .val (.int (0 : Int32)), .val (.ref b), .val (.int (0 : Int32)), .val (.long (1 : Int64)), .second] [(.ref ma), (.int (0 : Int32)), (.ref mb)])) := S23.trans (st24 _ (Steps.refl _))
  have S26 : Steps p.tables e below Ω (T24.setTop (mkF m 87 #[.val (.ref a), .val (.int (3 : Int32)), .val (.long q1), .second, .val (.int (0 : Int32)), .val (.ref b), .val (.int (0 : Int32)), .val (.long (1 : Int64)), .second] [(.int (0 : Int32)), (.ref ma), (.int (0 : Int32)), (.ref mb)])) := by
    refine S25.trans ?_
    refine XS.iload X24.here hx rfl (hb hby d14_85) rfl ?_
    exact Steps.refl _
  obtain ⟨cq27, kq27, q27a, q27b, q27c⟩ := isOf hZ e24 EAm
  obtain ⟨_, _, ⟨T27, L27, k27, n27⟩, -, X27, ⟨Lc27, hQ27, l27, y27, z27⟩, st27⟩ := X24.virtualBack hx (y := (⟨"com/example/admission_by_rate/admissionbyrate/PlaceMarks", "at", "(I)I"⟩ : MethodName)) (z := (⟨"com/example/admission_by_rate/admissionbyrate/PlaceMarks", "at", "(I)I"⟩ : MethodName)) hown (mvT hZ (hw _ (List.mem_of_getElem? (i := 95) rfl))) (mvT hZ (hw _ (List.mem_of_getElem? (i := 96) rfl))) (notFace_of_selects (args := #[]) (mvT hZ (hw _ (List.mem_of_getElem? (i := 98) rfl)))) (mvT hZ (hw _ (List.mem_of_getElem? (i := 98) rfl))) (mvT hZ (hw _ (List.mem_of_getElem? (i := 97) rfl))) (by decide) (backOf (W := 2) (rm16 l Z a0 hw [] ma (0 : Int32)  T17.heap n0 (Nat.le_trans (Nat.le_trans (Nat.le_trans Z0 E1.1) K7.1) K17.1) PAw) hZ (hw _ (List.mem_of_getElem? (i := 99) rfl)) (hw _ (List.mem_of_getElem? (i := 25) rfl)) (by decide) (by decide)) q27a q27c (g := (mkF m 87 #[.val (.ref a), .val (.int (3 : Int32)), .val (.long q1), .second, .val (.int (0 : Int32)), .val (.ref b), .val (.int (0 : Int32)), .val (.long (1 : Int64)), .second] [(.int (0 : Int32)), (.ref ma), (.int (0 : Int32)), (.ref mb)])) rfl (by rw [hml]; rfl) (Steps.refl _) (argsL := [(.int (0 : Int32))]) (rest := [(.int (0 : Int32)), (.ref mb)]) (lenOf pd_7 rfl) rfl (by show 2 * 0 + _ ≤ _; exact Nat.le_of_eq rfl) (hb hby d14_87) (fun _ _ => ⟨rfl, e24, (by decide : 3 + 0 ≤ _), (by decide : 18 + 0 ≤ _)⟩)
  dsimp only [Pt.U, Pt.locs, Pt.cells, Pt.slots] at X27 l27 y27 z27 st27 hQ27
  subst l27 y27 z27
  obtain ⟨rfl, N27q, e27⟩ := hQ27
  have N27 := Fr.app N17 N27q
  have S28 : Steps p.tables e below Ω (T27.setTop (mkF m 90 #[.val (.ref a), .val (.int (3 : Int32)), .val (.long q1), .second, .val (.int (0 : Int32)), .val (.ref b), .val (.int (0 : Int32)), .val (.long (1 : Int64)), .second] [(.int (0 : Int32)), (.int (0 : Int32)), (.ref mb)])) := S26.trans st27
  obtain ⟨cq29, kq29, q29a, q29b, q29c⟩ := isOf hZ e27 EBm
  obtain ⟨_, _, ⟨T29, L29, k29, n29⟩, -, X29, ⟨Lc29, hQ29, l29, y29, z29⟩, st29⟩ := X27.virtualBack hx (y := (⟨"com/example/admission_by_rate/admissionbyrate/PlaceMarks", "set", "(II)V"⟩ : MethodName)) (z := (⟨"com/example/admission_by_rate/admissionbyrate/PlaceMarks", "set", "(II)V"⟩ : MethodName)) hown (mvT hZ (hw _ (List.mem_of_getElem? (i := 52) rfl))) (mvT hZ (hw _ (List.mem_of_getElem? (i := 53) rfl))) (notFace_of_selects (args := #[]) (mvT hZ (hw _ (List.mem_of_getElem? (i := 55) rfl)))) (mvT hZ (hw _ (List.mem_of_getElem? (i := 55) rfl))) (mvT hZ (hw _ (List.mem_of_getElem? (i := 54) rfl))) (by decide) (backOf (W := 0) (rm8 l Z a0 hw [] mb (0 : Int32) (0 : Int32)  T17.heap n0 (Nat.le_trans (Nat.le_trans (Nat.le_trans Z0 E1.1) K7.1) K17.1) PBw rfl) hZ (hw _ (List.mem_of_getElem? (i := 56) rfl)) (hw _ (List.mem_of_getElem? (i := 25) rfl)) (by decide) (by decide)) q29a q29c (g := (mkF m 90 #[.val (.ref a), .val (.int (3 : Int32)), .val (.long q1), .second, .val (.int (0 : Int32)), .val (.ref b), .val (.int (0 : Int32)), .val (.long (1 : Int64)), .second] [(.int (0 : Int32)), (.int (0 : Int32)), (.ref mb)])) rfl (by rw [hml]; rfl) (Steps.refl _) (argsL := [(.int (0 : Int32)), (.int (0 : Int32))]) (rest := []) (lenOf pd_3 rfl) rfl (by show 2 * 0 + _ ≤ _; exact Nat.le_of_eq rfl) (hb hby d14_90) (fun _ _ => ⟨rfl, e27, (by decide : 3 + 0 ≤ _), (by decide : 18 + 0 ≤ _)⟩)
  dsimp only [Pt.U, Pt.locs, Pt.cells, Pt.slots] at X29 l29 y29 z29 st29 hQ29
  subst l29 y29 z29
  obtain ⟨rfl, N29q, e29⟩ := hQ29
  have N29 := Fr.app N27 N29q
  have S30 : Steps p.tables e below Ω (T29.setTop (mkF m 93 #[.val (.ref a), .val (.int (3 : Int32)), .val (.long q1), .second, .val (.int (0 : Int32)), .val (.ref b), .val (.int (0 : Int32)), .val (.long (1 : Int64)), .second] [])) := S28.trans st29
  have S31 : Steps p.tables e below Ω (T29.setTop (mkF m 19 #[.val (.ref a), .val (.int (3 : Int32)), .val (.long q1), .second, .val (.int (0 : Int32)), .val (.ref b), .val (.int (1 : Int32)), .val (.long (1 : Int64)), .second] [])) := by
    refine S30.trans ?_
    refine XS.iinc X29.here hx rfl (hb hby d14_93) rfl (l' := #[.val (.ref a), .val (.int (3 : Int32)), .val (.long q1), .second, .val (.int (0 : Int32)), .val (.ref b), .val (.int (1 : Int32)), .val (.long (1 : Int64)), .second]) rfl ?_
    show Steps p.tables e below (T29.setTop (mkF m 96 #[.val (.ref a), .val (.int (3 : Int32)), .val (.long q1), .second, .val (.int (0 : Int32)), .val (.ref b), .val (.int (1 : Int32)), .val (.long (1 : Int64)), .second] [])) _
    refine XS.goto X29.here hx rfl (pc0 := 96) (pc' := 19) rfl (hb hby d14_96) (by decide) (by decide) ?_
    exact Steps.refl _
  have S32 : Steps p.tables e below Ω (T29.setTop (mkF m 22 #[.val (.ref a), .val (.int (3 : Int32)), .val (.long q1), .second, .val (.int (0 : Int32)), .val (.ref b), .val (.int (1 : Int32)), .val (.long (1 : Int64)), .second] [(.ref a), (.int (1 : Int32))])) := by
    refine S31.trans ?_
    refine XS.iload X29.here hx rfl (hb hby d14_19) rfl ?_
    show Steps p.tables e below (T29.setTop (mkF m 21 #[.val (.ref a), .val (.int (3 : Int32)), .val (.long q1), .second, .val (.int (0 : Int32)), .val (.ref b), .val (.int (1 : Int32)), .val (.long (1 : Int64)), .second] [(.int (1 : Int32))])) _
    refine XS.aloadN X29.here hx rfl (hb hby d14_21) rfl rfl ?_
    exact Steps.refl _
  obtain ⟨E0_1, Pst_1, Pin_1, Pbs_1, Pma_1, Pmk_1, Pcn_1, A0_1, Em_1, Pw_1, -, -, -⟩ := (id KTo_17)
  obtain ⟨T33, X33, e33, st33⟩ := getF X29 hx hZ hown (host := "") (Or.inl (hw _ (List.mem_of_getElem? (i := 34) rfl))) Via.refl e29 Pmk_1 (g := (mkF m 22 #[.val (.ref a), .val (.int (3 : Int32)), .val (.long q1), .second, .val (.int (0 : Int32)), .val (.ref b), .val (.int (1 : Int32)), .val (.long (1 : Int64)), .second] [(.ref a), (.int (1 : Int32))])) rfl rfl (hb hby d14_22)
  have S34 : Steps p.tables e below Ω (T33.setTop (mkF m 25 #[.val (.ref a), .val (.int (3 : Int32)), .val (.long q1), .second, .val (.int (0 : Int32)), .val (.ref b), .val (.int (1 : Int32)), .val (.long (1 : Int64)), .second] [(.int (1 : Int32)), (.int (1 : Int32))])) := S32.trans (st33 _ (Steps.refl _))
  have S35 : Steps p.tables e below Ω (T33.setTop (mkF m 31 #[.val (.ref a), .val (.int (3 : Int32)), .val (.long q1), .second, .val (.int (0 : Int32)), .val (.ref b), .val (.int (1 : Int32)), .val (.long (1 : Int64)), .second] [(.int (1 : Int32)), (.ref a)])) := by
    refine S34.trans ?_
    refine XS.icmpNo X33.here hx rfl (hb hby d14_25) rfl (XT.ii_gt_f (by decide)) ?_
    show Steps p.tables e below (T33.setTop (mkF m 28 #[.val (.ref a), .val (.int (3 : Int32)), .val (.long q1), .second, .val (.int (0 : Int32)), .val (.ref b), .val (.int (1 : Int32)), .val (.long (1 : Int64)), .second] [])) _
    refine XS.aloadN X33.here hx rfl (hb hby d14_28) rfl rfl ?_
    show Steps p.tables e below (T33.setTop (mkF m 29 #[.val (.ref a), .val (.int (3 : Int32)), .val (.long q1), .second, .val (.int (0 : Int32)), .val (.ref b), .val (.int (1 : Int32)), .val (.long (1 : Int64)), .second] [(.ref a)])) _
    refine XS.iload X33.here hx rfl (hb hby d14_29) rfl ?_
    exact Steps.refl _
  obtain ⟨cq36, kq36, q36a, q36b, q36c⟩ := isOf hZ e33 KTo_17.1
  obtain ⟨_, _, ⟨T36, L36, k36, n36⟩, -, X36, ⟨Lc36, hQ36, l36, y36, z36⟩, st36⟩ := X33.virtualBack hx (y := (⟨"com/example/admission_by_rate/admissionbyrate/KeyTable", "digestAt", "(I)J"⟩ : MethodName)) (z := (⟨"com/example/admission_by_rate/admissionbyrate/KeyTable", "digestAt", "(I)J"⟩ : MethodName)) hown (mvT hZ (hw _ (List.mem_of_getElem? (i := 67) rfl))) (mvT hZ (hw _ (List.mem_of_getElem? (i := 68) rfl))) (notFace_of_selects (args := #[]) (mvT hZ (hw _ (List.mem_of_getElem? (i := 70) rfl)))) (mvT hZ (hw _ (List.mem_of_getElem? (i := 70) rfl))) (mvT hZ (hw _ (List.mem_of_getElem? (i := 69) rfl))) (by decide) (backOf (W := 0) (rm10 l Z a0 hw [] a (1 : Int32) ia ma (3 : Int32) (0 : Int64) (1 : Int32) (1 : Int32) [(0 : Int32), (1 : Int32), (0 : Int32), (0 : Int32), (0 : Int32), (0 : Int32)] (0 : Int32) (0 : Int32) T17.heap n0 (Nat.le_trans (Nat.le_trans (Nat.le_trans Z0 E1.1) K7.1) K17.1) KTo_17 (by decide) rfl (by decide) rfl) hZ (hw _ (List.mem_of_getElem? (i := 71) rfl)) (hw _ (List.mem_of_getElem? (i := 2) rfl)) (by decide) (by decide)) q36a q36c (g := (mkF m 31 #[.val (.ref a), .val (.int (3 : Int32)), .val (.long q1), .second, .val (.int (0 : Int32)), .val (.ref b), .val (.int (1 : Int32)), .val (.long (1 : Int64)), .second] [(.int (1 : Int32)), (.ref a)])) rfl (by rw [hml]; rfl) (Steps.refl _) (argsL := [(.int (1 : Int32))]) (rest := []) (lenOf pd_0 rfl) rfl (by show 2 * 0 + _ ≤ _; exact Nat.le_of_eq rfl) (hb hby d14_31) (fun _ _ => ⟨rfl, e33, (by decide : 3 + 0 ≤ _), (by decide : 18 + 0 ≤ _)⟩)
  dsimp only [Pt.U, Pt.locs, Pt.cells, Pt.slots] at X36 l36 y36 z36 st36 hQ36
  subst l36 y36 z36
  obtain ⟨rfl, N36q, e36⟩ := hQ36
  have N36 := Fr.app N29 N36q
  have S37 : Steps p.tables e below Ω (T36.setTop (mkF m 34 #[.val (.ref a), .val (.int (3 : Int32)), .val (.long q1), .second, .val (.int (0 : Int32)), .val (.ref b), .val (.int (1 : Int32)), .val (.long (1 : Int64)), .second] [(.long (own_of (0 : Int32) (0 : Int32)))])) := S35.trans st36
  rw [(by decide : (own_of (0 : Int32) (0 : Int32)) = (0 : Int64))] at S37
  have S38 : Steps p.tables e below Ω (T36.setTop (mkF m 40 #[.val (.ref a), .val (.int (3 : Int32)), .val (.long q1), .second, .val (.int (0 : Int32)), .val (.ref b), .val (.int (1 : Int32)), .val (.long (0 : Int64)), .second] [(.int (lcmpW (0 : Int64) (0 : Int64)))])) := by
    refine S37.trans ?_
    refine XS.lstore X36.here hx rfl (hb hby d14_34) rfl (l' := #[.val (.ref a), .val (.int (3 : Int32)), .val (.long q1), .second, .val (.int (0 : Int32)), .val (.ref b), .val (.int (1 : Int32)), .val (.long (0 : Int64)), .second]) rfl ?_
    show Steps p.tables e below (T36.setTop (mkF m 36 #[.val (.ref a), .val (.int (3 : Int32)), .val (.long q1), .second, .val (.int (0 : Int32)), .val (.ref b), .val (.int (1 : Int32)), .val (.long (0 : Int64)), .second] [])) _
    refine XS.lload X36.here hx rfl (hb hby d14_36) rfl ?_
    show Steps p.tables e below (T36.setTop (mkF m 38 #[.val (.ref a), .val (.int (3 : Int32)), .val (.long q1), .second, .val (.int (0 : Int32)), .val (.ref b), .val (.int (1 : Int32)), .val (.long (0 : Int64)), .second] [(.long (0 : Int64))])) _
    refine XS.lconst X36.here hx rfl (hb hby d14_38) ?_
    show Steps p.tables e below (T36.setTop (mkF m 39 #[.val (.ref a), .val (.int (3 : Int32)), .val (.long q1), .second, .val (.int (0 : Int32)), .val (.ref b), .val (.int (1 : Int32)), .val (.long (0 : Int64)), .second] [(.long (0 : Int64)), (.long (0 : Int64))])) _
    refine XS.lcmp X36.here hx rfl (hb hby d14_39) rfl ?_
    exact Steps.refl _
  have S39 : Steps p.tables e below Ω (T36.setTop (mkF m 22 #[.val (.ref a), .val (.int (3 : Int32)), .val (.long q1), .second, .val (.int (0 : Int32)), .val (.ref b), .val (.int (2 : Int32)), .val (.long (0 : Int64)), .second] [(.ref a), (.int (2 : Int32))])) := by
    refine S38.trans ?_
    refine XS.ifYes X36.here hx rfl (pc0 := 40) (pc' := 93) rfl (hb hby d14_40) rfl (XT.ll_eq_t (by decide)) (by decide) (by decide) ?_
    show Steps p.tables e below (T36.setTop (mkF m 93 #[.val (.ref a), .val (.int (3 : Int32)), .val (.long q1), .second, .val (.int (0 : Int32)), .val (.ref b), .val (.int (1 : Int32)), .val (.long (0 : Int64)), .second] [])) _
    refine XS.iinc X36.here hx rfl (hb hby d14_93) rfl (l' := #[.val (.ref a), .val (.int (3 : Int32)), .val (.long q1), .second, .val (.int (0 : Int32)), .val (.ref b), .val (.int (2 : Int32)), .val (.long (0 : Int64)), .second]) rfl ?_
    show Steps p.tables e below (T36.setTop (mkF m 96 #[.val (.ref a), .val (.int (3 : Int32)), .val (.long q1), .second, .val (.int (0 : Int32)), .val (.ref b), .val (.int (2 : Int32)), .val (.long (0 : Int64)), .second] [])) _
    refine XS.goto X36.here hx rfl (pc0 := 96) (pc' := 19) rfl (hb hby d14_96) (by decide) (by decide) ?_
    show Steps p.tables e below (T36.setTop (mkF m 19 #[.val (.ref a), .val (.int (3 : Int32)), .val (.long q1), .second, .val (.int (0 : Int32)), .val (.ref b), .val (.int (2 : Int32)), .val (.long (0 : Int64)), .second] [])) _
    refine XS.iload X36.here hx rfl (hb hby d14_19) rfl ?_
    show Steps p.tables e below (T36.setTop (mkF m 21 #[.val (.ref a), .val (.int (3 : Int32)), .val (.long q1), .second, .val (.int (0 : Int32)), .val (.ref b), .val (.int (2 : Int32)), .val (.long (0 : Int64)), .second] [(.int (2 : Int32))])) _
    refine XS.aloadN X36.here hx rfl (hb hby d14_21) rfl rfl ?_
    exact Steps.refl _
  obtain ⟨E0_9, Pst_9, Pin_9, Pbs_9, Pma_9, Pmk_9, Pcn_9, A0_9, Em_9, Pw_9, -, -, -⟩ := (id KTo_17)
  obtain ⟨T40, X40, e40, st40⟩ := getF X36 hx hZ hown (host := "") (Or.inl (hw _ (List.mem_of_getElem? (i := 34) rfl))) Via.refl e36 Pmk_9 (g := (mkF m 22 #[.val (.ref a), .val (.int (3 : Int32)), .val (.long q1), .second, .val (.int (0 : Int32)), .val (.ref b), .val (.int (2 : Int32)), .val (.long (0 : Int64)), .second] [(.ref a), (.int (2 : Int32))])) rfl rfl (hb hby d14_22)
  have S41 : Steps p.tables e below Ω (T40.setTop (mkF m 25 #[.val (.ref a), .val (.int (3 : Int32)), .val (.long q1), .second, .val (.int (0 : Int32)), .val (.ref b), .val (.int (2 : Int32)), .val (.long (0 : Int64)), .second] [(.int (1 : Int32)), (.int (2 : Int32))])) := S39.trans (st40 _ (Steps.refl _))
  have S42 : Steps p.tables e below Ω (T40.setTop (mkF m 102 #[.val (.ref a), .val (.int (3 : Int32)), .val (.long q1), .second, .val (.int (0 : Int32)), .val (.ref b), .val (.int (2 : Int32)), .val (.long (0 : Int64)), .second] [(.ref a), (.ref b)])) := by
    refine S41.trans ?_
    refine XS.icmpYes X40.here hx rfl (pc0 := 25) (pc' := 99) rfl (hb hby d14_25) rfl (XT.ii_gt_t (by decide)) (by decide) (by decide) ?_
    show Steps p.tables e below (T40.setTop (mkF m 99 #[.val (.ref a), .val (.int (3 : Int32)), .val (.long q1), .second, .val (.int (0 : Int32)), .val (.ref b), .val (.int (2 : Int32)), .val (.long (0 : Int64)), .second] [])) _
    refine XS.aload X40.here hx rfl (hb hby d14_99) rfl rfl ?_
    show Steps p.tables e below (T40.setTop (mkF m 101 #[.val (.ref a), .val (.int (3 : Int32)), .val (.long q1), .second, .val (.int (0 : Int32)), .val (.ref b), .val (.int (2 : Int32)), .val (.long (0 : Int64)), .second] [(.ref b)])) _
    refine XS.aloadN X40.here hx rfl (hb hby d14_101) rfl rfl ?_
    exact Steps.refl _
  obtain ⟨T43, X43, e43, st43⟩ := getF X40 hx hZ hown (host := "") (Or.inl (hw _ (List.mem_of_getElem? (i := 60) rfl))) Via.refl e40 Pcn_9 (g := (mkF m 102 #[.val (.ref a), .val (.int (3 : Int32)), .val (.long q1), .second, .val (.int (0 : Int32)), .val (.ref b), .val (.int (2 : Int32)), .val (.long (0 : Int64)), .second] [(.ref a), (.ref b)])) rfl rfl (hb hby d14_102)
  have S44 : Steps p.tables e below Ω (T43.setTop (mkF m 105 #[.val (.ref a), .val (.int (3 : Int32)), .val (.long q1), .second, .val (.int (0 : Int32)), .val (.ref b), .val (.int (2 : Int32)), .val (.long (0 : Int64)), .second] [(.int (1 : Int32)), (.ref b)])) := S42.trans (st43 _ (Steps.refl _))
  obtain ⟨EB, PBst, PBin, PBbs, PBma, PBmk, PBcn, AB, EBm, PBw, ne1, ne2, ne3⟩ := (id KB17)
  obtain ⟨T45, h45, X45, e45, W45, st45⟩ := putF X43 hx hZ hown (host := "") (Or.inl (hw _ (List.mem_of_getElem? (i := 60) rfl))) Via.refl e43 PBcn EB (Or.inl (hw _ (List.mem_of_getElem? (i := 61) rfl))) (hw _ (List.mem_of_getElem? (i := 1) rfl)) (ty := .int) (by decide) rfl rfl (g := (mkF m 105 #[.val (.ref a), .val (.int (3 : Int32)), .val (.long q1), .second, .val (.int (0 : Int32)), .val (.ref b), .val (.int (2 : Int32)), .val (.long (0 : Int64)), .second] [(.int (1 : Int32)), (.ref b)])) rfl rfl (hb hby d14_105)
  have S46 : Steps p.tables e below Ω (T45.setTop (mkF m 108 #[.val (.ref a), .val (.int (3 : Int32)), .val (.long q1), .second, .val (.int (0 : Int32)), .val (.ref b), .val (.int (2 : Int32)), .val (.long (0 : Int64)), .second] [])) := S44.trans (st45 _ (Steps.refl _))
  have N45 := Fr.snoc X45 N36 gb
  have E_b_45 := (EB).wr W45
  have F_stride_b_45 : Fld Z h45 b "com/example/admission_by_rate/admissionbyrate/KeyTable" "stride" "I" (.int (3 : Int32)) := (PBst).other W45 (Or.inr (slot_ne (Or.inr (hw _ (List.mem_of_getElem? (i := 15) rfl))) (Or.inl (hw _ (List.mem_of_getElem? (i := 61) rfl))) (by decide) (t := .int) (t' := .int) (by decide) (by decide)))
  have F_ints_b_45 : Fld Z h45 b "com/example/admission_by_rate/admissionbyrate/KeyTable" "ints" "[I" (.ref ib) := (PBin).other W45 (Or.inr (slot_ne (Or.inr (hw _ (List.mem_of_getElem? (i := 18) rfl))) (Or.inl (hw _ (List.mem_of_getElem? (i := 61) rfl))) (by decide) (t := (.array .int)) (t' := .int) (by decide) (by decide)))
  have F_base_b_45 : Fld Z h45 b "com/example/admission_by_rate/admissionbyrate/KeyTable" "base" "J" (.long q1) := (PBbs).other W45 (Or.inr (slot_ne (Or.inr (hw _ (List.mem_of_getElem? (i := 20) rfl))) (Or.inl (hw _ (List.mem_of_getElem? (i := 61) rfl))) (by decide) (t := .long) (t' := .int) (by decide) (by decide)))
  have F_marks_b_45 : Fld Z h45 b "com/example/admission_by_rate/admissionbyrate/KeyTable" "marks" "Lcom/example/admission_by_rate/admissionbyrate/PlaceMarks;" (.ref mb) := (PBma).other W45 (Or.inr (slot_ne (Or.inr (hw _ (List.mem_of_getElem? (i := 33) rfl))) (Or.inl (hw _ (List.mem_of_getElem? (i := 61) rfl))) (by decide) (t := (.object "com/example/admission_by_rate/admissionbyrate/PlaceMarks")) (t' := .int) (by decide) (by decide)))
  have F_mask_b_45 : Fld Z h45 b "com/example/admission_by_rate/admissionbyrate/KeyTable" "mask" "I" (.int ((2 : Int32) - (1 : Int32))) := (PBmk).other W45 (Or.inr (slot_ne (Or.inr (hw _ (List.mem_of_getElem? (i := 35) rfl))) (Or.inl (hw _ (List.mem_of_getElem? (i := 61) rfl))) (by decide) (t := .int) (t' := .int) (by decide) (by decide)))
  have F_count_b_45 : Fld Z h45 b "com/example/admission_by_rate/admissionbyrate/KeyTable" "count" "I" (.int (1 : Int32)) := (PBcn).same W45
  have AB1 := AB.other W45 (Ne.symm ne1)
  have EBm1 := EBm.wr W45
  have PBw1 := PBw.other W45 (Or.inl (Ne.symm ne3))
  have KK : Keep h0 h45 [] := (K_17).wr W45 (Or.inr sb)
  have KTB : KT Z h45 b ib mb (3 : Int32) q1 (1 : Int32) (1 : Int32) [(0 : Int32), (1 : Int32), (0 : Int32), (0 : Int32), (0 : Int32), (0 : Int32)] := ⟨E_b_45, F_stride_b_45, F_ints_b_45, F_base_b_45, F_marks_b_45, F_mask_b_45, F_count_b_45, AB1, EBm1, PBw1, ne1, ne2, ne3⟩
  have S47 : Steps p.tables e below Ω (T45.setTop (mkF m 110 #[.val (.ref a), .val (.int (3 : Int32)), .val (.long q1), .second, .val (.int (0 : Int32)), .val (.ref b), .val (.int (2 : Int32)), .val (.long (0 : Int64)), .second] [(.ref b)])) := by
    refine S46.trans ?_
    refine XS.aload X45.here hx rfl (hb hby d14_108) rfl rfl ?_
    exact Steps.refl _
  obtain ⟨fs, hr, hrun, hended, hW, hsame⟩ := X45.leave (v := some (.ref b)) (fun h => by rw [Bd.returns] at h; cases h)
  have hfin : Steps p.tables e below Ω (T45.setFrames fs) := by
    refine S47.trans ?_
    jvm_step X45.here [X45.here.top, hx, (hb hby d14_110), X45.method', Bd.returns, Value.isRef, FieldType.isReference]
    first | (intro acts; rw [hr _ acts rfl rfl rfl]) | rw [hr _ _ rfl rfl rfl]
    exact Steps.refl _
  rw [hΩ] at hfin
  refine ⟨_, _, hfin, hrun, hended, _, _, rfl, ?_, ⟨_, rfl⟩, hW, hsame.mono (by decide) (by decide)⟩
  show Q14a Z a (3 : Int32) q1 (0 : Int32) ia ma h0 n0 _ T45.heap _
  rw [e45]
  exact ⟨b, ib, mb, rfl, N45, KK, KTB, sb, hib, hmb⟩
theorem d14_61 : decode prog_28_method_21_code 61 = .ok (.aload 5, 2) := by decide +kernel
theorem d14_63 : decode prog_28_method_21_code 63 = .ok (.iload 6, 2) := by decide +kernel
theorem d14_65 : decode prog_28_method_21_code 65 = .ok (.aload_n 0, 1) := by decide +kernel
theorem d14_66 : decode prog_28_method_21_code 66 = .ok (.iload 6, 2) := by decide +kernel
theorem d14_68 : decode prog_28_method_21_code 68 = .ok (.invokevirtual 53, 3) := by decide +kernel
theorem d14_71 : decode prog_28_method_21_code 71 = .ok (.invokevirtual 128, 3) := by decide +kernel
theorem ef_rm14b (m : MethodId) (x0 : Addr) (x1 : Int32) (x2 : Int64) (x3 : Int32) : entryFrame m #[(.ref x0), (.int x1), (.long x2), (.int x3)] 9 = mkF m 0 #[.val (.ref x0), .val (.int x1), .val (.long x2), .second, .val (.int x3), .unset, .unset, .unset, .unset] [] := by first | (simp [entryFrame, mkF, argsToLocals, Value.category]; done) | rfl
def Q14b (Z : State) (a : Addr) (p1 : Int32) (q1 : Int64) (p2 : Int32) (ia : Addr) (ma : Addr) (h0 : Heap) (n0 : Nat) (v : Option Value) (h : Heap) (L : List Loc) : Prop := ∃ b ib mb : Addr, v = some (.ref b) ∧ Fr n0 L ∧ Keep h0 h [] ∧ KT Z h b ib mb (4 : Int32) q1 (1 : Int32) (2 : Int32) [(0 : Int32), (1 : Int32), (0 : Int32), (0 : Int32), (0 : Int32), (3 : Int32), (0 : Int32), (0 : Int32)] ∧ h0.size ≤ b ∧ h0.size ≤ ib ∧ h0.size ≤ mb
set_option maxRecDepth 65536 in
set_option maxHeartbeats 40000000 in
theorem rm14b (l : Launch) (Z : State) (a0 : Array Value) (hw : ∀ d ∈ tables_1, d.before a0 Z = true) (ws : List Jvm.Cond) (a : Addr) (p1 : Int32) (q1 : Int64) (p2 : Int32) (ia : Addr) (ma : Addr) (h0 : Heap) (n0 : Nat) (Z0 : n0 ≤ h0.size) (KT0 : KT Z h0 a ia ma (3 : Int32) (0 : Int64) (1 : Int32) (2 : Int32) [(0 : Int32), (1 : Int32), (0 : Int32), (0 : Int32), (3 : Int32), (0 : Int32)]) (pe1 : p1 = (4 : Int32)) (pe2 : p2 = (0 : Int32)) (pe3 : q1 = (0 : Int64)) :
    MetFree l (⟨"com/example/admission_by_rate/admissionbyrate/KeyTable", "laidOut", "(IJI)Lcom/example/admission_by_rate/admissionbyrate/KeyTable;"⟩ : MethodName) (head1 (Jvm.Cond.code (⟨"com/example/admission_by_rate/admissionbyrate/KeyTable", "laidOut", "(IJI)Lcom/example/admission_by_rate/admissionbyrate/KeyTable;"⟩ : MethodName) prog_28_method_21_code 9 (some (.object "com/example/admission_by_rate/admissionbyrate/KeyTable")) :: ws) ({ frames := 3, cells := 3, slots := 18, locals := 45 } : Room)) (fun aa U => aa = #[(.ref a), (.int p1), (.long q1), (.int p2)] ∧ Z.Warmed39 U.vm ∧ U.heap = h0) (fun _ _ _ _ _ => True) (fun _ U o U' => ∃ v L, o = .returned v ∧ Q14b Z a (4 : Int32) q1 (0 : Int32) ia ma h0 n0 v U'.heap L ∧ FrameEnd U o U' L ({ frames := 3, cells := 3, slots := 18, locals := 45 } : Room).cells ({ frames := 3, cells := 3, slots := 18, locals := 45 } : Room).slots) := by
  refine MetFree.of_bodySF (plainFor_of_name pn_0) hisR ?_
  intro p e s m args below meth c s₁ Bd hml0 hP hK
  obtain ⟨rfl, hZ, hh⟩ := hP
  have hx := Bd.exec
  have hby := Bd.bytes
  have hml : c.maxLocals = 9 := hml0
  have hown : s.vm.findClass "com/example/admission_by_rate/admissionbyrate/KeyTable" = some m.cls := findClass_of_methodNamed Bd.named
  have hnm := (name_of_methodNamed Bd.named Bd.method).1
  have X0 : Stand p l e ({ frames := 3, cells := 3, slots := 18, locals := 45 } : Room) s m #[(.ref a), (.int p1), (.long q1), (.int p2)] below meth c s₁ [] 0 0 := Stand.of_body Bd
  have e0 : s₁.heap = h0 := by rw [← hh, Bd.state]; rfl
  have N0 := Fr.nil n0
  obtain ⟨Ω, hΩ⟩ : ∃ z, z = s₁.setTop (entryFrame m #[(.ref a), (.int p1), (.long q1), (.int p2)] 9) := ⟨_, rfl⟩
  have S0 : Steps p.tables e below Ω (s₁.setTop (mkF m 0 #[.val (.ref a), .val (.int p1), .val (.long q1), .second, .val (.int p2), .unset, .unset, .unset, .unset] [])) := by rw [hΩ]; exact castTop (ef_rm14b m a p1 q1 p2) (Steps.refl _)
  subst pe1 pe2
  have KTs := KT0
  obtain ⟨E0, Pst, Pin, Pbs, Pma, Pmk, Pcn, A0, Em, Pw, ne1, ne2, ne3⟩ := KT0
  have lts := KTs.lt1
  obtain ⟨T1, h1, X1, e1, E1, A1, D1, -, st1⟩ := newO X0 hx hZ hown (hw _ (List.mem_of_getElem? (i := 89) rfl)) (hw _ (List.mem_of_getElem? (i := 1) rfl)) (hw _ (List.mem_of_getElem? (i := 2) rfl)) e0 (g := (mkF m 0 #[.val (.ref a), .val (.int (4 : Int32)), .val (.long q1), .second, .val (.int (0 : Int32)), .unset, .unset, .unset, .unset] [])) rfl (hb hby d14_0) (by decide) (by decide)
  obtain ⟨b, s_b⟩ : ∃ z, z = h0.size := ⟨_, rfl⟩
  rw [← s_b] at A1 D1 st1
  have g_b : n0 ≤ b := Nat.le_trans Z0 (Nat.le_of_eq s_b.symm)
  have F_inLongs_b : Fld Z h1 b "com/example/admission_by_rate/admissionbyrate/KeyTable" "inLongs" "Z" (.int (0 : Int32)) := D1 (Or.inr (hw _ (List.mem_of_getElem? (i := 13) rfl))) (ty := .boolean) (by decide)
  have F_stride_b : Fld Z h1 b "com/example/admission_by_rate/admissionbyrate/KeyTable" "stride" "I" (.int (0 : Int32)) := D1 (Or.inr (hw _ (List.mem_of_getElem? (i := 15) rfl))) (ty := .int) (by decide)
  have F_ints_b : Fld Z h1 b "com/example/admission_by_rate/admissionbyrate/KeyTable" "ints" "[I" .null := D1 (Or.inr (hw _ (List.mem_of_getElem? (i := 18) rfl))) (ty := (.array .int)) (by decide)
  have F_base_b : Fld Z h1 b "com/example/admission_by_rate/admissionbyrate/KeyTable" "base" "J" (.long (0 : Int64)) := D1 (Or.inr (hw _ (List.mem_of_getElem? (i := 20) rfl))) (ty := .long) (by decide)
  have F_objects_b : Fld Z h1 b "com/example/admission_by_rate/admissionbyrate/KeyTable" "objects" "[Ljava/lang/Object;" .null := D1 (Or.inr (hw _ (List.mem_of_getElem? (i := 22) rfl))) (ty := (.array (.object "java/lang/Object"))) (by decide)
  have F_marks_b : Fld Z h1 b "com/example/admission_by_rate/admissionbyrate/KeyTable" "marks" "Lcom/example/admission_by_rate/admissionbyrate/PlaceMarks;" .null := D1 (Or.inr (hw _ (List.mem_of_getElem? (i := 33) rfl))) (ty := (.object "com/example/admission_by_rate/admissionbyrate/PlaceMarks")) (by decide)
  have F_mask_b : Fld Z h1 b "com/example/admission_by_rate/admissionbyrate/KeyTable" "mask" "I" (.int (0 : Int32)) := D1 (Or.inr (hw _ (List.mem_of_getElem? (i := 35) rfl))) (ty := .int) (by decide)
  have F_count_b : Fld Z h1 b "com/example/admission_by_rate/admissionbyrate/KeyTable" "count" "I" (.int (0 : Int32)) := D1 (Or.inl (hw _ (List.mem_of_getElem? (i := 61) rfl))) (ty := .int) (by decide)
  have S2 : Steps p.tables e below Ω (T1.setTop (mkF m 3 #[.val (.ref a), .val (.int (4 : Int32)), .val (.long q1), .second, .val (.int (0 : Int32)), .unset, .unset, .unset, .unset] [(.ref b)])) := S0.trans (st1 _ (Steps.refl _))
  have sb : h0.size ≤ b := Nat.le_of_eq s_b.symm
  have KTe : KT Z h1 a ia ma (3 : Int32) (0 : Int64) (1 : Int32) (2 : Int32) [(0 : Int32), (1 : Int32), (0 : Int32), (0 : Int32), (3 : Int32), (0 : Int32)] := KTs.keep ((Keep.refl h0 []).ext E1) nin0 nin0 nin0
  have S3 : Steps p.tables e below Ω (T1.setTop (mkF m 6 #[.val (.ref a), .val (.int (4 : Int32)), .val (.long q1), .second, .val (.int (0 : Int32)), .unset, .unset, .unset, .unset] [(.ref a), (.int (1 : Int32)), (.ref b), (.ref b)])) := by
    refine S2.trans ?_
    refine XS.dup X1.here hx rfl (hb hby d14_3) rfl rfl ?_
    show Steps p.tables e below (T1.setTop (mkF m 4 #[.val (.ref a), .val (.int (4 : Int32)), .val (.long q1), .second, .val (.int (0 : Int32)), .unset, .unset, .unset, .unset] [(.ref b), (.ref b)])) _
    refine XS.iconst X1.here hx rfl (hb hby d14_4) ?_
    show Steps p.tables e below (T1.setTop (mkF m 5 #[.val (.ref a), .val (.int (4 : Int32)), .val (.long q1), .second, .val (.int (0 : Int32)), .unset, .unset, .unset, .unset] [(.int (1 : Int32)), (.ref b), (.ref b)])) _
    refine XS.aloadN X1.here hx rfl (hb hby d14_5) rfl rfl ?_
    exact Steps.refl _
  obtain ⟨cq4, kq4, q4a, q4b, q4c⟩ := isOf hZ e1 KTe.1
  obtain ⟨_, _, ⟨T4, L4, k4, n4⟩, -, X4, ⟨Lc4, hQ4, l4, y4, z4⟩, st4⟩ := X1.virtualBack hx (y := (⟨"com/example/admission_by_rate/admissionbyrate/KeyTable", "places", "()I"⟩ : MethodName)) (z := (⟨"com/example/admission_by_rate/admissionbyrate/KeyTable", "places", "()I"⟩ : MethodName)) hown (mvT hZ (hw _ (List.mem_of_getElem? (i := 90) rfl))) (mvT hZ (hw _ (List.mem_of_getElem? (i := 91) rfl))) (notFace_of_selects (args := #[]) (mvT hZ (hw _ (List.mem_of_getElem? (i := 93) rfl)))) (mvT hZ (hw _ (List.mem_of_getElem? (i := 93) rfl))) (mvT hZ (hw _ (List.mem_of_getElem? (i := 92) rfl))) (by decide) (backOf (W := 3) (rm15 l Z a0 hw [] a ia ma (3 : Int32) (0 : Int64) (1 : Int32) (2 : Int32) [(0 : Int32), (1 : Int32), (0 : Int32), (0 : Int32), (3 : Int32), (0 : Int32)] h1 n0 (Nat.le_trans Z0 E1.1) KTe) hZ (hw _ (List.mem_of_getElem? (i := 94) rfl)) (hw _ (List.mem_of_getElem? (i := 2) rfl)) (by decide) (by decide)) q4a q4c (g := (mkF m 6 #[.val (.ref a), .val (.int (4 : Int32)), .val (.long q1), .second, .val (.int (0 : Int32)), .unset, .unset, .unset, .unset] [(.ref a), (.int (1 : Int32)), (.ref b), (.ref b)])) rfl (by rw [hml]; rfl) (Steps.refl _) (argsL := []) (rest := [(.int (1 : Int32)), (.ref b), (.ref b)]) (lenOf pd_6 rfl) rfl (by show 2 * 0 + _ ≤ _; exact Nat.le_of_eq rfl) (hb hby d14_6) (fun _ _ => ⟨rfl, e1, (by decide : 1 + 0 ≤ _), (by decide : 8 + 0 ≤ _)⟩)
  dsimp only [Pt.U, Pt.locs, Pt.cells, Pt.slots] at X4 l4 y4 z4 st4 hQ4
  subst l4 y4 z4
  obtain ⟨rfl, N4q, e4⟩ := hQ4
  have N4 := Fr.app N0 N4q
  have S5 : Steps p.tables e below Ω (T4.setTop (mkF m 9 #[.val (.ref a), .val (.int (4 : Int32)), .val (.long q1), .second, .val (.int (0 : Int32)), .unset, .unset, .unset, .unset] [(.int ((1 : Int32) + (1 : Int32))), (.int (1 : Int32)), (.ref b), (.ref b)])) := S3.trans st4
  rw [(by decide : ((1 : Int32) + (1 : Int32)) = (2 : Int32))] at S5
  have S6 : Steps p.tables e below Ω (T4.setTop (mkF m 11 #[.val (.ref a), .val (.int (4 : Int32)), .val (.long q1), .second, .val (.int (0 : Int32)), .unset, .unset, .unset, .unset] [(.long q1), (.int (4 : Int32)), (.int (2 : Int32)), (.int (1 : Int32)), (.ref b), (.ref b)])) := by
    refine S5.trans ?_
    refine XS.iloadN X4.here hx rfl (hb hby d14_9) rfl ?_
    show Steps p.tables e below (T4.setTop (mkF m 10 #[.val (.ref a), .val (.int (4 : Int32)), .val (.long q1), .second, .val (.int (0 : Int32)), .unset, .unset, .unset, .unset] [(.int (4 : Int32)), (.int (2 : Int32)), (.int (1 : Int32)), (.ref b), (.ref b)])) _
    refine XS.lloadN X4.here hx rfl (hb hby d14_10) rfl ?_
    exact Steps.refl _
  obtain ⟨_, _, ⟨T7, L7, k7, n7⟩, -, X7, ⟨Lc7, hQ7, l7, y7, z7⟩, st7⟩ := X4.specialBack hx (y := (⟨"com/example/admission_by_rate/admissionbyrate/KeyTable", "<init>", "(ZIIJ)V"⟩ : MethodName)) rfl hown (mvT hZ (hw _ (List.mem_of_getElem? (i := 6) rfl))) (mvT hZ (hw _ (List.mem_of_getElem? (i := 7) rfl))) (mvT hZ (hw _ (List.mem_of_getElem? (i := 8) rfl))) (by decide) (backOf (W := 1) (rm2 l Z a0 hw [] b (1 : Int32) (2 : Int32) (4 : Int32) q1 8 h1 n0 (Nat.le_trans Z0 E1.1) A1 F_inLongs_b F_stride_b F_ints_b F_base_b F_objects_b F_marks_b F_mask_b F_count_b g_b (by decide) (by decide) (by decide) (by decide)) hZ (hw _ (List.mem_of_getElem? (i := 8) rfl)) (hw _ (List.mem_of_getElem? (i := 2) rfl)) (by decide) (by decide)) (g := (mkF m 11 #[.val (.ref a), .val (.int (4 : Int32)), .val (.long q1), .second, .val (.int (0 : Int32)), .unset, .unset, .unset, .unset] [(.long q1), (.int (4 : Int32)), (.int (2 : Int32)), (.int (1 : Int32)), (.ref b), (.ref b)])) rfl (by rw [hml]; rfl) (Steps.refl _) (a := b) (argsL := [(.int (1 : Int32)), (.int (2 : Int32)), (.int (4 : Int32)), (.long q1)]) (rest := [(.ref b)]) (lenOf pd_5 rfl) rfl (by show 2 * 0 + _ ≤ _; exact Nat.le_of_eq rfl) (hb hby d14_11) (fun _ _ => ⟨rfl, e4, (by decide : 1 + 2 ≤ _), (by decide : 8 + 10 ≤ _)⟩)
  dsimp only [Pt.U, Pt.locs, Pt.cells, Pt.slots] at X7 l7 y7 z7 st7 hQ7
  subst l7 y7 z7
  obtain ⟨ib, mb, rfl, N7q, K7, KB0, sib, smb⟩ := hQ7
  have N7 := Fr.app N4 N7q
  have S8 : Steps p.tables e below Ω (T7.setTop (mkF m 14 #[.val (.ref a), .val (.int (4 : Int32)), .val (.long q1), .second, .val (.int (0 : Int32)), .unset, .unset, .unset, .unset] [(.ref b)])) := S6.trans st7
  have K0 : Keep h0 T7.heap [] := ((Keep.refl h0 []).ext E1).trans K7 (fun x hx => Or.inr (by cases List.mem_singleton.mp hx; exact sb))
  have gb := Nat.le_trans Z0 sb
  have hib : h0.size ≤ ib := Nat.le_trans E1.1 sib
  have hmb : h0.size ≤ mb := Nat.le_trans E1.1 smb
  have gib := Nat.le_trans Z0 hib
  have xa : a ∉ [ib] := ninS (Nat.ne_of_lt (Nat.lt_of_lt_of_le lts.1 hib)) nin0
  have xi : ia ∉ [ib] := ninS (Nat.ne_of_lt (Nat.lt_of_lt_of_le lts.2.1 hib)) nin0
  have xm : ma ∉ [ib] := ninS (Nat.ne_of_lt (Nat.lt_of_lt_of_le lts.2.2 hib)) nin0
  have KTo0 : KT Z T7.heap a ia ma (3 : Int32) (0 : Int64) (1 : Int32) (2 : Int32) [(0 : Int32), (1 : Int32), (0 : Int32), (0 : Int32), (3 : Int32), (0 : Int32)] := KTs.keep K0 nin0 nin0 nin0
  have S9 : Steps p.tables e below Ω (T7.setTop (mkF m 22 #[.val (.ref a), .val (.int (4 : Int32)), .val (.long q1), .second, .val (.int (0 : Int32)), .val (.ref b), .val (.int (0 : Int32)), .unset, .unset] [(.ref a), (.int (0 : Int32))])) := by
    refine S8.trans ?_
    refine XS.astore X7.here hx rfl (hb hby d14_14) rfl rfl (l' := #[.val (.ref a), .val (.int (4 : Int32)), .val (.long q1), .second, .val (.int (0 : Int32)), .val (.ref b), .unset, .unset, .unset]) rfl ?_
    show Steps p.tables e below (T7.setTop (mkF m 16 #[.val (.ref a), .val (.int (4 : Int32)), .val (.long q1), .second, .val (.int (0 : Int32)), .val (.ref b), .unset, .unset, .unset] [])) _
    refine XS.iconst X7.here hx rfl (hb hby d14_16) ?_
    show Steps p.tables e below (T7.setTop (mkF m 17 #[.val (.ref a), .val (.int (4 : Int32)), .val (.long q1), .second, .val (.int (0 : Int32)), .val (.ref b), .unset, .unset, .unset] [(.int (0 : Int32))])) _
    refine XS.istore X7.here hx rfl (hb hby d14_17) rfl (l' := #[.val (.ref a), .val (.int (4 : Int32)), .val (.long q1), .second, .val (.int (0 : Int32)), .val (.ref b), .val (.int (0 : Int32)), .unset, .unset]) rfl ?_
    show Steps p.tables e below (T7.setTop (mkF m 19 #[.val (.ref a), .val (.int (4 : Int32)), .val (.long q1), .second, .val (.int (0 : Int32)), .val (.ref b), .val (.int (0 : Int32)), .unset, .unset] [])) _
    refine XS.iload X7.here hx rfl (hb hby d14_19) rfl ?_
    show Steps p.tables e below (T7.setTop (mkF m 21 #[.val (.ref a), .val (.int (4 : Int32)), .val (.long q1), .second, .val (.int (0 : Int32)), .val (.ref b), .val (.int (0 : Int32)), .unset, .unset] [(.int (0 : Int32))])) _
    refine XS.aloadN X7.here hx rfl (hb hby d14_21) rfl rfl ?_
    exact Steps.refl _
  obtain ⟨E0_0, Pst_0, Pin_0, Pbs_0, Pma_0, Pmk_0, Pcn_0, A0_0, Em_0, Pw_0, -, -, -⟩ := (id KTo0)
  obtain ⟨T10, X10, e10, st10⟩ := getF X7 hx hZ hown (host := "") (Or.inl (hw _ (List.mem_of_getElem? (i := 34) rfl))) Via.refl rfl Pmk_0 (g := (mkF m 22 #[.val (.ref a), .val (.int (4 : Int32)), .val (.long q1), .second, .val (.int (0 : Int32)), .val (.ref b), .val (.int (0 : Int32)), .unset, .unset] [(.ref a), (.int (0 : Int32))])) rfl rfl (hb hby d14_22)
  have S11 : Steps p.tables e below Ω (T10.setTop (mkF m 25 #[.val (.ref a), .val (.int (4 : Int32)), .val (.long q1), .second, .val (.int (0 : Int32)), .val (.ref b), .val (.int (0 : Int32)), .unset, .unset] [(.int (1 : Int32)), (.int (0 : Int32))])) := S9.trans (st10 _ (Steps.refl _))
  have S12 : Steps p.tables e below Ω (T10.setTop (mkF m 31 #[.val (.ref a), .val (.int (4 : Int32)), .val (.long q1), .second, .val (.int (0 : Int32)), .val (.ref b), .val (.int (0 : Int32)), .unset, .unset] [(.int (0 : Int32)), (.ref a)])) := by
    refine S11.trans ?_
    refine XS.icmpNo X10.here hx rfl (hb hby d14_25) rfl (XT.ii_gt_f (by decide)) ?_
    show Steps p.tables e below (T10.setTop (mkF m 28 #[.val (.ref a), .val (.int (4 : Int32)), .val (.long q1), .second, .val (.int (0 : Int32)), .val (.ref b), .val (.int (0 : Int32)), .unset, .unset] [])) _
    refine XS.aloadN X10.here hx rfl (hb hby d14_28) rfl rfl ?_
    show Steps p.tables e below (T10.setTop (mkF m 29 #[.val (.ref a), .val (.int (4 : Int32)), .val (.long q1), .second, .val (.int (0 : Int32)), .val (.ref b), .val (.int (0 : Int32)), .unset, .unset] [(.ref a)])) _
    refine XS.iload X10.here hx rfl (hb hby d14_29) rfl ?_
    exact Steps.refl _
  obtain ⟨cq13, kq13, q13a, q13b, q13c⟩ := isOf hZ e10 KTo0.1
  obtain ⟨_, _, ⟨T13, L13, k13, n13⟩, -, X13, ⟨Lc13, hQ13, l13, y13, z13⟩, st13⟩ := X10.virtualBack hx (y := (⟨"com/example/admission_by_rate/admissionbyrate/KeyTable", "digestAt", "(I)J"⟩ : MethodName)) (z := (⟨"com/example/admission_by_rate/admissionbyrate/KeyTable", "digestAt", "(I)J"⟩ : MethodName)) hown (mvT hZ (hw _ (List.mem_of_getElem? (i := 67) rfl))) (mvT hZ (hw _ (List.mem_of_getElem? (i := 68) rfl))) (notFace_of_selects (args := #[]) (mvT hZ (hw _ (List.mem_of_getElem? (i := 70) rfl)))) (mvT hZ (hw _ (List.mem_of_getElem? (i := 70) rfl))) (mvT hZ (hw _ (List.mem_of_getElem? (i := 69) rfl))) (by decide) (backOf (W := 0) (rm10 l Z a0 hw [] a (0 : Int32) ia ma (3 : Int32) (0 : Int64) (1 : Int32) (2 : Int32) [(0 : Int32), (1 : Int32), (0 : Int32), (0 : Int32), (3 : Int32), (0 : Int32)] (0 : Int32) (1 : Int32) T7.heap n0 (Nat.le_trans (Nat.le_trans Z0 E1.1) K7.1) KTo0 (by decide) rfl (by decide) rfl) hZ (hw _ (List.mem_of_getElem? (i := 71) rfl)) (hw _ (List.mem_of_getElem? (i := 2) rfl)) (by decide) (by decide)) q13a q13c (g := (mkF m 31 #[.val (.ref a), .val (.int (4 : Int32)), .val (.long q1), .second, .val (.int (0 : Int32)), .val (.ref b), .val (.int (0 : Int32)), .unset, .unset] [(.int (0 : Int32)), (.ref a)])) rfl (by rw [hml]; rfl) (Steps.refl _) (argsL := [(.int (0 : Int32))]) (rest := []) (lenOf pd_0 rfl) rfl (by show 2 * 0 + _ ≤ _; exact Nat.le_of_eq rfl) (hb hby d14_31) (fun _ _ => ⟨rfl, e10, (by decide : 3 + 0 ≤ _), (by decide : 18 + 0 ≤ _)⟩)
  dsimp only [Pt.U, Pt.locs, Pt.cells, Pt.slots] at X13 l13 y13 z13 st13 hQ13
  subst l13 y13 z13
  obtain ⟨rfl, N13q, e13⟩ := hQ13
  have N13 := Fr.app N7 N13q
  have S14 : Steps p.tables e below Ω (T13.setTop (mkF m 34 #[.val (.ref a), .val (.int (4 : Int32)), .val (.long q1), .second, .val (.int (0 : Int32)), .val (.ref b), .val (.int (0 : Int32)), .unset, .unset] [(.long (own_of (0 : Int32) (1 : Int32)))])) := S12.trans st13
  rw [(by decide : (own_of (0 : Int32) (1 : Int32)) = (1 : Int64))] at S14
  have S15 : Steps p.tables e below Ω (T13.setTop (mkF m 40 #[.val (.ref a), .val (.int (4 : Int32)), .val (.long q1), .second, .val (.int (0 : Int32)), .val (.ref b), .val (.int (0 : Int32)), .val (.long (1 : Int64)), .second] [(.int (lcmpW (1 : Int64) (0 : Int64)))])) := by
    refine S14.trans ?_
    refine XS.lstore X13.here hx rfl (hb hby d14_34) rfl (l' := #[.val (.ref a), .val (.int (4 : Int32)), .val (.long q1), .second, .val (.int (0 : Int32)), .val (.ref b), .val (.int (0 : Int32)), .val (.long (1 : Int64)), .second]) rfl ?_
    show Steps p.tables e below (T13.setTop (mkF m 36 #[.val (.ref a), .val (.int (4 : Int32)), .val (.long q1), .second, .val (.int (0 : Int32)), .val (.ref b), .val (.int (0 : Int32)), .val (.long (1 : Int64)), .second] [])) _
    refine XS.lload X13.here hx rfl (hb hby d14_36) rfl ?_
    show Steps p.tables e below (T13.setTop (mkF m 38 #[.val (.ref a), .val (.int (4 : Int32)), .val (.long q1), .second, .val (.int (0 : Int32)), .val (.ref b), .val (.int (0 : Int32)), .val (.long (1 : Int64)), .second] [(.long (1 : Int64))])) _
    refine XS.lconst X13.here hx rfl (hb hby d14_38) ?_
    show Steps p.tables e below (T13.setTop (mkF m 39 #[.val (.ref a), .val (.int (4 : Int32)), .val (.long q1), .second, .val (.int (0 : Int32)), .val (.ref b), .val (.int (0 : Int32)), .val (.long (1 : Int64)), .second] [(.long (0 : Int64)), (.long (1 : Int64))])) _
    refine XS.lcmp X13.here hx rfl (hb hby d14_39) rfl ?_
    exact Steps.refl _
  have S16 : Steps p.tables e below Ω (T13.setTop (mkF m 51 #[.val (.ref a), .val (.int (4 : Int32)), .val (.long q1), .second, .val (.int (0 : Int32)), .val (.ref b), .val (.int (0 : Int32)), .val (.long (1 : Int64)), .second] [(.long (1 : Int64)), (.int (0 : Int32)), (.ref b)])) := by
    refine S15.trans ?_
    refine XS.ifNo X13.here hx rfl (hb hby d14_40) rfl (XT.ll_eq_f (by decide)) ?_
    show Steps p.tables e below (T13.setTop (mkF m 43 #[.val (.ref a), .val (.int (4 : Int32)), .val (.long q1), .second, .val (.int (0 : Int32)), .val (.ref b), .val (.int (0 : Int32)), .val (.long (1 : Int64)), .second] [])) _
    refine XS.aload X13.here hx rfl (hb hby d14_43) rfl rfl ?_
    show Steps p.tables e below (T13.setTop (mkF m 45 #[.val (.ref a), .val (.int (4 : Int32)), .val (.long q1), .second, .val (.int (0 : Int32)), .val (.ref b), .val (.int (0 : Int32)), .val (.long (1 : Int64)), .second] [(.ref b)])) _
    refine XS.iload X13.here hx rfl (hb hby d14_45) rfl ?_
    show Steps p.tables e below (T13.setTop (mkF m 47 #[.val (.ref a), .val (.int (4 : Int32)), .val (.long q1), .second, .val (.int (0 : Int32)), .val (.ref b), .val (.int (0 : Int32)), .val (.long (1 : Int64)), .second] [(.int (0 : Int32)), (.ref b)])) _
    refine XS.iloadN X13.here hx rfl (hb hby d14_47) rfl ?_
    show Steps p.tables e below (T13.setTop (mkF m 48 #[.val (.ref a), .val (.int (4 : Int32)), .val (.long q1), .second, .val (.int (0 : Int32)), .val (.ref b), .val (.int (0 : Int32)), .val (.long (1 : Int64)), .second] [(.int (4 : Int32)), (.int (0 : Int32)), (.ref b)])) _
    refine XS.imul X13.here hx rfl (hb hby d14_48) rfl ?_
    show Steps p.tables e below (T13.setTop (mkF m 49 #[.val (.ref a), .val (.int (4 : Int32)), .val (.long q1), .second, .val (.int (0 : Int32)), .val (.ref b), .val (.int (0 : Int32)), .val (.long (1 : Int64)), .second] [(.int (0 : Int32)), (.ref b)])) _
    refine XS.lload X13.here hx rfl (hb hby d14_49) rfl ?_
    exact Steps.refl _
  obtain ⟨cq17, q17, q17'⟩ := (KB0.1).cell
  obtain ⟨_, _, ⟨T17, L17, k17, n17⟩, -, X17, ⟨Lc17, hQ17, l17, y17, z17⟩, st17⟩ := X13.privateBack hx (y := (⟨"com/example/admission_by_rate/admissionbyrate/KeyTable", "putLongAt", "(IJ)V"⟩ : MethodName)) hown (mvT hZ (hw _ (List.mem_of_getElem? (i := 48) rfl))) (mvT hZ (hw _ (List.mem_of_getElem? (i := 49) rfl))) (own_sel (z := (⟨"com/example/admission_by_rate/admissionbyrate/KeyTable", "holds", "(J)Z"⟩ : MethodName)) (mvT hZ (hw _ (List.mem_of_getElem? (i := 41) rfl))) rfl (Cond.privateMethod_at (mvP hZ (hw _ (List.mem_of_getElem? (i := 50) rfl)) (args := #[]))) (mvT hZ (hw _ (List.mem_of_getElem? (i := 49) rfl))) (by decide)) (Cond.privateMethod_at (mvP hZ (hw _ (List.mem_of_getElem? (i := 50) rfl)) (args := #[]))) (mvT hZ (hw _ (List.mem_of_getElem? (i := 51) rfl))) (by decide) (backOf (W := 0) (rm7 l Z a0 hw [] b (0 : Int32) (1 : Int64) ib mb (4 : Int32) q1 ((2 : Int32) - (1 : Int32)) (0 : Int32) (List.replicate 8 (0 : Int32)) 0 T7.heap n0 (Nat.le_trans (Nat.le_trans Z0 E1.1) K7.1) KB0 gib (by decide) rfl (by decide) rfl (Nat.le_of_ble_eq_true rfl)) hZ (hw _ (List.mem_of_getElem? (i := 51) rfl)) (hw _ (List.mem_of_getElem? (i := 2) rfl)) (by decide) (by decide)) (g := (mkF m 51 #[.val (.ref a), .val (.int (4 : Int32)), .val (.long q1), .second, .val (.int (0 : Int32)), .val (.ref b), .val (.int (0 : Int32)), .val (.long (1 : Int64)), .second] [(.long (1 : Int64)), (.int (0 : Int32)), (.ref b)])) rfl (by rw [hml]; rfl) (Steps.refl _) (a := b) (by rw [e13]; exact q17) q17' (argsL := [(.int (0 : Int32)), (.long (1 : Int64))]) (rest := []) (lenOf pd_2 rfl) rfl (by show 2 * 0 + _ ≤ _; exact Nat.le_of_eq rfl) (hb hby d14_51) (fun _ _ => ⟨rfl, e13, (by decide : 3 + 0 ≤ _), (by decide : 18 + 0 ≤ _)⟩)
  dsimp only [Pt.U, Pt.locs, Pt.cells, Pt.slots] at X17 l17 y17 z17 st17 hQ17
  subst l17 y17 z17
  obtain ⟨rfl, N17q, K17, KB17⟩ := hQ17
  have N17 := Fr.app N13 N17q
  have S18 : Steps p.tables e below Ω (T17.setTop (mkF m 54 #[.val (.ref a), .val (.int (4 : Int32)), .val (.long q1), .second, .val (.int (0 : Int32)), .val (.ref b), .val (.int (0 : Int32)), .val (.long (1 : Int64)), .second] [])) := S16.trans st17
  have K_17 : Keep h0 T17.heap [] := K0.trans K17 (fun x hx => Or.inr (by cases List.mem_singleton.mp hx; exact hib))
  have KTo_17 : KT Z T17.heap a ia ma (3 : Int32) (0 : Int64) (1 : Int32) (2 : Int32) [(0 : Int32), (1 : Int32), (0 : Int32), (0 : Int32), (3 : Int32), (0 : Int32)] := KTo0.keep K17 xa xi xm
  have S19 : Steps p.tables e below Ω (T17.setTop (mkF m 58 #[.val (.ref a), .val (.int (4 : Int32)), .val (.long q1), .second, .val (.int (0 : Int32)), .val (.ref b), .val (.int (0 : Int32)), .val (.long (1 : Int64)), .second] [(.int (0 : Int32)), (.int (0 : Int32))])) := by
    refine S18.trans ?_
    refine XS.iload X17.here hx rfl (hb hby d14_54) rfl ?_
    show Steps p.tables e below (T17.setTop (mkF m 56 #[.val (.ref a), .val (.int (4 : Int32)), .val (.long q1), .second, .val (.int (0 : Int32)), .val (.ref b), .val (.int (0 : Int32)), .val (.long (1 : Int64)), .second] [(.int (0 : Int32))])) _
    refine XS.iload X17.here hx rfl (hb hby d14_56) rfl ?_
    exact Steps.refl _
  have S20 : Steps p.tables e below Ω (T17.setTop (mkF m 76 #[.val (.ref a), .val (.int (4 : Int32)), .val (.long q1), .second, .val (.int (0 : Int32)), .val (.ref b), .val (.int (0 : Int32)), .val (.long (1 : Int64)), .second] [(.ref b)])) := by
    refine S19.trans ?_
    refine XS.icmpYes X17.here hx rfl (pc0 := 58) (pc' := 74) rfl (hb hby d14_58) rfl (XT.ii_eq_t (by decide)) (by decide) (by decide) ?_
    show Steps p.tables e below (T17.setTop (mkF m 74 #[.val (.ref a), .val (.int (4 : Int32)), .val (.long q1), .second, .val (.int (0 : Int32)), .val (.ref b), .val (.int (0 : Int32)), .val (.long (1 : Int64)), .second] [])) _
    refine XS.aload X17.here hx rfl (hb hby d14_74) rfl rfl ?_
    exact Steps.refl _
  obtain ⟨EB, PBst, PBin, PBbs, PBma, PBmk, PBcn, AB, EBm, PBw, -, -, -⟩ := (id KB17)
  obtain ⟨EA, PAst, PAin, PAbs, PAma, PAmk, PAcn, AA, EAm, PAw, -, -, -⟩ := (id KTo_17)
  obtain ⟨T21, X21, e21, st21⟩ := getF X17 hx hZ hown (host := "") (Or.inl (hw _ (List.mem_of_getElem? (i := 32) rfl))) Via.refl rfl PBma (g := (mkF m 76 #[.val (.ref a), .val (.int (4 : Int32)), .val (.long q1), .second, .val (.int (0 : Int32)), .val (.ref b), .val (.int (0 : Int32)), .val (.long (1 : Int64)), .second] [(.ref b)])) rfl rfl (hb hby d14_76)
  have S22 : Steps p.tables e below Ω (T21.setTop (mkF m 79 #[.val (.ref a), .val (.int (4 : Int32)), .val (.long q1), .second, .val (.int (0 : Int32)), .val (.ref b), .val (.int (0 : Int32)), .val (.long (1 : Int64)), .second] [(.ref mb)])) := S20.trans (st21 _ (Steps.refl _))
  have S23 : Steps p.tables e below Ω (T21.setTop (mkF m 82 #[.val (.ref a), .val (.int (4 : Int32)), .val (.long q1), .second, .val (.int (0 : Int32)), .val (.ref b), .val (.int (0 : Int32)), .val (.long (1 : Int64)), .second] [(.ref a), (.int (0 : Int32)), (.ref mb)])) := by
    refine S22.trans ?_
    refine XS.iload X21.here hx rfl (hb hby d14_79) rfl ?_
    show Steps p.tables e below (T21.setTop (mkF m 81 #[.val (.ref a), .val (.int (4 : Int32)), .val (.long q1), .second, .val (.int (0 : Int32)), .val (.ref b), .val (.int (0 : Int32)), .val (.long (1 : Int64)), .second] [(.int (0 : Int32)), (.ref mb)])) _
    refine XS.aloadN X21.here hx rfl (hb hby d14_81) rfl rfl ?_
    exact Steps.refl _
  obtain ⟨T24, X24, e24, st24⟩ := getF X21 hx hZ hown (host := "") (Or.inl (hw _ (List.mem_of_getElem? (i := 32) rfl))) Via.refl e21 PAma (g := (mkF m 82 #[.val (.ref a), .val (.int (4 : Int32)), .val (.long q1), .second, .val (.int (0 : Int32)), .val (.ref b), .val (.int (0 : Int32)), .val (.long (1 : Int64)), .second] [(.ref a), (.int (0 : Int32)), (.ref mb)])) rfl rfl (hb hby d14_82)
  have S25 : Steps p.tables e below Ω (T24.setTop (mkF m 85 #[.val (.ref a), .val (.int (4 : Int32)), .val (.long q1), .second, .val (.int (0 : Int32)), .val (.ref b), .val (.int (0 : Int32)), .val (.long (1 : Int64)), .second] [(.ref ma), (.int (0 : Int32)), (.ref mb)])) := S23.trans (st24 _ (Steps.refl _))
  have S26 : Steps p.tables e below Ω (T24.setTop (mkF m 87 #[.val (.ref a), .val (.int (4 : Int32)), .val (.long q1), .second, .val (.int (0 : Int32)), .val (.ref b), .val (.int (0 : Int32)), .val (.long (1 : Int64)), .second] [(.int (0 : Int32)), (.ref ma), (.int (0 : Int32)), (.ref mb)])) := by
    refine S25.trans ?_
    refine XS.iload X24.here hx rfl (hb hby d14_85) rfl ?_
    exact Steps.refl _
  obtain ⟨cq27, kq27, q27a, q27b, q27c⟩ := isOf hZ e24 EAm
  obtain ⟨_, _, ⟨T27, L27, k27, n27⟩, -, X27, ⟨Lc27, hQ27, l27, y27, z27⟩, st27⟩ := X24.virtualBack hx (y := (⟨"com/example/admission_by_rate/admissionbyrate/PlaceMarks", "at", "(I)I"⟩ : MethodName)) (z := (⟨"com/example/admission_by_rate/admissionbyrate/PlaceMarks", "at", "(I)I"⟩ : MethodName)) hown (mvT hZ (hw _ (List.mem_of_getElem? (i := 95) rfl))) (mvT hZ (hw _ (List.mem_of_getElem? (i := 96) rfl))) (notFace_of_selects (args := #[]) (mvT hZ (hw _ (List.mem_of_getElem? (i := 98) rfl)))) (mvT hZ (hw _ (List.mem_of_getElem? (i := 98) rfl))) (mvT hZ (hw _ (List.mem_of_getElem? (i := 97) rfl))) (by decide) (backOf (W := 2) (rm16 l Z a0 hw [] ma (0 : Int32)  T17.heap n0 (Nat.le_trans (Nat.le_trans (Nat.le_trans Z0 E1.1) K7.1) K17.1) PAw) hZ (hw _ (List.mem_of_getElem? (i := 99) rfl)) (hw _ (List.mem_of_getElem? (i := 25) rfl)) (by decide) (by decide)) q27a q27c (g := (mkF m 87 #[.val (.ref a), .val (.int (4 : Int32)), .val (.long q1), .second, .val (.int (0 : Int32)), .val (.ref b), .val (.int (0 : Int32)), .val (.long (1 : Int64)), .second] [(.int (0 : Int32)), (.ref ma), (.int (0 : Int32)), (.ref mb)])) rfl (by rw [hml]; rfl) (Steps.refl _) (argsL := [(.int (0 : Int32))]) (rest := [(.int (0 : Int32)), (.ref mb)]) (lenOf pd_7 rfl) rfl (by show 2 * 0 + _ ≤ _; exact Nat.le_of_eq rfl) (hb hby d14_87) (fun _ _ => ⟨rfl, e24, (by decide : 3 + 0 ≤ _), (by decide : 18 + 0 ≤ _)⟩)
  dsimp only [Pt.U, Pt.locs, Pt.cells, Pt.slots] at X27 l27 y27 z27 st27 hQ27
  subst l27 y27 z27
  obtain ⟨rfl, N27q, e27⟩ := hQ27
  have N27 := Fr.app N17 N27q
  have S28 : Steps p.tables e below Ω (T27.setTop (mkF m 90 #[.val (.ref a), .val (.int (4 : Int32)), .val (.long q1), .second, .val (.int (0 : Int32)), .val (.ref b), .val (.int (0 : Int32)), .val (.long (1 : Int64)), .second] [(.int (0 : Int32)), (.int (0 : Int32)), (.ref mb)])) := S26.trans st27
  obtain ⟨cq29, kq29, q29a, q29b, q29c⟩ := isOf hZ e27 EBm
  obtain ⟨_, _, ⟨T29, L29, k29, n29⟩, -, X29, ⟨Lc29, hQ29, l29, y29, z29⟩, st29⟩ := X27.virtualBack hx (y := (⟨"com/example/admission_by_rate/admissionbyrate/PlaceMarks", "set", "(II)V"⟩ : MethodName)) (z := (⟨"com/example/admission_by_rate/admissionbyrate/PlaceMarks", "set", "(II)V"⟩ : MethodName)) hown (mvT hZ (hw _ (List.mem_of_getElem? (i := 52) rfl))) (mvT hZ (hw _ (List.mem_of_getElem? (i := 53) rfl))) (notFace_of_selects (args := #[]) (mvT hZ (hw _ (List.mem_of_getElem? (i := 55) rfl)))) (mvT hZ (hw _ (List.mem_of_getElem? (i := 55) rfl))) (mvT hZ (hw _ (List.mem_of_getElem? (i := 54) rfl))) (by decide) (backOf (W := 0) (rm8 l Z a0 hw [] mb (0 : Int32) (0 : Int32)  T17.heap n0 (Nat.le_trans (Nat.le_trans (Nat.le_trans Z0 E1.1) K7.1) K17.1) PBw rfl) hZ (hw _ (List.mem_of_getElem? (i := 56) rfl)) (hw _ (List.mem_of_getElem? (i := 25) rfl)) (by decide) (by decide)) q29a q29c (g := (mkF m 90 #[.val (.ref a), .val (.int (4 : Int32)), .val (.long q1), .second, .val (.int (0 : Int32)), .val (.ref b), .val (.int (0 : Int32)), .val (.long (1 : Int64)), .second] [(.int (0 : Int32)), (.int (0 : Int32)), (.ref mb)])) rfl (by rw [hml]; rfl) (Steps.refl _) (argsL := [(.int (0 : Int32)), (.int (0 : Int32))]) (rest := []) (lenOf pd_3 rfl) rfl (by show 2 * 0 + _ ≤ _; exact Nat.le_of_eq rfl) (hb hby d14_90) (fun _ _ => ⟨rfl, e27, (by decide : 3 + 0 ≤ _), (by decide : 18 + 0 ≤ _)⟩)
  dsimp only [Pt.U, Pt.locs, Pt.cells, Pt.slots] at X29 l29 y29 z29 st29 hQ29
  subst l29 y29 z29
  obtain ⟨rfl, N29q, e29⟩ := hQ29
  have N29 := Fr.app N27 N29q
  have S30 : Steps p.tables e below Ω (T29.setTop (mkF m 93 #[.val (.ref a), .val (.int (4 : Int32)), .val (.long q1), .second, .val (.int (0 : Int32)), .val (.ref b), .val (.int (0 : Int32)), .val (.long (1 : Int64)), .second] [])) := S28.trans st29
  have S31 : Steps p.tables e below Ω (T29.setTop (mkF m 19 #[.val (.ref a), .val (.int (4 : Int32)), .val (.long q1), .second, .val (.int (0 : Int32)), .val (.ref b), .val (.int (1 : Int32)), .val (.long (1 : Int64)), .second] [])) := by
    refine S30.trans ?_
    refine XS.iinc X29.here hx rfl (hb hby d14_93) rfl (l' := #[.val (.ref a), .val (.int (4 : Int32)), .val (.long q1), .second, .val (.int (0 : Int32)), .val (.ref b), .val (.int (1 : Int32)), .val (.long (1 : Int64)), .second]) rfl ?_
    show Steps p.tables e below (T29.setTop (mkF m 96 #[.val (.ref a), .val (.int (4 : Int32)), .val (.long q1), .second, .val (.int (0 : Int32)), .val (.ref b), .val (.int (1 : Int32)), .val (.long (1 : Int64)), .second] [])) _
    refine XS.goto X29.here hx rfl (pc0 := 96) (pc' := 19) rfl (hb hby d14_96) (by decide) (by decide) ?_
    exact Steps.refl _
  have S32 : Steps p.tables e below Ω (T29.setTop (mkF m 22 #[.val (.ref a), .val (.int (4 : Int32)), .val (.long q1), .second, .val (.int (0 : Int32)), .val (.ref b), .val (.int (1 : Int32)), .val (.long (1 : Int64)), .second] [(.ref a), (.int (1 : Int32))])) := by
    refine S31.trans ?_
    refine XS.iload X29.here hx rfl (hb hby d14_19) rfl ?_
    show Steps p.tables e below (T29.setTop (mkF m 21 #[.val (.ref a), .val (.int (4 : Int32)), .val (.long q1), .second, .val (.int (0 : Int32)), .val (.ref b), .val (.int (1 : Int32)), .val (.long (1 : Int64)), .second] [(.int (1 : Int32))])) _
    refine XS.aloadN X29.here hx rfl (hb hby d14_21) rfl rfl ?_
    exact Steps.refl _
  obtain ⟨E0_1, Pst_1, Pin_1, Pbs_1, Pma_1, Pmk_1, Pcn_1, A0_1, Em_1, Pw_1, -, -, -⟩ := (id KTo_17)
  obtain ⟨T33, X33, e33, st33⟩ := getF X29 hx hZ hown (host := "") (Or.inl (hw _ (List.mem_of_getElem? (i := 34) rfl))) Via.refl e29 Pmk_1 (g := (mkF m 22 #[.val (.ref a), .val (.int (4 : Int32)), .val (.long q1), .second, .val (.int (0 : Int32)), .val (.ref b), .val (.int (1 : Int32)), .val (.long (1 : Int64)), .second] [(.ref a), (.int (1 : Int32))])) rfl rfl (hb hby d14_22)
  have S34 : Steps p.tables e below Ω (T33.setTop (mkF m 25 #[.val (.ref a), .val (.int (4 : Int32)), .val (.long q1), .second, .val (.int (0 : Int32)), .val (.ref b), .val (.int (1 : Int32)), .val (.long (1 : Int64)), .second] [(.int (1 : Int32)), (.int (1 : Int32))])) := S32.trans (st33 _ (Steps.refl _))
  have S35 : Steps p.tables e below Ω (T33.setTop (mkF m 31 #[.val (.ref a), .val (.int (4 : Int32)), .val (.long q1), .second, .val (.int (0 : Int32)), .val (.ref b), .val (.int (1 : Int32)), .val (.long (1 : Int64)), .second] [(.int (1 : Int32)), (.ref a)])) := by
    refine S34.trans ?_
    refine XS.icmpNo X33.here hx rfl (hb hby d14_25) rfl (XT.ii_gt_f (by decide)) ?_
    show Steps p.tables e below (T33.setTop (mkF m 28 #[.val (.ref a), .val (.int (4 : Int32)), .val (.long q1), .second, .val (.int (0 : Int32)), .val (.ref b), .val (.int (1 : Int32)), .val (.long (1 : Int64)), .second] [])) _
    refine XS.aloadN X33.here hx rfl (hb hby d14_28) rfl rfl ?_
    show Steps p.tables e below (T33.setTop (mkF m 29 #[.val (.ref a), .val (.int (4 : Int32)), .val (.long q1), .second, .val (.int (0 : Int32)), .val (.ref b), .val (.int (1 : Int32)), .val (.long (1 : Int64)), .second] [(.ref a)])) _
    refine XS.iload X33.here hx rfl (hb hby d14_29) rfl ?_
    exact Steps.refl _
  obtain ⟨cq36, kq36, q36a, q36b, q36c⟩ := isOf hZ e33 KTo_17.1
  obtain ⟨_, _, ⟨T36, L36, k36, n36⟩, -, X36, ⟨Lc36, hQ36, l36, y36, z36⟩, st36⟩ := X33.virtualBack hx (y := (⟨"com/example/admission_by_rate/admissionbyrate/KeyTable", "digestAt", "(I)J"⟩ : MethodName)) (z := (⟨"com/example/admission_by_rate/admissionbyrate/KeyTable", "digestAt", "(I)J"⟩ : MethodName)) hown (mvT hZ (hw _ (List.mem_of_getElem? (i := 67) rfl))) (mvT hZ (hw _ (List.mem_of_getElem? (i := 68) rfl))) (notFace_of_selects (args := #[]) (mvT hZ (hw _ (List.mem_of_getElem? (i := 70) rfl)))) (mvT hZ (hw _ (List.mem_of_getElem? (i := 70) rfl))) (mvT hZ (hw _ (List.mem_of_getElem? (i := 69) rfl))) (by decide) (backOf (W := 0) (rm10 l Z a0 hw [] a (1 : Int32) ia ma (3 : Int32) (0 : Int64) (1 : Int32) (2 : Int32) [(0 : Int32), (1 : Int32), (0 : Int32), (0 : Int32), (3 : Int32), (0 : Int32)] (0 : Int32) (3 : Int32) T17.heap n0 (Nat.le_trans (Nat.le_trans (Nat.le_trans Z0 E1.1) K7.1) K17.1) KTo_17 (by decide) rfl (by decide) rfl) hZ (hw _ (List.mem_of_getElem? (i := 71) rfl)) (hw _ (List.mem_of_getElem? (i := 2) rfl)) (by decide) (by decide)) q36a q36c (g := (mkF m 31 #[.val (.ref a), .val (.int (4 : Int32)), .val (.long q1), .second, .val (.int (0 : Int32)), .val (.ref b), .val (.int (1 : Int32)), .val (.long (1 : Int64)), .second] [(.int (1 : Int32)), (.ref a)])) rfl (by rw [hml]; rfl) (Steps.refl _) (argsL := [(.int (1 : Int32))]) (rest := []) (lenOf pd_0 rfl) rfl (by show 2 * 0 + _ ≤ _; exact Nat.le_of_eq rfl) (hb hby d14_31) (fun _ _ => ⟨rfl, e33, (by decide : 3 + 0 ≤ _), (by decide : 18 + 0 ≤ _)⟩)
  dsimp only [Pt.U, Pt.locs, Pt.cells, Pt.slots] at X36 l36 y36 z36 st36 hQ36
  subst l36 y36 z36
  obtain ⟨rfl, N36q, e36⟩ := hQ36
  have N36 := Fr.app N29 N36q
  have S37 : Steps p.tables e below Ω (T36.setTop (mkF m 34 #[.val (.ref a), .val (.int (4 : Int32)), .val (.long q1), .second, .val (.int (0 : Int32)), .val (.ref b), .val (.int (1 : Int32)), .val (.long (1 : Int64)), .second] [(.long (own_of (0 : Int32) (3 : Int32)))])) := S35.trans st36
  rw [(by decide : (own_of (0 : Int32) (3 : Int32)) = (3 : Int64))] at S37
  have S38 : Steps p.tables e below Ω (T36.setTop (mkF m 40 #[.val (.ref a), .val (.int (4 : Int32)), .val (.long q1), .second, .val (.int (0 : Int32)), .val (.ref b), .val (.int (1 : Int32)), .val (.long (3 : Int64)), .second] [(.int (lcmpW (3 : Int64) (0 : Int64)))])) := by
    refine S37.trans ?_
    refine XS.lstore X36.here hx rfl (hb hby d14_34) rfl (l' := #[.val (.ref a), .val (.int (4 : Int32)), .val (.long q1), .second, .val (.int (0 : Int32)), .val (.ref b), .val (.int (1 : Int32)), .val (.long (3 : Int64)), .second]) rfl ?_
    show Steps p.tables e below (T36.setTop (mkF m 36 #[.val (.ref a), .val (.int (4 : Int32)), .val (.long q1), .second, .val (.int (0 : Int32)), .val (.ref b), .val (.int (1 : Int32)), .val (.long (3 : Int64)), .second] [])) _
    refine XS.lload X36.here hx rfl (hb hby d14_36) rfl ?_
    show Steps p.tables e below (T36.setTop (mkF m 38 #[.val (.ref a), .val (.int (4 : Int32)), .val (.long q1), .second, .val (.int (0 : Int32)), .val (.ref b), .val (.int (1 : Int32)), .val (.long (3 : Int64)), .second] [(.long (3 : Int64))])) _
    refine XS.lconst X36.here hx rfl (hb hby d14_38) ?_
    show Steps p.tables e below (T36.setTop (mkF m 39 #[.val (.ref a), .val (.int (4 : Int32)), .val (.long q1), .second, .val (.int (0 : Int32)), .val (.ref b), .val (.int (1 : Int32)), .val (.long (3 : Int64)), .second] [(.long (0 : Int64)), (.long (3 : Int64))])) _
    refine XS.lcmp X36.here hx rfl (hb hby d14_39) rfl ?_
    exact Steps.refl _
  have S39 : Steps p.tables e below Ω (T36.setTop (mkF m 51 #[.val (.ref a), .val (.int (4 : Int32)), .val (.long q1), .second, .val (.int (0 : Int32)), .val (.ref b), .val (.int (1 : Int32)), .val (.long (3 : Int64)), .second] [(.long (3 : Int64)), (.int (4 : Int32)), (.ref b)])) := by
    refine S38.trans ?_
    refine XS.ifNo X36.here hx rfl (hb hby d14_40) rfl (XT.ll_eq_f (by decide)) ?_
    show Steps p.tables e below (T36.setTop (mkF m 43 #[.val (.ref a), .val (.int (4 : Int32)), .val (.long q1), .second, .val (.int (0 : Int32)), .val (.ref b), .val (.int (1 : Int32)), .val (.long (3 : Int64)), .second] [])) _
    refine XS.aload X36.here hx rfl (hb hby d14_43) rfl rfl ?_
    show Steps p.tables e below (T36.setTop (mkF m 45 #[.val (.ref a), .val (.int (4 : Int32)), .val (.long q1), .second, .val (.int (0 : Int32)), .val (.ref b), .val (.int (1 : Int32)), .val (.long (3 : Int64)), .second] [(.ref b)])) _
    refine XS.iload X36.here hx rfl (hb hby d14_45) rfl ?_
    show Steps p.tables e below (T36.setTop (mkF m 47 #[.val (.ref a), .val (.int (4 : Int32)), .val (.long q1), .second, .val (.int (0 : Int32)), .val (.ref b), .val (.int (1 : Int32)), .val (.long (3 : Int64)), .second] [(.int (1 : Int32)), (.ref b)])) _
    refine XS.iloadN X36.here hx rfl (hb hby d14_47) rfl ?_
    show Steps p.tables e below (T36.setTop (mkF m 48 #[.val (.ref a), .val (.int (4 : Int32)), .val (.long q1), .second, .val (.int (0 : Int32)), .val (.ref b), .val (.int (1 : Int32)), .val (.long (3 : Int64)), .second] [(.int (4 : Int32)), (.int (1 : Int32)), (.ref b)])) _
    refine XS.imul X36.here hx rfl (hb hby d14_48) rfl ?_
    show Steps p.tables e below (T36.setTop (mkF m 49 #[.val (.ref a), .val (.int (4 : Int32)), .val (.long q1), .second, .val (.int (0 : Int32)), .val (.ref b), .val (.int (1 : Int32)), .val (.long (3 : Int64)), .second] [(.int (4 : Int32)), (.ref b)])) _
    refine XS.lload X36.here hx rfl (hb hby d14_49) rfl ?_
    exact Steps.refl _
  obtain ⟨cq40, q40, q40'⟩ := (KB17.1).cell
  obtain ⟨_, _, ⟨T40, L40, k40, n40⟩, -, X40, ⟨Lc40, hQ40, l40, y40, z40⟩, st40⟩ := X36.privateBack hx (y := (⟨"com/example/admission_by_rate/admissionbyrate/KeyTable", "putLongAt", "(IJ)V"⟩ : MethodName)) hown (mvT hZ (hw _ (List.mem_of_getElem? (i := 48) rfl))) (mvT hZ (hw _ (List.mem_of_getElem? (i := 49) rfl))) (own_sel (z := (⟨"com/example/admission_by_rate/admissionbyrate/KeyTable", "holds", "(J)Z"⟩ : MethodName)) (mvT hZ (hw _ (List.mem_of_getElem? (i := 41) rfl))) rfl (Cond.privateMethod_at (mvP hZ (hw _ (List.mem_of_getElem? (i := 50) rfl)) (args := #[]))) (mvT hZ (hw _ (List.mem_of_getElem? (i := 49) rfl))) (by decide)) (Cond.privateMethod_at (mvP hZ (hw _ (List.mem_of_getElem? (i := 50) rfl)) (args := #[]))) (mvT hZ (hw _ (List.mem_of_getElem? (i := 51) rfl))) (by decide) (backOf (W := 0) (rm7 l Z a0 hw [] b (4 : Int32) (3 : Int64) ib mb (4 : Int32) q1 ((2 : Int32) - (1 : Int32)) (0 : Int32) (((List.replicate 8 (0 : Int32)).set 0 (own_hi (1 : Int64))).set (0 + 1) (1 : Int64).toInt32) 4 T17.heap n0 (Nat.le_trans (Nat.le_trans (Nat.le_trans Z0 E1.1) K7.1) K17.1) KB17 gib (by decide) rfl (by decide) rfl (Nat.le_of_ble_eq_true rfl)) hZ (hw _ (List.mem_of_getElem? (i := 51) rfl)) (hw _ (List.mem_of_getElem? (i := 2) rfl)) (by decide) (by decide)) (g := (mkF m 51 #[.val (.ref a), .val (.int (4 : Int32)), .val (.long q1), .second, .val (.int (0 : Int32)), .val (.ref b), .val (.int (1 : Int32)), .val (.long (3 : Int64)), .second] [(.long (3 : Int64)), (.int (4 : Int32)), (.ref b)])) rfl (by rw [hml]; rfl) (Steps.refl _) (a := b) (by rw [e36]; exact q40) q40' (argsL := [(.int (4 : Int32)), (.long (3 : Int64))]) (rest := []) (lenOf pd_2 rfl) rfl (by show 2 * 0 + _ ≤ _; exact Nat.le_of_eq rfl) (hb hby d14_51) (fun _ _ => ⟨rfl, e36, (by decide : 3 + 0 ≤ _), (by decide : 18 + 0 ≤ _)⟩)
  dsimp only [Pt.U, Pt.locs, Pt.cells, Pt.slots] at X40 l40 y40 z40 st40 hQ40
  subst l40 y40 z40
  obtain ⟨rfl, N40q, K40, KB40⟩ := hQ40
  have N40 := Fr.app N36 N40q
  have S41 : Steps p.tables e below Ω (T40.setTop (mkF m 54 #[.val (.ref a), .val (.int (4 : Int32)), .val (.long q1), .second, .val (.int (0 : Int32)), .val (.ref b), .val (.int (1 : Int32)), .val (.long (3 : Int64)), .second] [])) := S39.trans st40
  have K_40 : Keep h0 T40.heap [] := K_17.trans K40 (fun x hx => Or.inr (by cases List.mem_singleton.mp hx; exact hib))
  have KTo_40 : KT Z T40.heap a ia ma (3 : Int32) (0 : Int64) (1 : Int32) (2 : Int32) [(0 : Int32), (1 : Int32), (0 : Int32), (0 : Int32), (3 : Int32), (0 : Int32)] := KTo_17.keep K40 xa xi xm
  have S42 : Steps p.tables e below Ω (T40.setTop (mkF m 58 #[.val (.ref a), .val (.int (4 : Int32)), .val (.long q1), .second, .val (.int (0 : Int32)), .val (.ref b), .val (.int (1 : Int32)), .val (.long (3 : Int64)), .second] [(.int (0 : Int32)), (.int (1 : Int32))])) := by
    refine S41.trans ?_
    refine XS.iload X40.here hx rfl (hb hby d14_54) rfl ?_
    show Steps p.tables e below (T40.setTop (mkF m 56 #[.val (.ref a), .val (.int (4 : Int32)), .val (.long q1), .second, .val (.int (0 : Int32)), .val (.ref b), .val (.int (1 : Int32)), .val (.long (3 : Int64)), .second] [(.int (1 : Int32))])) _
    refine XS.iload X40.here hx rfl (hb hby d14_56) rfl ?_
    exact Steps.refl _
  have S43 : Steps p.tables e below Ω (T40.setTop (mkF m 68 #[.val (.ref a), .val (.int (4 : Int32)), .val (.long q1), .second, .val (.int (0 : Int32)), .val (.ref b), .val (.int (1 : Int32)), .val (.long (3 : Int64)), .second] [(.int (1 : Int32)), (.ref a), (.int (1 : Int32)), (.ref b)])) := by
    refine S42.trans ?_
    refine XS.icmpNo X40.here hx rfl (hb hby d14_58) rfl (XT.ii_eq_f (by decide)) ?_
    show Steps p.tables e below (T40.setTop (mkF m 61 #[.val (.ref a), .val (.int (4 : Int32)), .val (.long q1), .second, .val (.int (0 : Int32)), .val (.ref b), .val (.int (1 : Int32)), .val (.long (3 : Int64)), .second] [])) _
    refine XS.aload X40.here hx rfl (hb hby d14_61) rfl rfl ?_
    show Steps p.tables e below (T40.setTop (mkF m 63 #[.val (.ref a), .val (.int (4 : Int32)), .val (.long q1), .second, .val (.int (0 : Int32)), .val (.ref b), .val (.int (1 : Int32)), .val (.long (3 : Int64)), .second] [(.ref b)])) _
    refine XS.iload X40.here hx rfl (hb hby d14_63) rfl ?_
    show Steps p.tables e below (T40.setTop (mkF m 65 #[.val (.ref a), .val (.int (4 : Int32)), .val (.long q1), .second, .val (.int (0 : Int32)), .val (.ref b), .val (.int (1 : Int32)), .val (.long (3 : Int64)), .second] [(.int (1 : Int32)), (.ref b)])) _
    refine XS.aloadN X40.here hx rfl (hb hby d14_65) rfl rfl ?_
    show Steps p.tables e below (T40.setTop (mkF m 66 #[.val (.ref a), .val (.int (4 : Int32)), .val (.long q1), .second, .val (.int (0 : Int32)), .val (.ref b), .val (.int (1 : Int32)), .val (.long (3 : Int64)), .second] [(.ref a), (.int (1 : Int32)), (.ref b)])) _
    refine XS.iload X40.here hx rfl (hb hby d14_66) rfl ?_
    exact Steps.refl _
  obtain ⟨cq44, kq44, q44a, q44b, q44c⟩ := isOf hZ rfl KTo_40.1
  obtain ⟨_, _, ⟨T44, L44, k44, n44⟩, -, X44, ⟨Lc44, hQ44, l44, y44, z44⟩, st44⟩ := X40.virtualBack hx (y := (⟨"com/example/admission_by_rate/admissionbyrate/KeyTable", "longAt", "(I)J"⟩ : MethodName)) (z := (⟨"com/example/admission_by_rate/admissionbyrate/KeyTable", "longAt", "(I)J"⟩ : MethodName)) hown (mvT hZ (hw _ (List.mem_of_getElem? (i := 114) rfl))) (mvT hZ (hw _ (List.mem_of_getElem? (i := 107) rfl))) (notFace_of_selects (args := #[]) (mvT hZ (hw _ (List.mem_of_getElem? (i := 109) rfl)))) (mvT hZ (hw _ (List.mem_of_getElem? (i := 109) rfl))) (mvT hZ (hw _ (List.mem_of_getElem? (i := 108) rfl))) (by decide) (backOf (W := 2) (rm18n l Z a0 hw [] a (1 : Int32) ia ma (3 : Int32) (0 : Int64) (1 : Int32) (2 : Int32) [(0 : Int32), (1 : Int32), (0 : Int32), (0 : Int32), (3 : Int32), (0 : Int32)] (0 : Int32) T40.heap n0 (Nat.le_trans (Nat.le_trans (Nat.le_trans (Nat.le_trans Z0 E1.1) K7.1) K17.1) K40.1) KTo_40 rfl (by decide) rfl) hZ (hw _ (List.mem_of_getElem? (i := 110) rfl)) (hw _ (List.mem_of_getElem? (i := 2) rfl)) (by decide) (by decide)) q44a q44c (g := (mkF m 68 #[.val (.ref a), .val (.int (4 : Int32)), .val (.long q1), .second, .val (.int (0 : Int32)), .val (.ref b), .val (.int (1 : Int32)), .val (.long (3 : Int64)), .second] [(.int (1 : Int32)), (.ref a), (.int (1 : Int32)), (.ref b)])) rfl (by rw [hml]; rfl) (Steps.refl _) (argsL := [(.int (1 : Int32))]) (rest := [(.int (1 : Int32)), (.ref b)]) (lenOf pd_0 rfl) rfl (by show 2 * 0 + _ ≤ _; exact Nat.le_of_eq rfl) (hb hby d14_68) (fun _ _ => ⟨rfl, rfl, (by decide : 3 + 0 ≤ _), (by decide : 18 + 0 ≤ _)⟩)
  dsimp only [Pt.U, Pt.locs, Pt.cells, Pt.slots] at X44 l44 y44 z44 st44 hQ44
  subst l44 y44 z44
  obtain ⟨rfl, N44q, e44⟩ := hQ44
  have N44 := Fr.app N40 N44q
  have S45 : Steps p.tables e below Ω (T44.setTop (mkF m 71 #[.val (.ref a), .val (.int (4 : Int32)), .val (.long q1), .second, .val (.int (0 : Int32)), .val (.ref b), .val (.int (1 : Int32)), .val (.long (3 : Int64)), .second] [(.long ((0 : Int64) + (0 : Int32).toInt64)), (.int (1 : Int32)), (.ref b)])) := S43.trans st44
  rw [(by decide : ((0 : Int64) + (0 : Int32).toInt64) = (0 : Int64))] at S45
  obtain ⟨cq46, kq46, q46a, q46b, q46c⟩ := isOf hZ e44 KB40.1
  obtain ⟨_, _, ⟨T46, L46, k46, n46⟩, -, X46, ⟨Lc46, hQ46, l46, y46, z46⟩, st46⟩ := X44.virtualBack hx (y := (⟨"com/example/admission_by_rate/admissionbyrate/KeyTable", "putLong", "(IJ)V"⟩ : MethodName)) (z := (⟨"com/example/admission_by_rate/admissionbyrate/KeyTable", "putLong", "(IJ)V"⟩ : MethodName)) hown (mvT hZ (hw _ (List.mem_of_getElem? (i := 100) rfl))) (mvT hZ (hw _ (List.mem_of_getElem? (i := 101) rfl))) (notFace_of_selects (args := #[]) (mvT hZ (hw _ (List.mem_of_getElem? (i := 103) rfl)))) (mvT hZ (hw _ (List.mem_of_getElem? (i := 103) rfl))) (mvT hZ (hw _ (List.mem_of_getElem? (i := 102) rfl))) (by decide) (backOf (W := 0) (rm17w l Z a0 hw [] b (1 : Int32) (0 : Int64) ib mb (4 : Int32) q1 ((2 : Int32) - (1 : Int32)) (0 : Int32) (((((List.replicate 8 (0 : Int32)).set 0 (own_hi (1 : Int64))).set (0 + 1) (1 : Int64).toInt32).set 4 (own_hi (3 : Int64))).set (4 + 1) (3 : Int64).toInt32) 6 T40.heap n0 (Nat.le_trans (Nat.le_trans (Nat.le_trans (Nat.le_trans Z0 E1.1) K7.1) K17.1) K40.1) KB40 gib rfl (by decide) rfl (by decide) rfl (Nat.le_of_ble_eq_true rfl)) hZ (hw _ (List.mem_of_getElem? (i := 104) rfl)) (hw _ (List.mem_of_getElem? (i := 2) rfl)) (by decide) (by decide)) q46a q46c (g := (mkF m 71 #[.val (.ref a), .val (.int (4 : Int32)), .val (.long q1), .second, .val (.int (0 : Int32)), .val (.ref b), .val (.int (1 : Int32)), .val (.long (3 : Int64)), .second] [(.long (0 : Int64)), (.int (1 : Int32)), (.ref b)])) rfl (by rw [hml]; rfl) (Steps.refl _) (argsL := [(.int (1 : Int32)), (.long (0 : Int64))]) (rest := []) (lenOf pd_2 rfl) rfl (by show 2 * 0 + _ ≤ _; exact Nat.le_of_eq rfl) (hb hby d14_71) (fun _ _ => ⟨rfl, e44, (by decide : 3 + 0 ≤ _), (by decide : 18 + 0 ≤ _)⟩)
  dsimp only [Pt.U, Pt.locs, Pt.cells, Pt.slots] at X46 l46 y46 z46 st46 hQ46
  subst l46 y46 z46
  obtain ⟨rfl, N46q, K46, KB46⟩ := hQ46
  have N46 := Fr.app N44 N46q
  have S47 : Steps p.tables e below Ω (T46.setTop (mkF m 74 #[.val (.ref a), .val (.int (4 : Int32)), .val (.long q1), .second, .val (.int (0 : Int32)), .val (.ref b), .val (.int (1 : Int32)), .val (.long (3 : Int64)), .second] [])) := S45.trans st46
  have K_46 : Keep h0 T46.heap [] := K_40.trans K46 (fun x hx => Or.inr (by cases List.mem_singleton.mp hx; exact hib))
  have KTo_46 : KT Z T46.heap a ia ma (3 : Int32) (0 : Int64) (1 : Int32) (2 : Int32) [(0 : Int32), (1 : Int32), (0 : Int32), (0 : Int32), (3 : Int32), (0 : Int32)] := KTo_40.keep K46 xa xi xm
  have S48 : Steps p.tables e below Ω (T46.setTop (mkF m 76 #[.val (.ref a), .val (.int (4 : Int32)), .val (.long q1), .second, .val (.int (0 : Int32)), .val (.ref b), .val (.int (1 : Int32)), .val (.long (3 : Int64)), .second] [(.ref b)])) := by
    refine S47.trans ?_
    refine XS.aload X46.here hx rfl (hb hby d14_74) rfl rfl ?_
    exact Steps.refl _
  obtain ⟨EB, PBst, PBin, PBbs, PBma, PBmk, PBcn, AB, EBm, PBw, -, -, -⟩ := (id KB46)
  obtain ⟨EA, PAst, PAin, PAbs, PAma, PAmk, PAcn, AA, EAm, PAw, -, -, -⟩ := (id KTo_46)
  obtain ⟨T49, X49, e49, st49⟩ := getF X46 hx hZ hown (host := "") (Or.inl (hw _ (List.mem_of_getElem? (i := 32) rfl))) Via.refl rfl PBma (g := (mkF m 76 #[.val (.ref a), .val (.int (4 : Int32)), .val (.long q1), .second, .val (.int (0 : Int32)), .val (.ref b), .val (.int (1 : Int32)), .val (.long (3 : Int64)), .second] [(.ref b)])) rfl rfl (hb hby d14_76)
  have S50 : Steps p.tables e below Ω (T49.setTop (mkF m 79 #[.val (.ref a), .val (.int (4 : Int32)), .val (.long q1), .second, .val (.int (0 : Int32)), .val (.ref b), .val (.int (1 : Int32)), .val (.long (3 : Int64)), .second] [(.ref mb)])) := S48.trans (st49 _ (Steps.refl _))
  have S51 : Steps p.tables e below Ω (T49.setTop (mkF m 82 #[.val (.ref a), .val (.int (4 : Int32)), .val (.long q1), .second, .val (.int (0 : Int32)), .val (.ref b), .val (.int (1 : Int32)), .val (.long (3 : Int64)), .second] [(.ref a), (.int (1 : Int32)), (.ref mb)])) := by
    refine S50.trans ?_
    refine XS.iload X49.here hx rfl (hb hby d14_79) rfl ?_
    show Steps p.tables e below (T49.setTop (mkF m 81 #[.val (.ref a), .val (.int (4 : Int32)), .val (.long q1), .second, .val (.int (0 : Int32)), .val (.ref b), .val (.int (1 : Int32)), .val (.long (3 : Int64)), .second] [(.int (1 : Int32)), (.ref mb)])) _
    refine XS.aloadN X49.here hx rfl (hb hby d14_81) rfl rfl ?_
    exact Steps.refl _
  obtain ⟨T52, X52, e52, st52⟩ := getF X49 hx hZ hown (host := "") (Or.inl (hw _ (List.mem_of_getElem? (i := 32) rfl))) Via.refl e49 PAma (g := (mkF m 82 #[.val (.ref a), .val (.int (4 : Int32)), .val (.long q1), .second, .val (.int (0 : Int32)), .val (.ref b), .val (.int (1 : Int32)), .val (.long (3 : Int64)), .second] [(.ref a), (.int (1 : Int32)), (.ref mb)])) rfl rfl (hb hby d14_82)
  have S53 : Steps p.tables e below Ω (T52.setTop (mkF m 85 #[.val (.ref a), .val (.int (4 : Int32)), .val (.long q1), .second, .val (.int (0 : Int32)), .val (.ref b), .val (.int (1 : Int32)), .val (.long (3 : Int64)), .second] [(.ref ma), (.int (1 : Int32)), (.ref mb)])) := S51.trans (st52 _ (Steps.refl _))
  have S54 : Steps p.tables e below Ω (T52.setTop (mkF m 87 #[.val (.ref a), .val (.int (4 : Int32)), .val (.long q1), .second, .val (.int (0 : Int32)), .val (.ref b), .val (.int (1 : Int32)), .val (.long (3 : Int64)), .second] [(.int (1 : Int32)), (.ref ma), (.int (1 : Int32)), (.ref mb)])) := by
    refine S53.trans ?_
    refine XS.iload X52.here hx rfl (hb hby d14_85) rfl ?_
    exact Steps.refl _
  obtain ⟨cq55, kq55, q55a, q55b, q55c⟩ := isOf hZ e52 EAm
  obtain ⟨_, _, ⟨T55, L55, k55, n55⟩, -, X55, ⟨Lc55, hQ55, l55, y55, z55⟩, st55⟩ := X52.virtualBack hx (y := (⟨"com/example/admission_by_rate/admissionbyrate/PlaceMarks", "at", "(I)I"⟩ : MethodName)) (z := (⟨"com/example/admission_by_rate/admissionbyrate/PlaceMarks", "at", "(I)I"⟩ : MethodName)) hown (mvT hZ (hw _ (List.mem_of_getElem? (i := 95) rfl))) (mvT hZ (hw _ (List.mem_of_getElem? (i := 96) rfl))) (notFace_of_selects (args := #[]) (mvT hZ (hw _ (List.mem_of_getElem? (i := 98) rfl)))) (mvT hZ (hw _ (List.mem_of_getElem? (i := 98) rfl))) (mvT hZ (hw _ (List.mem_of_getElem? (i := 97) rfl))) (by decide) (backOf (W := 2) (rm16 l Z a0 hw [] ma (1 : Int32)  T46.heap n0 (Nat.le_trans (Nat.le_trans (Nat.le_trans (Nat.le_trans (Nat.le_trans Z0 E1.1) K7.1) K17.1) K40.1) K46.1) PAw) hZ (hw _ (List.mem_of_getElem? (i := 99) rfl)) (hw _ (List.mem_of_getElem? (i := 25) rfl)) (by decide) (by decide)) q55a q55c (g := (mkF m 87 #[.val (.ref a), .val (.int (4 : Int32)), .val (.long q1), .second, .val (.int (0 : Int32)), .val (.ref b), .val (.int (1 : Int32)), .val (.long (3 : Int64)), .second] [(.int (1 : Int32)), (.ref ma), (.int (1 : Int32)), (.ref mb)])) rfl (by rw [hml]; rfl) (Steps.refl _) (argsL := [(.int (1 : Int32))]) (rest := [(.int (1 : Int32)), (.ref mb)]) (lenOf pd_7 rfl) rfl (by show 2 * 0 + _ ≤ _; exact Nat.le_of_eq rfl) (hb hby d14_87) (fun _ _ => ⟨rfl, e52, (by decide : 3 + 0 ≤ _), (by decide : 18 + 0 ≤ _)⟩)
  dsimp only [Pt.U, Pt.locs, Pt.cells, Pt.slots] at X55 l55 y55 z55 st55 hQ55
  subst l55 y55 z55
  obtain ⟨rfl, N55q, e55⟩ := hQ55
  have N55 := Fr.app N46 N55q
  have S56 : Steps p.tables e below Ω (T55.setTop (mkF m 90 #[.val (.ref a), .val (.int (4 : Int32)), .val (.long q1), .second, .val (.int (0 : Int32)), .val (.ref b), .val (.int (1 : Int32)), .val (.long (3 : Int64)), .second] [(.int (0 : Int32)), (.int (1 : Int32)), (.ref mb)])) := S54.trans st55
  obtain ⟨cq57, kq57, q57a, q57b, q57c⟩ := isOf hZ e55 EBm
  obtain ⟨_, _, ⟨T57, L57, k57, n57⟩, -, X57, ⟨Lc57, hQ57, l57, y57, z57⟩, st57⟩ := X55.virtualBack hx (y := (⟨"com/example/admission_by_rate/admissionbyrate/PlaceMarks", "set", "(II)V"⟩ : MethodName)) (z := (⟨"com/example/admission_by_rate/admissionbyrate/PlaceMarks", "set", "(II)V"⟩ : MethodName)) hown (mvT hZ (hw _ (List.mem_of_getElem? (i := 52) rfl))) (mvT hZ (hw _ (List.mem_of_getElem? (i := 53) rfl))) (notFace_of_selects (args := #[]) (mvT hZ (hw _ (List.mem_of_getElem? (i := 55) rfl)))) (mvT hZ (hw _ (List.mem_of_getElem? (i := 55) rfl))) (mvT hZ (hw _ (List.mem_of_getElem? (i := 54) rfl))) (by decide) (backOf (W := 0) (rm8 l Z a0 hw [] mb (1 : Int32) (0 : Int32)  T46.heap n0 (Nat.le_trans (Nat.le_trans (Nat.le_trans (Nat.le_trans (Nat.le_trans Z0 E1.1) K7.1) K17.1) K40.1) K46.1) PBw rfl) hZ (hw _ (List.mem_of_getElem? (i := 56) rfl)) (hw _ (List.mem_of_getElem? (i := 25) rfl)) (by decide) (by decide)) q57a q57c (g := (mkF m 90 #[.val (.ref a), .val (.int (4 : Int32)), .val (.long q1), .second, .val (.int (0 : Int32)), .val (.ref b), .val (.int (1 : Int32)), .val (.long (3 : Int64)), .second] [(.int (0 : Int32)), (.int (1 : Int32)), (.ref mb)])) rfl (by rw [hml]; rfl) (Steps.refl _) (argsL := [(.int (1 : Int32)), (.int (0 : Int32))]) (rest := []) (lenOf pd_3 rfl) rfl (by show 2 * 0 + _ ≤ _; exact Nat.le_of_eq rfl) (hb hby d14_90) (fun _ _ => ⟨rfl, e55, (by decide : 3 + 0 ≤ _), (by decide : 18 + 0 ≤ _)⟩)
  dsimp only [Pt.U, Pt.locs, Pt.cells, Pt.slots] at X57 l57 y57 z57 st57 hQ57
  subst l57 y57 z57
  obtain ⟨rfl, N57q, e57⟩ := hQ57
  have N57 := Fr.app N55 N57q
  have S58 : Steps p.tables e below Ω (T57.setTop (mkF m 93 #[.val (.ref a), .val (.int (4 : Int32)), .val (.long q1), .second, .val (.int (0 : Int32)), .val (.ref b), .val (.int (1 : Int32)), .val (.long (3 : Int64)), .second] [])) := S56.trans st57
  have S59 : Steps p.tables e below Ω (T57.setTop (mkF m 19 #[.val (.ref a), .val (.int (4 : Int32)), .val (.long q1), .second, .val (.int (0 : Int32)), .val (.ref b), .val (.int (2 : Int32)), .val (.long (3 : Int64)), .second] [])) := by
    refine S58.trans ?_
    refine XS.iinc X57.here hx rfl (hb hby d14_93) rfl (l' := #[.val (.ref a), .val (.int (4 : Int32)), .val (.long q1), .second, .val (.int (0 : Int32)), .val (.ref b), .val (.int (2 : Int32)), .val (.long (3 : Int64)), .second]) rfl ?_
    show Steps p.tables e below (T57.setTop (mkF m 96 #[.val (.ref a), .val (.int (4 : Int32)), .val (.long q1), .second, .val (.int (0 : Int32)), .val (.ref b), .val (.int (2 : Int32)), .val (.long (3 : Int64)), .second] [])) _
    refine XS.goto X57.here hx rfl (pc0 := 96) (pc' := 19) rfl (hb hby d14_96) (by decide) (by decide) ?_
    exact Steps.refl _
  have S60 : Steps p.tables e below Ω (T57.setTop (mkF m 22 #[.val (.ref a), .val (.int (4 : Int32)), .val (.long q1), .second, .val (.int (0 : Int32)), .val (.ref b), .val (.int (2 : Int32)), .val (.long (3 : Int64)), .second] [(.ref a), (.int (2 : Int32))])) := by
    refine S59.trans ?_
    refine XS.iload X57.here hx rfl (hb hby d14_19) rfl ?_
    show Steps p.tables e below (T57.setTop (mkF m 21 #[.val (.ref a), .val (.int (4 : Int32)), .val (.long q1), .second, .val (.int (0 : Int32)), .val (.ref b), .val (.int (2 : Int32)), .val (.long (3 : Int64)), .second] [(.int (2 : Int32))])) _
    refine XS.aloadN X57.here hx rfl (hb hby d14_21) rfl rfl ?_
    exact Steps.refl _
  obtain ⟨E0_9, Pst_9, Pin_9, Pbs_9, Pma_9, Pmk_9, Pcn_9, A0_9, Em_9, Pw_9, -, -, -⟩ := (id KTo_46)
  obtain ⟨T61, X61, e61, st61⟩ := getF X57 hx hZ hown (host := "") (Or.inl (hw _ (List.mem_of_getElem? (i := 34) rfl))) Via.refl e57 Pmk_9 (g := (mkF m 22 #[.val (.ref a), .val (.int (4 : Int32)), .val (.long q1), .second, .val (.int (0 : Int32)), .val (.ref b), .val (.int (2 : Int32)), .val (.long (3 : Int64)), .second] [(.ref a), (.int (2 : Int32))])) rfl rfl (hb hby d14_22)
  have S62 : Steps p.tables e below Ω (T61.setTop (mkF m 25 #[.val (.ref a), .val (.int (4 : Int32)), .val (.long q1), .second, .val (.int (0 : Int32)), .val (.ref b), .val (.int (2 : Int32)), .val (.long (3 : Int64)), .second] [(.int (1 : Int32)), (.int (2 : Int32))])) := S60.trans (st61 _ (Steps.refl _))
  have S63 : Steps p.tables e below Ω (T61.setTop (mkF m 102 #[.val (.ref a), .val (.int (4 : Int32)), .val (.long q1), .second, .val (.int (0 : Int32)), .val (.ref b), .val (.int (2 : Int32)), .val (.long (3 : Int64)), .second] [(.ref a), (.ref b)])) := by
    refine S62.trans ?_
    refine XS.icmpYes X61.here hx rfl (pc0 := 25) (pc' := 99) rfl (hb hby d14_25) rfl (XT.ii_gt_t (by decide)) (by decide) (by decide) ?_
    show Steps p.tables e below (T61.setTop (mkF m 99 #[.val (.ref a), .val (.int (4 : Int32)), .val (.long q1), .second, .val (.int (0 : Int32)), .val (.ref b), .val (.int (2 : Int32)), .val (.long (3 : Int64)), .second] [])) _
    refine XS.aload X61.here hx rfl (hb hby d14_99) rfl rfl ?_
    show Steps p.tables e below (T61.setTop (mkF m 101 #[.val (.ref a), .val (.int (4 : Int32)), .val (.long q1), .second, .val (.int (0 : Int32)), .val (.ref b), .val (.int (2 : Int32)), .val (.long (3 : Int64)), .second] [(.ref b)])) _
    refine XS.aloadN X61.here hx rfl (hb hby d14_101) rfl rfl ?_
    exact Steps.refl _
  obtain ⟨T64, X64, e64, st64⟩ := getF X61 hx hZ hown (host := "") (Or.inl (hw _ (List.mem_of_getElem? (i := 60) rfl))) Via.refl e61 Pcn_9 (g := (mkF m 102 #[.val (.ref a), .val (.int (4 : Int32)), .val (.long q1), .second, .val (.int (0 : Int32)), .val (.ref b), .val (.int (2 : Int32)), .val (.long (3 : Int64)), .second] [(.ref a), (.ref b)])) rfl rfl (hb hby d14_102)
  have S65 : Steps p.tables e below Ω (T64.setTop (mkF m 105 #[.val (.ref a), .val (.int (4 : Int32)), .val (.long q1), .second, .val (.int (0 : Int32)), .val (.ref b), .val (.int (2 : Int32)), .val (.long (3 : Int64)), .second] [(.int (2 : Int32)), (.ref b)])) := S63.trans (st64 _ (Steps.refl _))
  obtain ⟨EB, PBst, PBin, PBbs, PBma, PBmk, PBcn, AB, EBm, PBw, ne1, ne2, ne3⟩ := (id KB46)
  obtain ⟨T66, h66, X66, e66, W66, st66⟩ := putF X64 hx hZ hown (host := "") (Or.inl (hw _ (List.mem_of_getElem? (i := 60) rfl))) Via.refl e64 PBcn EB (Or.inl (hw _ (List.mem_of_getElem? (i := 61) rfl))) (hw _ (List.mem_of_getElem? (i := 1) rfl)) (ty := .int) (by decide) rfl rfl (g := (mkF m 105 #[.val (.ref a), .val (.int (4 : Int32)), .val (.long q1), .second, .val (.int (0 : Int32)), .val (.ref b), .val (.int (2 : Int32)), .val (.long (3 : Int64)), .second] [(.int (2 : Int32)), (.ref b)])) rfl rfl (hb hby d14_105)
  have S67 : Steps p.tables e below Ω (T66.setTop (mkF m 108 #[.val (.ref a), .val (.int (4 : Int32)), .val (.long q1), .second, .val (.int (0 : Int32)), .val (.ref b), .val (.int (2 : Int32)), .val (.long (3 : Int64)), .second] [])) := S65.trans (st66 _ (Steps.refl _))
  have N66 := Fr.snoc X66 N57 gb
  have E_b_66 := (EB).wr W66
  have F_stride_b_66 : Fld Z h66 b "com/example/admission_by_rate/admissionbyrate/KeyTable" "stride" "I" (.int (4 : Int32)) := (PBst).other W66 (Or.inr (slot_ne (Or.inr (hw _ (List.mem_of_getElem? (i := 15) rfl))) (Or.inl (hw _ (List.mem_of_getElem? (i := 61) rfl))) (by decide) (t := .int) (t' := .int) (by decide) (by decide)))
  have F_ints_b_66 : Fld Z h66 b "com/example/admission_by_rate/admissionbyrate/KeyTable" "ints" "[I" (.ref ib) := (PBin).other W66 (Or.inr (slot_ne (Or.inr (hw _ (List.mem_of_getElem? (i := 18) rfl))) (Or.inl (hw _ (List.mem_of_getElem? (i := 61) rfl))) (by decide) (t := (.array .int)) (t' := .int) (by decide) (by decide)))
  have F_base_b_66 : Fld Z h66 b "com/example/admission_by_rate/admissionbyrate/KeyTable" "base" "J" (.long q1) := (PBbs).other W66 (Or.inr (slot_ne (Or.inr (hw _ (List.mem_of_getElem? (i := 20) rfl))) (Or.inl (hw _ (List.mem_of_getElem? (i := 61) rfl))) (by decide) (t := .long) (t' := .int) (by decide) (by decide)))
  have F_marks_b_66 : Fld Z h66 b "com/example/admission_by_rate/admissionbyrate/KeyTable" "marks" "Lcom/example/admission_by_rate/admissionbyrate/PlaceMarks;" (.ref mb) := (PBma).other W66 (Or.inr (slot_ne (Or.inr (hw _ (List.mem_of_getElem? (i := 33) rfl))) (Or.inl (hw _ (List.mem_of_getElem? (i := 61) rfl))) (by decide) (t := (.object "com/example/admission_by_rate/admissionbyrate/PlaceMarks")) (t' := .int) (by decide) (by decide)))
  have F_mask_b_66 : Fld Z h66 b "com/example/admission_by_rate/admissionbyrate/KeyTable" "mask" "I" (.int ((2 : Int32) - (1 : Int32))) := (PBmk).other W66 (Or.inr (slot_ne (Or.inr (hw _ (List.mem_of_getElem? (i := 35) rfl))) (Or.inl (hw _ (List.mem_of_getElem? (i := 61) rfl))) (by decide) (t := .int) (t' := .int) (by decide) (by decide)))
  have F_count_b_66 : Fld Z h66 b "com/example/admission_by_rate/admissionbyrate/KeyTable" "count" "I" (.int (2 : Int32)) := (PBcn).same W66
  have AB1 := AB.other W66 (Ne.symm ne1)
  have EBm1 := EBm.wr W66
  have PBw1 := PBw.other W66 (Or.inl (Ne.symm ne3))
  have KK : Keep h0 h66 [] := (K_46).wr W66 (Or.inr sb)
  have KTB : KT Z h66 b ib mb (4 : Int32) q1 (1 : Int32) (2 : Int32) [(0 : Int32), (1 : Int32), (0 : Int32), (0 : Int32), (0 : Int32), (3 : Int32), (0 : Int32), (0 : Int32)] := ⟨E_b_66, F_stride_b_66, F_ints_b_66, F_base_b_66, F_marks_b_66, F_mask_b_66, F_count_b_66, AB1, EBm1, PBw1, ne1, ne2, ne3⟩
  have S68 : Steps p.tables e below Ω (T66.setTop (mkF m 110 #[.val (.ref a), .val (.int (4 : Int32)), .val (.long q1), .second, .val (.int (0 : Int32)), .val (.ref b), .val (.int (2 : Int32)), .val (.long (3 : Int64)), .second] [(.ref b)])) := by
    refine S67.trans ?_
    refine XS.aload X66.here hx rfl (hb hby d14_108) rfl rfl ?_
    exact Steps.refl _
  obtain ⟨fs, hr, hrun, hended, hW, hsame⟩ := X66.leave (v := some (.ref b)) (fun h => by rw [Bd.returns] at h; cases h)
  have hfin : Steps p.tables e below Ω (T66.setFrames fs) := by
    refine S68.trans ?_
    jvm_step X66.here [X66.here.top, hx, (hb hby d14_110), X66.method', Bd.returns, Value.isRef, FieldType.isReference]
    first | (intro acts; rw [hr _ acts rfl rfl rfl]) | rw [hr _ _ rfl rfl rfl]
    exact Steps.refl _
  rw [hΩ] at hfin
  refine ⟨_, _, hfin, hrun, hended, _, _, rfl, ?_, ⟨_, rfl⟩, hW, hsame.mono (by decide) (by decide)⟩
  show Q14b Z a (4 : Int32) q1 (0 : Int32) ia ma h0 n0 _ T66.heap _
  rw [e66]
  exact ⟨b, ib, mb, rfl, N66, KK, KTB, sb, hib, hmb⟩
theorem d9_0 : decode prog_28_method_19_code 0 = .ok (.lload_n 2, 1) := by decide +kernel
theorem d9_1 : decode prog_28_method_19_code 1 = .ok (.lstore 4, 2) := by decide +kernel
theorem d9_3 : decode prog_28_method_19_code 3 = .ok (.lload_n 2, 1) := by decide +kernel
theorem d9_4 : decode prog_28_method_19_code 4 = .ok (.lstore 6, 2) := by decide +kernel
theorem d9_6 : decode prog_28_method_19_code 6 = .ok (.iconst 0, 1) := by decide +kernel
theorem d9_7 : decode prog_28_method_19_code 7 = .ok (.istore 8, 2) := by decide +kernel
theorem d9_9 : decode prog_28_method_19_code 9 = .ok (.iload 8, 2) := by decide +kernel
theorem d9_11 : decode prog_28_method_19_code 11 = .ok (.aload_n 0, 1) := by decide +kernel
theorem d9_12 : decode prog_28_method_19_code 12 = .ok (.getfield 43, 3) := by decide +kernel
theorem d9_15 : decode prog_28_method_19_code 15 = .ok (.if_icmp .gt 52, 3) := by decide +kernel
theorem d9_18 : decode prog_28_method_19_code 18 = .ok (.iload 8, 2) := by decide +kernel
theorem d9_20 : decode prog_28_method_19_code 20 = .ok (.iload_n 1, 1) := by decide +kernel
theorem d9_21 : decode prog_28_method_19_code 21 = .ok (.if_icmp .eq 40, 3) := by decide +kernel
theorem d9_61 : decode prog_28_method_19_code 61 = .ok (.iinc 8 1, 3) := by decide +kernel
theorem d9_64 : decode prog_28_method_19_code 64 = .ok (.goto (-55), 3) := by decide +kernel
theorem d9_24 : decode prog_28_method_19_code 24 = .ok (.aload_n 0, 1) := by decide +kernel
theorem d9_25 : decode prog_28_method_19_code 25 = .ok (.iload 8, 2) := by decide +kernel
theorem d9_27 : decode prog_28_method_19_code 27 = .ok (.invokevirtual 87, 3) := by decide +kernel
theorem d9_30 : decode prog_28_method_19_code 30 = .ok (.lconst 0, 1) := by decide +kernel
theorem d9_31 : decode prog_28_method_19_code 31 = .ok (.lcmp, 1) := by decide +kernel
theorem d9_32 : decode prog_28_method_19_code 32 = .ok (.ifCond .eq 29, 3) := by decide +kernel
theorem d9_67 : decode prog_28_method_19_code 67 = .ok (.lload 4, 2) := by decide +kernel
theorem d9_69 : decode prog_28_method_19_code 69 = .ok (.lload 6, 2) := by decide +kernel
theorem pd_8 : parseMethodDescriptor "(JJ)Z" = some ⟨[.long, .long], some .boolean⟩ := by decide +kernel
theorem d9_71 : decode prog_28_method_19_code 71 = .ok (.invokestatic 116, 3) := by decide +kernel
theorem d9_74 : decode prog_28_method_19_code 74 = .ok (.ifCond .eq 17, 3) := by decide +kernel
theorem d9_77 : decode prog_28_method_19_code 77 = .ok (.aload_n 0, 1) := by decide +kernel
theorem d9_78 : decode prog_28_method_19_code 78 = .ok (.iconst 3, 1) := by decide +kernel
theorem d9_79 : decode prog_28_method_19_code 79 = .ok (.lload 4, 2) := by decide +kernel
theorem pd_9 : parseMethodDescriptor "(J)J" = some ⟨[.long], some .long⟩ := by decide +kernel
theorem d9_81 : decode prog_28_method_19_code 81 = .ok (.invokestatic 120, 3) := by decide +kernel
theorem d9_84 : decode prog_28_method_19_code 84 = .ok (.iload_n 1, 1) := by decide +kernel
theorem pd_10 : parseMethodDescriptor "(IJI)Lcom/example/admission_by_rate/admissionbyrate/KeyTable;" = some ⟨[.int, .long, .int], some (.object "com/example/admission_by_rate/admissionbyrate/KeyTable")⟩ := by decide +kernel
theorem d9_85 : decode prog_28_method_19_code 85 = .ok (.invokevirtual 124, 3) := by decide +kernel
theorem d9_88 : decode prog_28_method_19_code 88 = .ok (.goto 10, 3) := by decide +kernel
theorem d9_98 : decode prog_28_method_19_code 98 = .ok (.astore 8, 2) := by decide +kernel
theorem d9_100 : decode prog_28_method_19_code 100 = .ok (.aload 8, 2) := by decide +kernel
theorem d9_102 : decode prog_28_method_19_code 102 = .ok (.iload_n 1, 1) := by decide +kernel
theorem d9_103 : decode prog_28_method_19_code 103 = .ok (.lload_n 2, 1) := by decide +kernel
theorem d9_104 : decode prog_28_method_19_code 104 = .ok (.invokevirtual 128, 3) := by decide +kernel
theorem d9_107 : decode prog_28_method_19_code 107 = .ok (.aload 8, 2) := by decide +kernel
theorem d9_109 : decode prog_28_method_19_code 109 = .ok (.areturn, 1) := by decide +kernel
theorem ef_rm9a (m : MethodId) (x0 : Addr) (x1 : Int32) (x2 : Int64) : entryFrame m #[(.ref x0), (.int x1), (.long x2)] 9 = mkF m 0 #[.val (.ref x0), .val (.int x1), .val (.long x2), .second, .unset, .unset, .unset, .unset, .unset] [] := by first | (simp [entryFrame, mkF, argsToLocals, Value.category]; done) | rfl
def Q9a (Z : State) (a : Addr) (p1 : Int32) (q1 : Int64) (ia : Addr) (ma : Addr) (h0 : Heap) (n0 : Nat) (v : Option Value) (h : Heap) (L : List Loc) : Prop := ∃ b ib mb : Addr, v = some (.ref b) ∧ Fr n0 L ∧ Keep h0 h [] ∧ KT Z h b ib mb (3 : Int32) (q1 - (-2147483648 : Int64)) (1 : Int32) (1 : Int32) [(0 : Int32), (1 : Int32), ((q1 - (q1 - (-2147483648 : Int64))).toInt32), (0 : Int32), (0 : Int32), (0 : Int32)] ∧ h0.size ≤ b ∧ h0.size ≤ ib ∧ h0.size ≤ mb
set_option maxRecDepth 65536 in
set_option maxHeartbeats 40000000 in
theorem rm9a (l : Launch) (Z : State) (a0 : Array Value) (hw : ∀ d ∈ tables_1, d.before a0 Z = true) (ws : List Jvm.Cond) (a : Addr) (p1 : Int32) (q1 : Int64) (ia : Addr) (ma : Addr) (h0 : Heap) (n0 : Nat) (Z0 : n0 ≤ h0.size) (KT0 : KT Z h0 a ia ma (3 : Int32) (0 : Int64) (1 : Int32) (1 : Int32) [(0 : Int32), (1 : Int32), (0 : Int32), (0 : Int32), (0 : Int32), (0 : Int32)]) (pe1 : p1 = (0 : Int32)) :
    MetFree l (⟨"com/example/admission_by_rate/admissionbyrate/KeyTable", "relaid", "(IJ)Lcom/example/admission_by_rate/admissionbyrate/KeyTable;"⟩ : MethodName) (head1 (Jvm.Cond.code (⟨"com/example/admission_by_rate/admissionbyrate/KeyTable", "relaid", "(IJ)Lcom/example/admission_by_rate/admissionbyrate/KeyTable;"⟩ : MethodName) prog_28_method_19_code 9 (some (.object "com/example/admission_by_rate/admissionbyrate/KeyTable")) :: ws) ({ frames := 4, cells := 3, slots := 18, locals := 65 } : Room)) (fun aa U => aa = #[(.ref a), (.int p1), (.long q1)] ∧ Z.Warmed39 U.vm ∧ U.heap = h0) (fun _ _ _ _ _ => True) (fun _ U o U' => ∃ v L, o = .returned v ∧ Q9a Z a (0 : Int32) q1 ia ma h0 n0 v U'.heap L ∧ FrameEnd U o U' L ({ frames := 4, cells := 3, slots := 18, locals := 65 } : Room).cells ({ frames := 4, cells := 3, slots := 18, locals := 65 } : Room).slots) := by
  refine MetFree.of_bodySF (plainFor_of_name pn_0) hisR ?_
  intro p e s m args below meth c s₁ Bd hml0 hP hK
  obtain ⟨rfl, hZ, hh⟩ := hP
  have hx := Bd.exec
  have hby := Bd.bytes
  have hml : c.maxLocals = 9 := hml0
  have hown : s.vm.findClass "com/example/admission_by_rate/admissionbyrate/KeyTable" = some m.cls := findClass_of_methodNamed Bd.named
  have hnm := (name_of_methodNamed Bd.named Bd.method).1
  have X0 : Stand p l e ({ frames := 4, cells := 3, slots := 18, locals := 65 } : Room) s m #[(.ref a), (.int p1), (.long q1)] below meth c s₁ [] 0 0 := Stand.of_body Bd
  have e0 : s₁.heap = h0 := by rw [← hh, Bd.state]; rfl
  have N0 := Fr.nil n0
  obtain ⟨Ω, hΩ⟩ : ∃ z, z = s₁.setTop (entryFrame m #[(.ref a), (.int p1), (.long q1)] 9) := ⟨_, rfl⟩
  have S0 : Steps p.tables e below Ω (s₁.setTop (mkF m 0 #[.val (.ref a), .val (.int p1), .val (.long q1), .second, .unset, .unset, .unset, .unset, .unset] [])) := by rw [hΩ]; exact castTop (ef_rm9a m a p1 q1) (Steps.refl _)
  subst pe1
  have KTs := KT0
  obtain ⟨E0, Pst, Pin, Pbs, Pma, Pmk, Pcn, A0, Em, Pw, ne1, ne2, ne3⟩ := KT0
  have S1 : Steps p.tables e below Ω (s₁.setTop (mkF m 12 #[.val (.ref a), .val (.int (0 : Int32)), .val (.long q1), .second, .val (.long q1), .second, .val (.long q1), .second, .val (.int (0 : Int32))] [(.ref a), (.int (0 : Int32))])) := by
    refine S0.trans ?_
    refine XS.lloadN X0.here hx rfl (hb hby d9_0) rfl ?_
    show Steps p.tables e below (s₁.setTop (mkF m 1 #[.val (.ref a), .val (.int (0 : Int32)), .val (.long q1), .second, .unset, .unset, .unset, .unset, .unset] [(.long q1)])) _
    refine XS.lstore X0.here hx rfl (hb hby d9_1) rfl (l' := #[.val (.ref a), .val (.int (0 : Int32)), .val (.long q1), .second, .val (.long q1), .second, .unset, .unset, .unset]) rfl ?_
    show Steps p.tables e below (s₁.setTop (mkF m 3 #[.val (.ref a), .val (.int (0 : Int32)), .val (.long q1), .second, .val (.long q1), .second, .unset, .unset, .unset] [])) _
    refine XS.lloadN X0.here hx rfl (hb hby d9_3) rfl ?_
    show Steps p.tables e below (s₁.setTop (mkF m 4 #[.val (.ref a), .val (.int (0 : Int32)), .val (.long q1), .second, .val (.long q1), .second, .unset, .unset, .unset] [(.long q1)])) _
    refine XS.lstore X0.here hx rfl (hb hby d9_4) rfl (l' := #[.val (.ref a), .val (.int (0 : Int32)), .val (.long q1), .second, .val (.long q1), .second, .val (.long q1), .second, .unset]) rfl ?_
    show Steps p.tables e below (s₁.setTop (mkF m 6 #[.val (.ref a), .val (.int (0 : Int32)), .val (.long q1), .second, .val (.long q1), .second, .val (.long q1), .second, .unset] [])) _
    refine XS.iconst X0.here hx rfl (hb hby d9_6) ?_
    show Steps p.tables e below (s₁.setTop (mkF m 7 #[.val (.ref a), .val (.int (0 : Int32)), .val (.long q1), .second, .val (.long q1), .second, .val (.long q1), .second, .unset] [(.int (0 : Int32))])) _
    refine XS.istore X0.here hx rfl (hb hby d9_7) rfl (l' := #[.val (.ref a), .val (.int (0 : Int32)), .val (.long q1), .second, .val (.long q1), .second, .val (.long q1), .second, .val (.int (0 : Int32))]) rfl ?_
    show Steps p.tables e below (s₁.setTop (mkF m 9 #[.val (.ref a), .val (.int (0 : Int32)), .val (.long q1), .second, .val (.long q1), .second, .val (.long q1), .second, .val (.int (0 : Int32))] [])) _
    refine XS.iload X0.here hx rfl (hb hby d9_9) rfl ?_
    show Steps p.tables e below (s₁.setTop (mkF m 11 #[.val (.ref a), .val (.int (0 : Int32)), .val (.long q1), .second, .val (.long q1), .second, .val (.long q1), .second, .val (.int (0 : Int32))] [(.int (0 : Int32))])) _
    refine XS.aloadN X0.here hx rfl (hb hby d9_11) rfl rfl ?_
    exact Steps.refl _
  obtain ⟨T2, X2, e2, st2⟩ := getF X0 hx hZ hown (host := "") (Or.inl (hw _ (List.mem_of_getElem? (i := 34) rfl))) Via.refl e0 Pmk (g := (mkF m 12 #[.val (.ref a), .val (.int (0 : Int32)), .val (.long q1), .second, .val (.long q1), .second, .val (.long q1), .second, .val (.int (0 : Int32))] [(.ref a), (.int (0 : Int32))])) rfl rfl (hb hby d9_12)
  have S3 : Steps p.tables e below Ω (T2.setTop (mkF m 15 #[.val (.ref a), .val (.int (0 : Int32)), .val (.long q1), .second, .val (.long q1), .second, .val (.long q1), .second, .val (.int (0 : Int32))] [(.int (1 : Int32)), (.int (0 : Int32))])) := S1.trans (st2 _ (Steps.refl _))
  have S4 : Steps p.tables e below Ω (T2.setTop (mkF m 12 #[.val (.ref a), .val (.int (0 : Int32)), .val (.long q1), .second, .val (.long q1), .second, .val (.long q1), .second, .val (.int (1 : Int32))] [(.ref a), (.int (1 : Int32))])) := by
    refine S3.trans ?_
    refine XS.icmpNo X2.here hx rfl (hb hby d9_15) rfl (XT.ii_gt_f (by decide)) ?_
    show Steps p.tables e below (T2.setTop (mkF m 18 #[.val (.ref a), .val (.int (0 : Int32)), .val (.long q1), .second, .val (.long q1), .second, .val (.long q1), .second, .val (.int (0 : Int32))] [])) _
    refine XS.iload X2.here hx rfl (hb hby d9_18) rfl ?_
    show Steps p.tables e below (T2.setTop (mkF m 20 #[.val (.ref a), .val (.int (0 : Int32)), .val (.long q1), .second, .val (.long q1), .second, .val (.long q1), .second, .val (.int (0 : Int32))] [(.int (0 : Int32))])) _
    refine XS.iloadN X2.here hx rfl (hb hby d9_20) rfl ?_
    show Steps p.tables e below (T2.setTop (mkF m 21 #[.val (.ref a), .val (.int (0 : Int32)), .val (.long q1), .second, .val (.long q1), .second, .val (.long q1), .second, .val (.int (0 : Int32))] [(.int (0 : Int32)), (.int (0 : Int32))])) _
    refine XS.icmpYes X2.here hx rfl (pc0 := 21) (pc' := 61) rfl (hb hby d9_21) rfl (XT.ii_eq_t (by decide)) (by decide) (by decide) ?_
    show Steps p.tables e below (T2.setTop (mkF m 61 #[.val (.ref a), .val (.int (0 : Int32)), .val (.long q1), .second, .val (.long q1), .second, .val (.long q1), .second, .val (.int (0 : Int32))] [])) _
    refine XS.iinc X2.here hx rfl (hb hby d9_61) rfl (l' := #[.val (.ref a), .val (.int (0 : Int32)), .val (.long q1), .second, .val (.long q1), .second, .val (.long q1), .second, .val (.int (1 : Int32))]) rfl ?_
    show Steps p.tables e below (T2.setTop (mkF m 64 #[.val (.ref a), .val (.int (0 : Int32)), .val (.long q1), .second, .val (.long q1), .second, .val (.long q1), .second, .val (.int (1 : Int32))] [])) _
    refine XS.goto X2.here hx rfl (pc0 := 64) (pc' := 9) rfl (hb hby d9_64) (by decide) (by decide) ?_
    show Steps p.tables e below (T2.setTop (mkF m 9 #[.val (.ref a), .val (.int (0 : Int32)), .val (.long q1), .second, .val (.long q1), .second, .val (.long q1), .second, .val (.int (1 : Int32))] [])) _
    refine XS.iload X2.here hx rfl (hb hby d9_9) rfl ?_
    show Steps p.tables e below (T2.setTop (mkF m 11 #[.val (.ref a), .val (.int (0 : Int32)), .val (.long q1), .second, .val (.long q1), .second, .val (.long q1), .second, .val (.int (1 : Int32))] [(.int (1 : Int32))])) _
    refine XS.aloadN X2.here hx rfl (hb hby d9_11) rfl rfl ?_
    exact Steps.refl _
  obtain ⟨T5, X5, e5, st5⟩ := getF X2 hx hZ hown (host := "") (Or.inl (hw _ (List.mem_of_getElem? (i := 34) rfl))) Via.refl e2 Pmk (g := (mkF m 12 #[.val (.ref a), .val (.int (0 : Int32)), .val (.long q1), .second, .val (.long q1), .second, .val (.long q1), .second, .val (.int (1 : Int32))] [(.ref a), (.int (1 : Int32))])) rfl rfl (hb hby d9_12)
  have S6 : Steps p.tables e below Ω (T5.setTop (mkF m 15 #[.val (.ref a), .val (.int (0 : Int32)), .val (.long q1), .second, .val (.long q1), .second, .val (.long q1), .second, .val (.int (1 : Int32))] [(.int (1 : Int32)), (.int (1 : Int32))])) := S4.trans (st5 _ (Steps.refl _))
  have S7 : Steps p.tables e below Ω (T5.setTop (mkF m 27 #[.val (.ref a), .val (.int (0 : Int32)), .val (.long q1), .second, .val (.long q1), .second, .val (.long q1), .second, .val (.int (1 : Int32))] [(.int (1 : Int32)), (.ref a)])) := by
    refine S6.trans ?_
    refine XS.icmpNo X5.here hx rfl (hb hby d9_15) rfl (XT.ii_gt_f (by decide)) ?_
    show Steps p.tables e below (T5.setTop (mkF m 18 #[.val (.ref a), .val (.int (0 : Int32)), .val (.long q1), .second, .val (.long q1), .second, .val (.long q1), .second, .val (.int (1 : Int32))] [])) _
    refine XS.iload X5.here hx rfl (hb hby d9_18) rfl ?_
    show Steps p.tables e below (T5.setTop (mkF m 20 #[.val (.ref a), .val (.int (0 : Int32)), .val (.long q1), .second, .val (.long q1), .second, .val (.long q1), .second, .val (.int (1 : Int32))] [(.int (1 : Int32))])) _
    refine XS.iloadN X5.here hx rfl (hb hby d9_20) rfl ?_
    show Steps p.tables e below (T5.setTop (mkF m 21 #[.val (.ref a), .val (.int (0 : Int32)), .val (.long q1), .second, .val (.long q1), .second, .val (.long q1), .second, .val (.int (1 : Int32))] [(.int (0 : Int32)), (.int (1 : Int32))])) _
    refine XS.icmpNo X5.here hx rfl (hb hby d9_21) rfl (XT.ii_eq_f (by decide)) ?_
    show Steps p.tables e below (T5.setTop (mkF m 24 #[.val (.ref a), .val (.int (0 : Int32)), .val (.long q1), .second, .val (.long q1), .second, .val (.long q1), .second, .val (.int (1 : Int32))] [])) _
    refine XS.aloadN X5.here hx rfl (hb hby d9_24) rfl rfl ?_
    show Steps p.tables e below (T5.setTop (mkF m 25 #[.val (.ref a), .val (.int (0 : Int32)), .val (.long q1), .second, .val (.long q1), .second, .val (.long q1), .second, .val (.int (1 : Int32))] [(.ref a)])) _
    refine XS.iload X5.here hx rfl (hb hby d9_25) rfl ?_
    exact Steps.refl _
  obtain ⟨cq8, kq8, q8a, q8b, q8c⟩ := isOf hZ e5 E0
  obtain ⟨_, _, ⟨T8, L8, k8, n8⟩, -, X8, ⟨Lc8, hQ8, l8, y8, z8⟩, st8⟩ := X5.virtualBack hx (y := (⟨"com/example/admission_by_rate/admissionbyrate/KeyTable", "digestAt", "(I)J"⟩ : MethodName)) (z := (⟨"com/example/admission_by_rate/admissionbyrate/KeyTable", "digestAt", "(I)J"⟩ : MethodName)) hown (mvT hZ (hw _ (List.mem_of_getElem? (i := 67) rfl))) (mvT hZ (hw _ (List.mem_of_getElem? (i := 68) rfl))) (notFace_of_selects (args := #[]) (mvT hZ (hw _ (List.mem_of_getElem? (i := 70) rfl)))) (mvT hZ (hw _ (List.mem_of_getElem? (i := 70) rfl))) (mvT hZ (hw _ (List.mem_of_getElem? (i := 69) rfl))) (by decide) (backOf (W := 0) (rm10 l Z a0 hw [] a (1 : Int32) ia ma (3 : Int32) (0 : Int64) (1 : Int32) (1 : Int32) [(0 : Int32), (1 : Int32), (0 : Int32), (0 : Int32), (0 : Int32), (0 : Int32)] (0 : Int32) (0 : Int32) h0 n0 Z0 KTs (by decide) rfl (by decide) rfl) hZ (hw _ (List.mem_of_getElem? (i := 71) rfl)) (hw _ (List.mem_of_getElem? (i := 2) rfl)) (by decide) (by decide)) q8a q8c (g := (mkF m 27 #[.val (.ref a), .val (.int (0 : Int32)), .val (.long q1), .second, .val (.long q1), .second, .val (.long q1), .second, .val (.int (1 : Int32))] [(.int (1 : Int32)), (.ref a)])) rfl (by rw [hml]; rfl) (Steps.refl _) (argsL := [(.int (1 : Int32))]) (rest := []) (lenOf pd_0 rfl) rfl (by show 2 * 0 + _ ≤ _; exact Nat.le_of_eq rfl) (hb hby d9_27) (fun _ _ => ⟨rfl, e5, (by decide : 0 + 0 ≤ _), (by decide : 0 + 0 ≤ _)⟩)
  dsimp only [Pt.U, Pt.locs, Pt.cells, Pt.slots] at X8 l8 y8 z8 st8 hQ8
  subst l8 y8 z8
  obtain ⟨rfl, N8q, e8⟩ := hQ8
  have N8 := Fr.app N0 N8q
  have S9 : Steps p.tables e below Ω (T8.setTop (mkF m 30 #[.val (.ref a), .val (.int (0 : Int32)), .val (.long q1), .second, .val (.long q1), .second, .val (.long q1), .second, .val (.int (1 : Int32))] [(.long (own_of (0 : Int32) (0 : Int32)))])) := S7.trans st8
  rw [(by decide : (own_of (0 : Int32) (0 : Int32)) = (0 : Int64))] at S9
  have S10 : Steps p.tables e below Ω (T8.setTop (mkF m 32 #[.val (.ref a), .val (.int (0 : Int32)), .val (.long q1), .second, .val (.long q1), .second, .val (.long q1), .second, .val (.int (1 : Int32))] [(.int (lcmpW (0 : Int64) (0 : Int64)))])) := by
    refine S9.trans ?_
    refine XS.lconst X8.here hx rfl (hb hby d9_30) ?_
    show Steps p.tables e below (T8.setTop (mkF m 31 #[.val (.ref a), .val (.int (0 : Int32)), .val (.long q1), .second, .val (.long q1), .second, .val (.long q1), .second, .val (.int (1 : Int32))] [(.long (0 : Int64)), (.long (0 : Int64))])) _
    refine XS.lcmp X8.here hx rfl (hb hby d9_31) rfl ?_
    exact Steps.refl _
  have S11 : Steps p.tables e below Ω (T8.setTop (mkF m 12 #[.val (.ref a), .val (.int (0 : Int32)), .val (.long q1), .second, .val (.long q1), .second, .val (.long q1), .second, .val (.int (2 : Int32))] [(.ref a), (.int (2 : Int32))])) := by
    refine S10.trans ?_
    refine XS.ifYes X8.here hx rfl (pc0 := 32) (pc' := 61) rfl (hb hby d9_32) rfl (XT.ll_eq_t (by decide)) (by decide) (by decide) ?_
    show Steps p.tables e below (T8.setTop (mkF m 61 #[.val (.ref a), .val (.int (0 : Int32)), .val (.long q1), .second, .val (.long q1), .second, .val (.long q1), .second, .val (.int (1 : Int32))] [])) _
    refine XS.iinc X8.here hx rfl (hb hby d9_61) rfl (l' := #[.val (.ref a), .val (.int (0 : Int32)), .val (.long q1), .second, .val (.long q1), .second, .val (.long q1), .second, .val (.int (2 : Int32))]) rfl ?_
    show Steps p.tables e below (T8.setTop (mkF m 64 #[.val (.ref a), .val (.int (0 : Int32)), .val (.long q1), .second, .val (.long q1), .second, .val (.long q1), .second, .val (.int (2 : Int32))] [])) _
    refine XS.goto X8.here hx rfl (pc0 := 64) (pc' := 9) rfl (hb hby d9_64) (by decide) (by decide) ?_
    show Steps p.tables e below (T8.setTop (mkF m 9 #[.val (.ref a), .val (.int (0 : Int32)), .val (.long q1), .second, .val (.long q1), .second, .val (.long q1), .second, .val (.int (2 : Int32))] [])) _
    refine XS.iload X8.here hx rfl (hb hby d9_9) rfl ?_
    show Steps p.tables e below (T8.setTop (mkF m 11 #[.val (.ref a), .val (.int (0 : Int32)), .val (.long q1), .second, .val (.long q1), .second, .val (.long q1), .second, .val (.int (2 : Int32))] [(.int (2 : Int32))])) _
    refine XS.aloadN X8.here hx rfl (hb hby d9_11) rfl rfl ?_
    exact Steps.refl _
  obtain ⟨T12, X12, e12, st12⟩ := getF X8 hx hZ hown (host := "") (Or.inl (hw _ (List.mem_of_getElem? (i := 34) rfl))) Via.refl e8 Pmk (g := (mkF m 12 #[.val (.ref a), .val (.int (0 : Int32)), .val (.long q1), .second, .val (.long q1), .second, .val (.long q1), .second, .val (.int (2 : Int32))] [(.ref a), (.int (2 : Int32))])) rfl rfl (hb hby d9_12)
  have S13 : Steps p.tables e below Ω (T12.setTop (mkF m 15 #[.val (.ref a), .val (.int (0 : Int32)), .val (.long q1), .second, .val (.long q1), .second, .val (.long q1), .second, .val (.int (2 : Int32))] [(.int (1 : Int32)), (.int (2 : Int32))])) := S11.trans (st12 _ (Steps.refl _))
  have S14 : Steps p.tables e below Ω (T12.setTop (mkF m 71 #[.val (.ref a), .val (.int (0 : Int32)), .val (.long q1), .second, .val (.long q1), .second, .val (.long q1), .second, .val (.int (2 : Int32))] [(.long q1), (.long q1)])) := by
    refine S13.trans ?_
    refine XS.icmpYes X12.here hx rfl (pc0 := 15) (pc' := 67) rfl (hb hby d9_15) rfl (XT.ii_gt_t (by decide)) (by decide) (by decide) ?_
    show Steps p.tables e below (T12.setTop (mkF m 67 #[.val (.ref a), .val (.int (0 : Int32)), .val (.long q1), .second, .val (.long q1), .second, .val (.long q1), .second, .val (.int (2 : Int32))] [])) _
    refine XS.lload X12.here hx rfl (hb hby d9_67) rfl ?_
    show Steps p.tables e below (T12.setTop (mkF m 69 #[.val (.ref a), .val (.int (0 : Int32)), .val (.long q1), .second, .val (.long q1), .second, .val (.long q1), .second, .val (.int (2 : Int32))] [(.long q1)])) _
    refine XS.lload X12.here hx rfl (hb hby d9_69) rfl ?_
    exact Steps.refl _
  obtain ⟨_, _, ⟨T15, L15, k15, n15⟩, -, X15, ⟨Lc15, hQ15, l15, y15, z15⟩, st15⟩ := Jvm.LawKit.callS X12 hx (y := (⟨"com/example/admission_by_rate/admissionbyrate/KeyTable", "near", "(JJ)Z"⟩ : MethodName)) hown (mvT hZ (hw _ (List.mem_of_getElem? (i := 77) rfl))) (mvT hZ (hw _ (List.mem_of_getElem? (i := 78) rfl))) (mvT hZ (hw _ (List.mem_of_getElem? (i := 2) rfl))) (mvT hZ (hw _ (List.mem_of_getElem? (i := 79) rfl))) (by decide) (backOf (W := 0) (rm12 l Z a0 hw [] q1 q1  h0 n0 Z0 ) hZ (hw _ (List.mem_of_getElem? (i := 79) rfl)) (hw _ (List.mem_of_getElem? (i := 2) rfl)) (by decide) (by decide)) (g := (mkF m 71 #[.val (.ref a), .val (.int (0 : Int32)), .val (.long q1), .second, .val (.long q1), .second, .val (.long q1), .second, .val (.int (2 : Int32))] [(.long q1), (.long q1)])) rfl (by rw [hml]; rfl) (argsL := [(.long q1), (.long q1)]) (rest := []) (lenOf pd_8 rfl) rfl (by show 2 * 0 + _ ≤ _; exact Nat.le_of_eq rfl) (hb hby d9_71) (fun _ _ => ⟨rfl, e12, (by decide : 0 + 0 ≤ _), (by decide : 0 + 0 ≤ _)⟩)
  dsimp only [Pt.U, Pt.locs, Pt.cells, Pt.slots] at X15 l15 y15 z15 st15 hQ15
  subst l15 y15 z15
  obtain ⟨rfl, N15q, e15⟩ := hQ15
  have N15 := Fr.app N8 N15q
  have S16 : Steps p.tables e below Ω (T15.setTop (mkF m 74 #[.val (.ref a), .val (.int (0 : Int32)), .val (.long q1), .second, .val (.long q1), .second, .val (.long q1), .second, .val (.int (2 : Int32))] [(.int (own_near q1 q1))])) := S14.trans (st15 _ (Steps.refl _))
  rw [(own_near0 q1 : (own_near q1 q1) = (1 : Int32))] at S16
  have S17 : Steps p.tables e below Ω (T15.setTop (mkF m 81 #[.val (.ref a), .val (.int (0 : Int32)), .val (.long q1), .second, .val (.long q1), .second, .val (.long q1), .second, .val (.int (2 : Int32))] [(.long q1), (.int (3 : Int32)), (.ref a)])) := by
    refine S16.trans ?_
    refine XS.ifNo X15.here hx rfl (hb hby d9_74) rfl (XT.i0_eq_f (by decide)) ?_
    show Steps p.tables e below (T15.setTop (mkF m 77 #[.val (.ref a), .val (.int (0 : Int32)), .val (.long q1), .second, .val (.long q1), .second, .val (.long q1), .second, .val (.int (2 : Int32))] [])) _
    refine XS.aloadN X15.here hx rfl (hb hby d9_77) rfl rfl ?_
    show Steps p.tables e below (T15.setTop (mkF m 78 #[.val (.ref a), .val (.int (0 : Int32)), .val (.long q1), .second, .val (.long q1), .second, .val (.long q1), .second, .val (.int (2 : Int32))] [(.ref a)])) _
    refine XS.iconst X15.here hx rfl (hb hby d9_78) ?_
    show Steps p.tables e below (T15.setTop (mkF m 79 #[.val (.ref a), .val (.int (0 : Int32)), .val (.long q1), .second, .val (.long q1), .second, .val (.long q1), .second, .val (.int (2 : Int32))] [(.int (3 : Int32)), (.ref a)])) _
    refine XS.lload X15.here hx rfl (hb hby d9_79) rfl ?_
    exact Steps.refl _
  obtain ⟨_, _, ⟨T18, L18, k18, n18⟩, -, X18, ⟨Lc18, hQ18, l18, y18, z18⟩, st18⟩ := Jvm.LawKit.callS X15 hx (y := (⟨"com/example/admission_by_rate/admissionbyrate/KeyTable", "baseFor", "(J)J"⟩ : MethodName)) hown (mvT hZ (hw _ (List.mem_of_getElem? (i := 81) rfl))) (mvT hZ (hw _ (List.mem_of_getElem? (i := 82) rfl))) (mvT hZ (hw _ (List.mem_of_getElem? (i := 2) rfl))) (mvT hZ (hw _ (List.mem_of_getElem? (i := 83) rfl))) (by decide) (backOf (W := 2) (rm13 l Z a0 hw [] q1  h0 n0 Z0 ) hZ (hw _ (List.mem_of_getElem? (i := 83) rfl)) (hw _ (List.mem_of_getElem? (i := 2) rfl)) (by decide) (by decide)) (g := (mkF m 81 #[.val (.ref a), .val (.int (0 : Int32)), .val (.long q1), .second, .val (.long q1), .second, .val (.long q1), .second, .val (.int (2 : Int32))] [(.long q1), (.int (3 : Int32)), (.ref a)])) rfl (by rw [hml]; rfl) (argsL := [(.long q1)]) (rest := [(.int (3 : Int32)), (.ref a)]) (lenOf pd_9 rfl) rfl (by show 2 * 0 + _ ≤ _; exact Nat.le_of_eq rfl) (hb hby d9_81) (fun _ _ => ⟨rfl, e15, (by decide : 0 + 0 ≤ _), (by decide : 0 + 0 ≤ _)⟩)
  dsimp only [Pt.U, Pt.locs, Pt.cells, Pt.slots] at X18 l18 y18 z18 st18 hQ18
  subst l18 y18 z18
  obtain ⟨rfl, N18q, e18⟩ := hQ18
  have N18 := Fr.app N15 N18q
  have S19 : Steps p.tables e below Ω (T18.setTop (mkF m 84 #[.val (.ref a), .val (.int (0 : Int32)), .val (.long q1), .second, .val (.long q1), .second, .val (.long q1), .second, .val (.int (2 : Int32))] [(.long (q1 - (-2147483648 : Int64))), (.int (3 : Int32)), (.ref a)])) := S17.trans (st18 _ (Steps.refl _))
  have S20 : Steps p.tables e below Ω (T18.setTop (mkF m 85 #[.val (.ref a), .val (.int (0 : Int32)), .val (.long q1), .second, .val (.long q1), .second, .val (.long q1), .second, .val (.int (2 : Int32))] [(.int (0 : Int32)), (.long (q1 - (-2147483648 : Int64))), (.int (3 : Int32)), (.ref a)])) := by
    refine S19.trans ?_
    refine XS.iloadN X18.here hx rfl (hb hby d9_84) rfl ?_
    exact Steps.refl _
  obtain ⟨cq21, q21, q21'⟩ := (E0).cell
  obtain ⟨_, _, ⟨T21, L21, k21, n21⟩, -, X21, ⟨Lc21, hQ21, l21, y21, z21⟩, st21⟩ := X18.privateBack hx (y := (⟨"com/example/admission_by_rate/admissionbyrate/KeyTable", "laidOut", "(IJI)Lcom/example/admission_by_rate/admissionbyrate/KeyTable;"⟩ : MethodName)) hown (mvT hZ (hw _ (List.mem_of_getElem? (i := 85) rfl))) (mvT hZ (hw _ (List.mem_of_getElem? (i := 86) rfl))) (own_sel (z := (⟨"com/example/admission_by_rate/admissionbyrate/KeyTable", "holds", "(J)Z"⟩ : MethodName)) (mvT hZ (hw _ (List.mem_of_getElem? (i := 41) rfl))) rfl (Cond.privateMethod_at (mvP hZ (hw _ (List.mem_of_getElem? (i := 87) rfl)) (args := #[]))) (mvT hZ (hw _ (List.mem_of_getElem? (i := 86) rfl))) (by decide)) (Cond.privateMethod_at (mvP hZ (hw _ (List.mem_of_getElem? (i := 87) rfl)) (args := #[]))) (mvT hZ (hw _ (List.mem_of_getElem? (i := 88) rfl))) (by decide) (backOf (W := 0) (rm14a l Z a0 hw [] a (3 : Int32) (q1 - (-2147483648 : Int64)) (0 : Int32) ia ma h0 n0 Z0 KTs rfl rfl) hZ (hw _ (List.mem_of_getElem? (i := 88) rfl)) (hw _ (List.mem_of_getElem? (i := 2) rfl)) (by decide) (by decide)) (g := (mkF m 85 #[.val (.ref a), .val (.int (0 : Int32)), .val (.long q1), .second, .val (.long q1), .second, .val (.long q1), .second, .val (.int (2 : Int32))] [(.int (0 : Int32)), (.long (q1 - (-2147483648 : Int64))), (.int (3 : Int32)), (.ref a)])) rfl (by rw [hml]; rfl) (Steps.refl _) (a := a) (by rw [e18]; exact q21) q21' (argsL := [(.int (3 : Int32)), (.long (q1 - (-2147483648 : Int64))), (.int (0 : Int32))]) (rest := []) (lenOf pd_10 rfl) rfl (by show 2 * 0 + _ ≤ _; exact Nat.le_of_eq rfl) (hb hby d9_85) (fun _ _ => ⟨rfl, e18, (by decide : 0 + 3 ≤ _), (by decide : 0 + 18 ≤ _)⟩)
  dsimp only [Pt.U, Pt.locs, Pt.cells, Pt.slots] at X21 l21 y21 z21 st21 hQ21
  subst l21 y21 z21
  obtain ⟨b, ib, mb, rfl, N21q, K21, KB21, sb, sib, smb⟩ := hQ21
  have N21 := Fr.app N18 N21q
  have S22 : Steps p.tables e below Ω (T21.setTop (mkF m 88 #[.val (.ref a), .val (.int (0 : Int32)), .val (.long q1), .second, .val (.long q1), .second, .val (.long q1), .second, .val (.int (2 : Int32))] [(.ref b)])) := S20.trans st21
  have gib := Nat.le_trans Z0 sib
  have S23 : Steps p.tables e below Ω (T21.setTop (mkF m 104 #[.val (.ref a), .val (.int (0 : Int32)), .val (.long q1), .second, .val (.long q1), .second, .val (.long q1), .second, .val (.ref b)] [(.long q1), (.int (0 : Int32)), (.ref b)])) := by
    refine S22.trans ?_
    refine XS.goto X21.here hx rfl (pc0 := 88) (pc' := 98) rfl (hb hby d9_88) (by decide) (by decide) ?_
    show Steps p.tables e below (T21.setTop (mkF m 98 #[.val (.ref a), .val (.int (0 : Int32)), .val (.long q1), .second, .val (.long q1), .second, .val (.long q1), .second, .val (.int (2 : Int32))] [(.ref b)])) _
    refine XS.astore X21.here hx rfl (hb hby d9_98) rfl rfl (l' := #[.val (.ref a), .val (.int (0 : Int32)), .val (.long q1), .second, .val (.long q1), .second, .val (.long q1), .second, .val (.ref b)]) rfl ?_
    show Steps p.tables e below (T21.setTop (mkF m 100 #[.val (.ref a), .val (.int (0 : Int32)), .val (.long q1), .second, .val (.long q1), .second, .val (.long q1), .second, .val (.ref b)] [])) _
    refine XS.aload X21.here hx rfl (hb hby d9_100) rfl rfl ?_
    show Steps p.tables e below (T21.setTop (mkF m 102 #[.val (.ref a), .val (.int (0 : Int32)), .val (.long q1), .second, .val (.long q1), .second, .val (.long q1), .second, .val (.ref b)] [(.ref b)])) _
    refine XS.iloadN X21.here hx rfl (hb hby d9_102) rfl ?_
    show Steps p.tables e below (T21.setTop (mkF m 103 #[.val (.ref a), .val (.int (0 : Int32)), .val (.long q1), .second, .val (.long q1), .second, .val (.long q1), .second, .val (.ref b)] [(.int (0 : Int32)), (.ref b)])) _
    refine XS.lloadN X21.here hx rfl (hb hby d9_103) rfl ?_
    exact Steps.refl _
  obtain ⟨cq24, kq24, q24a, q24b, q24c⟩ := isOf hZ rfl KB21.1
  obtain ⟨_, _, ⟨T24, L24, k24, n24⟩, -, X24, ⟨Lc24, hQ24, l24, y24, z24⟩, st24⟩ := X21.virtualBack hx (y := (⟨"com/example/admission_by_rate/admissionbyrate/KeyTable", "putLong", "(IJ)V"⟩ : MethodName)) (z := (⟨"com/example/admission_by_rate/admissionbyrate/KeyTable", "putLong", "(IJ)V"⟩ : MethodName)) hown (mvT hZ (hw _ (List.mem_of_getElem? (i := 100) rfl))) (mvT hZ (hw _ (List.mem_of_getElem? (i := 101) rfl))) (notFace_of_selects (args := #[]) (mvT hZ (hw _ (List.mem_of_getElem? (i := 103) rfl)))) (mvT hZ (hw _ (List.mem_of_getElem? (i := 103) rfl))) (mvT hZ (hw _ (List.mem_of_getElem? (i := 102) rfl))) (by decide) (backOf (W := 0) (rm17n l Z a0 hw [] b (0 : Int32) q1 ib mb (3 : Int32) (q1 - (-2147483648 : Int64)) (1 : Int32) (1 : Int32) [(0 : Int32), (1 : Int32), (0 : Int32), (0 : Int32), (0 : Int32), (0 : Int32)] 2 T21.heap n0 (Nat.le_trans Z0 K21.1) KB21 gib (by decide) (by rw [own_h1]; decide) (by decide) rfl (by decide)) hZ (hw _ (List.mem_of_getElem? (i := 104) rfl)) (hw _ (List.mem_of_getElem? (i := 2) rfl)) (by decide) (by decide)) q24a q24c (g := (mkF m 104 #[.val (.ref a), .val (.int (0 : Int32)), .val (.long q1), .second, .val (.long q1), .second, .val (.long q1), .second, .val (.ref b)] [(.long q1), (.int (0 : Int32)), (.ref b)])) rfl (by rw [hml]; rfl) (Steps.refl _) (argsL := [(.int (0 : Int32)), (.long q1)]) (rest := []) (lenOf pd_2 rfl) rfl (by show 2 * 0 + _ ≤ _; exact Nat.le_of_eq rfl) (hb hby d9_104) (fun _ _ => ⟨rfl, rfl, (by decide : 3 + 0 ≤ _), (by decide : 18 + 0 ≤ _)⟩)
  dsimp only [Pt.U, Pt.locs, Pt.cells, Pt.slots] at X24 l24 y24 z24 st24 hQ24
  subst l24 y24 z24
  obtain ⟨rfl, N24q, K24, KB24⟩ := hQ24
  have N24 := Fr.app N21 N24q
  have S25 : Steps p.tables e below Ω (T24.setTop (mkF m 107 #[.val (.ref a), .val (.int (0 : Int32)), .val (.long q1), .second, .val (.long q1), .second, .val (.long q1), .second, .val (.ref b)] [])) := S23.trans st24
  have KK : Keep h0 T24.heap [] := K21.trans K24 (fun x hx => Or.inr (by cases List.mem_singleton.mp hx; exact sib))
  have S26 : Steps p.tables e below Ω (T24.setTop (mkF m 109 #[.val (.ref a), .val (.int (0 : Int32)), .val (.long q1), .second, .val (.long q1), .second, .val (.long q1), .second, .val (.ref b)] [(.ref b)])) := by
    refine S25.trans ?_
    refine XS.aload X24.here hx rfl (hb hby d9_107) rfl rfl ?_
    exact Steps.refl _
  obtain ⟨fs, hr, hrun, hended, hW, hsame⟩ := X24.leave (v := some (.ref b)) (fun h => by rw [Bd.returns] at h; cases h)
  have hfin : Steps p.tables e below Ω (T24.setFrames fs) := by
    refine S26.trans ?_
    jvm_step X24.here [X24.here.top, hx, (hb hby d9_109), X24.method', Bd.returns, Value.isRef, FieldType.isReference]
    first | (intro acts; rw [hr _ acts rfl rfl rfl]) | rw [hr _ _ rfl rfl rfl]
    exact Steps.refl _
  rw [hΩ] at hfin
  refine ⟨_, _, hfin, hrun, hended, _, _, rfl, ?_, ⟨_, rfl⟩, hW, hsame.mono (by decide) (by decide)⟩
  show Q9a Z a (0 : Int32) q1 ia ma h0 n0 _ T24.heap _
  exact ⟨b, ib, mb, rfl, N24, KK, KB24, sb, sib, smb⟩
theorem d9_35 : decode prog_28_method_19_code 35 = .ok (.lload 4, 2) := by decide +kernel
theorem d9_37 : decode prog_28_method_19_code 37 = .ok (.aload_n 0, 1) := by decide +kernel
theorem d9_38 : decode prog_28_method_19_code 38 = .ok (.iload 8, 2) := by decide +kernel
theorem d9_40 : decode prog_28_method_19_code 40 = .ok (.invokevirtual 53, 3) := by decide +kernel
theorem pd_11 : parseMethodDescriptor "(JJ)J" = some ⟨[.long, .long], some .long⟩ := by decide +kernel
theorem d9_43 : decode prog_28_method_19_code 43 = .ok (.invokestatic 107, 3) := by decide +kernel
theorem d9_46 : decode prog_28_method_19_code 46 = .ok (.lstore 4, 2) := by decide +kernel
theorem d9_48 : decode prog_28_method_19_code 48 = .ok (.lload 6, 2) := by decide +kernel
theorem d9_50 : decode prog_28_method_19_code 50 = .ok (.aload_n 0, 1) := by decide +kernel
theorem d9_51 : decode prog_28_method_19_code 51 = .ok (.iload 8, 2) := by decide +kernel
theorem d9_53 : decode prog_28_method_19_code 53 = .ok (.invokevirtual 53, 3) := by decide +kernel
theorem d9_56 : decode prog_28_method_19_code 56 = .ok (.invokestatic 113, 3) := by decide +kernel
theorem d9_59 : decode prog_28_method_19_code 59 = .ok (.lstore 6, 2) := by decide +kernel
theorem d9_91 : decode prog_28_method_19_code 91 = .ok (.aload_n 0, 1) := by decide +kernel
theorem d9_92 : decode prog_28_method_19_code 92 = .ok (.iconst 4, 1) := by decide +kernel
theorem d9_93 : decode prog_28_method_19_code 93 = .ok (.lconst 0, 1) := by decide +kernel
theorem d9_94 : decode prog_28_method_19_code 94 = .ok (.iload_n 1, 1) := by decide +kernel
theorem d9_95 : decode prog_28_method_19_code 95 = .ok (.invokevirtual 124, 3) := by decide +kernel
theorem ef_rm9b (m : MethodId) (x0 : Addr) (x1 : Int32) (x2 : Int64) : entryFrame m #[(.ref x0), (.int x1), (.long x2)] 9 = mkF m 0 #[.val (.ref x0), .val (.int x1), .val (.long x2), .second, .unset, .unset, .unset, .unset, .unset] [] := by first | (simp [entryFrame, mkF, argsToLocals, Value.category]; done) | rfl
def Q9b (Z : State) (a : Addr) (p1 : Int32) (q1 : Int64) (ia : Addr) (ma : Addr) (h0 : Heap) (n0 : Nat) (v : Option Value) (h : Heap) (L : List Loc) : Prop := ∃ b ib mb : Addr, v = some (.ref b) ∧ Fr n0 L ∧ Keep h0 h [] ∧ KT Z h b ib mb (4 : Int32) (0 : Int64) (1 : Int32) (2 : Int32) [(0 : Int32), (1 : Int32), (2147483647 : Int32), (-1 : Int32), (0 : Int32), (3 : Int32), (0 : Int32), (0 : Int32)] ∧ h0.size ≤ b ∧ h0.size ≤ ib ∧ h0.size ≤ mb
set_option maxRecDepth 65536 in
set_option maxHeartbeats 40000000 in
theorem rm9b (l : Launch) (Z : State) (a0 : Array Value) (hw : ∀ d ∈ tables_1, d.before a0 Z = true) (ws : List Jvm.Cond) (a : Addr) (p1 : Int32) (q1 : Int64) (ia : Addr) (ma : Addr) (h0 : Heap) (n0 : Nat) (Z0 : n0 ≤ h0.size) (KT0 : KT Z h0 a ia ma (3 : Int32) (0 : Int64) (1 : Int32) (2 : Int32) [(0 : Int32), (1 : Int32), (0 : Int32), (0 : Int32), (3 : Int32), (0 : Int32)]) (pe1 : p1 = (0 : Int32)) (pe2 : q1 = (9223372036854775807 : Int64)) :
    MetFree l (⟨"com/example/admission_by_rate/admissionbyrate/KeyTable", "relaid", "(IJ)Lcom/example/admission_by_rate/admissionbyrate/KeyTable;"⟩ : MethodName) (head1 (Jvm.Cond.code (⟨"com/example/admission_by_rate/admissionbyrate/KeyTable", "relaid", "(IJ)Lcom/example/admission_by_rate/admissionbyrate/KeyTable;"⟩ : MethodName) prog_28_method_19_code 9 (some (.object "com/example/admission_by_rate/admissionbyrate/KeyTable")) :: ws) ({ frames := 4, cells := 3, slots := 18, locals := 65 } : Room)) (fun aa U => aa = #[(.ref a), (.int p1), (.long q1)] ∧ Z.Warmed39 U.vm ∧ U.heap = h0) (fun _ _ _ _ _ => True) (fun _ U o U' => ∃ v L, o = .returned v ∧ Q9b Z a (0 : Int32) (9223372036854775807 : Int64) ia ma h0 n0 v U'.heap L ∧ FrameEnd U o U' L ({ frames := 4, cells := 3, slots := 18, locals := 65 } : Room).cells ({ frames := 4, cells := 3, slots := 18, locals := 65 } : Room).slots) := by
  refine MetFree.of_bodySF (plainFor_of_name pn_0) hisR ?_
  intro p e s m args below meth c s₁ Bd hml0 hP hK
  obtain ⟨rfl, hZ, hh⟩ := hP
  have hx := Bd.exec
  have hby := Bd.bytes
  have hml : c.maxLocals = 9 := hml0
  have hown : s.vm.findClass "com/example/admission_by_rate/admissionbyrate/KeyTable" = some m.cls := findClass_of_methodNamed Bd.named
  have hnm := (name_of_methodNamed Bd.named Bd.method).1
  have X0 : Stand p l e ({ frames := 4, cells := 3, slots := 18, locals := 65 } : Room) s m #[(.ref a), (.int p1), (.long q1)] below meth c s₁ [] 0 0 := Stand.of_body Bd
  have e0 : s₁.heap = h0 := by rw [← hh, Bd.state]; rfl
  have N0 := Fr.nil n0
  obtain ⟨Ω, hΩ⟩ : ∃ z, z = s₁.setTop (entryFrame m #[(.ref a), (.int p1), (.long q1)] 9) := ⟨_, rfl⟩
  have S0 : Steps p.tables e below Ω (s₁.setTop (mkF m 0 #[.val (.ref a), .val (.int p1), .val (.long q1), .second, .unset, .unset, .unset, .unset, .unset] [])) := by rw [hΩ]; exact castTop (ef_rm9b m a p1 q1) (Steps.refl _)
  subst pe1 pe2
  have KTs := KT0
  obtain ⟨E0, Pst, Pin, Pbs, Pma, Pmk, Pcn, A0, Em, Pw, ne1, ne2, ne3⟩ := KT0
  have S1 : Steps p.tables e below Ω (s₁.setTop (mkF m 12 #[.val (.ref a), .val (.int (0 : Int32)), .val (.long (9223372036854775807 : Int64)), .second, .val (.long (9223372036854775807 : Int64)), .second, .val (.long (9223372036854775807 : Int64)), .second, .val (.int (0 : Int32))] [(.ref a), (.int (0 : Int32))])) := by
    refine S0.trans ?_
    refine XS.lloadN X0.here hx rfl (hb hby d9_0) rfl ?_
    show Steps p.tables e below (s₁.setTop (mkF m 1 #[.val (.ref a), .val (.int (0 : Int32)), .val (.long (9223372036854775807 : Int64)), .second, .unset, .unset, .unset, .unset, .unset] [(.long (9223372036854775807 : Int64))])) _
    refine XS.lstore X0.here hx rfl (hb hby d9_1) rfl (l' := #[.val (.ref a), .val (.int (0 : Int32)), .val (.long (9223372036854775807 : Int64)), .second, .val (.long (9223372036854775807 : Int64)), .second, .unset, .unset, .unset]) rfl ?_
    show Steps p.tables e below (s₁.setTop (mkF m 3 #[.val (.ref a), .val (.int (0 : Int32)), .val (.long (9223372036854775807 : Int64)), .second, .val (.long (9223372036854775807 : Int64)), .second, .unset, .unset, .unset] [])) _
    refine XS.lloadN X0.here hx rfl (hb hby d9_3) rfl ?_
    show Steps p.tables e below (s₁.setTop (mkF m 4 #[.val (.ref a), .val (.int (0 : Int32)), .val (.long (9223372036854775807 : Int64)), .second, .val (.long (9223372036854775807 : Int64)), .second, .unset, .unset, .unset] [(.long (9223372036854775807 : Int64))])) _
    refine XS.lstore X0.here hx rfl (hb hby d9_4) rfl (l' := #[.val (.ref a), .val (.int (0 : Int32)), .val (.long (9223372036854775807 : Int64)), .second, .val (.long (9223372036854775807 : Int64)), .second, .val (.long (9223372036854775807 : Int64)), .second, .unset]) rfl ?_
    show Steps p.tables e below (s₁.setTop (mkF m 6 #[.val (.ref a), .val (.int (0 : Int32)), .val (.long (9223372036854775807 : Int64)), .second, .val (.long (9223372036854775807 : Int64)), .second, .val (.long (9223372036854775807 : Int64)), .second, .unset] [])) _
    refine XS.iconst X0.here hx rfl (hb hby d9_6) ?_
    show Steps p.tables e below (s₁.setTop (mkF m 7 #[.val (.ref a), .val (.int (0 : Int32)), .val (.long (9223372036854775807 : Int64)), .second, .val (.long (9223372036854775807 : Int64)), .second, .val (.long (9223372036854775807 : Int64)), .second, .unset] [(.int (0 : Int32))])) _
    refine XS.istore X0.here hx rfl (hb hby d9_7) rfl (l' := #[.val (.ref a), .val (.int (0 : Int32)), .val (.long (9223372036854775807 : Int64)), .second, .val (.long (9223372036854775807 : Int64)), .second, .val (.long (9223372036854775807 : Int64)), .second, .val (.int (0 : Int32))]) rfl ?_
    show Steps p.tables e below (s₁.setTop (mkF m 9 #[.val (.ref a), .val (.int (0 : Int32)), .val (.long (9223372036854775807 : Int64)), .second, .val (.long (9223372036854775807 : Int64)), .second, .val (.long (9223372036854775807 : Int64)), .second, .val (.int (0 : Int32))] [])) _
    refine XS.iload X0.here hx rfl (hb hby d9_9) rfl ?_
    show Steps p.tables e below (s₁.setTop (mkF m 11 #[.val (.ref a), .val (.int (0 : Int32)), .val (.long (9223372036854775807 : Int64)), .second, .val (.long (9223372036854775807 : Int64)), .second, .val (.long (9223372036854775807 : Int64)), .second, .val (.int (0 : Int32))] [(.int (0 : Int32))])) _
    refine XS.aloadN X0.here hx rfl (hb hby d9_11) rfl rfl ?_
    exact Steps.refl _
  obtain ⟨T2, X2, e2, st2⟩ := getF X0 hx hZ hown (host := "") (Or.inl (hw _ (List.mem_of_getElem? (i := 34) rfl))) Via.refl e0 Pmk (g := (mkF m 12 #[.val (.ref a), .val (.int (0 : Int32)), .val (.long (9223372036854775807 : Int64)), .second, .val (.long (9223372036854775807 : Int64)), .second, .val (.long (9223372036854775807 : Int64)), .second, .val (.int (0 : Int32))] [(.ref a), (.int (0 : Int32))])) rfl rfl (hb hby d9_12)
  have S3 : Steps p.tables e below Ω (T2.setTop (mkF m 15 #[.val (.ref a), .val (.int (0 : Int32)), .val (.long (9223372036854775807 : Int64)), .second, .val (.long (9223372036854775807 : Int64)), .second, .val (.long (9223372036854775807 : Int64)), .second, .val (.int (0 : Int32))] [(.int (1 : Int32)), (.int (0 : Int32))])) := S1.trans (st2 _ (Steps.refl _))
  have S4 : Steps p.tables e below Ω (T2.setTop (mkF m 12 #[.val (.ref a), .val (.int (0 : Int32)), .val (.long (9223372036854775807 : Int64)), .second, .val (.long (9223372036854775807 : Int64)), .second, .val (.long (9223372036854775807 : Int64)), .second, .val (.int (1 : Int32))] [(.ref a), (.int (1 : Int32))])) := by
    refine S3.trans ?_
    refine XS.icmpNo X2.here hx rfl (hb hby d9_15) rfl (XT.ii_gt_f (by decide)) ?_
    show Steps p.tables e below (T2.setTop (mkF m 18 #[.val (.ref a), .val (.int (0 : Int32)), .val (.long (9223372036854775807 : Int64)), .second, .val (.long (9223372036854775807 : Int64)), .second, .val (.long (9223372036854775807 : Int64)), .second, .val (.int (0 : Int32))] [])) _
    refine XS.iload X2.here hx rfl (hb hby d9_18) rfl ?_
    show Steps p.tables e below (T2.setTop (mkF m 20 #[.val (.ref a), .val (.int (0 : Int32)), .val (.long (9223372036854775807 : Int64)), .second, .val (.long (9223372036854775807 : Int64)), .second, .val (.long (9223372036854775807 : Int64)), .second, .val (.int (0 : Int32))] [(.int (0 : Int32))])) _
    refine XS.iloadN X2.here hx rfl (hb hby d9_20) rfl ?_
    show Steps p.tables e below (T2.setTop (mkF m 21 #[.val (.ref a), .val (.int (0 : Int32)), .val (.long (9223372036854775807 : Int64)), .second, .val (.long (9223372036854775807 : Int64)), .second, .val (.long (9223372036854775807 : Int64)), .second, .val (.int (0 : Int32))] [(.int (0 : Int32)), (.int (0 : Int32))])) _
    refine XS.icmpYes X2.here hx rfl (pc0 := 21) (pc' := 61) rfl (hb hby d9_21) rfl (XT.ii_eq_t (by decide)) (by decide) (by decide) ?_
    show Steps p.tables e below (T2.setTop (mkF m 61 #[.val (.ref a), .val (.int (0 : Int32)), .val (.long (9223372036854775807 : Int64)), .second, .val (.long (9223372036854775807 : Int64)), .second, .val (.long (9223372036854775807 : Int64)), .second, .val (.int (0 : Int32))] [])) _
    refine XS.iinc X2.here hx rfl (hb hby d9_61) rfl (l' := #[.val (.ref a), .val (.int (0 : Int32)), .val (.long (9223372036854775807 : Int64)), .second, .val (.long (9223372036854775807 : Int64)), .second, .val (.long (9223372036854775807 : Int64)), .second, .val (.int (1 : Int32))]) rfl ?_
    show Steps p.tables e below (T2.setTop (mkF m 64 #[.val (.ref a), .val (.int (0 : Int32)), .val (.long (9223372036854775807 : Int64)), .second, .val (.long (9223372036854775807 : Int64)), .second, .val (.long (9223372036854775807 : Int64)), .second, .val (.int (1 : Int32))] [])) _
    refine XS.goto X2.here hx rfl (pc0 := 64) (pc' := 9) rfl (hb hby d9_64) (by decide) (by decide) ?_
    show Steps p.tables e below (T2.setTop (mkF m 9 #[.val (.ref a), .val (.int (0 : Int32)), .val (.long (9223372036854775807 : Int64)), .second, .val (.long (9223372036854775807 : Int64)), .second, .val (.long (9223372036854775807 : Int64)), .second, .val (.int (1 : Int32))] [])) _
    refine XS.iload X2.here hx rfl (hb hby d9_9) rfl ?_
    show Steps p.tables e below (T2.setTop (mkF m 11 #[.val (.ref a), .val (.int (0 : Int32)), .val (.long (9223372036854775807 : Int64)), .second, .val (.long (9223372036854775807 : Int64)), .second, .val (.long (9223372036854775807 : Int64)), .second, .val (.int (1 : Int32))] [(.int (1 : Int32))])) _
    refine XS.aloadN X2.here hx rfl (hb hby d9_11) rfl rfl ?_
    exact Steps.refl _
  obtain ⟨T5, X5, e5, st5⟩ := getF X2 hx hZ hown (host := "") (Or.inl (hw _ (List.mem_of_getElem? (i := 34) rfl))) Via.refl e2 Pmk (g := (mkF m 12 #[.val (.ref a), .val (.int (0 : Int32)), .val (.long (9223372036854775807 : Int64)), .second, .val (.long (9223372036854775807 : Int64)), .second, .val (.long (9223372036854775807 : Int64)), .second, .val (.int (1 : Int32))] [(.ref a), (.int (1 : Int32))])) rfl rfl (hb hby d9_12)
  have S6 : Steps p.tables e below Ω (T5.setTop (mkF m 15 #[.val (.ref a), .val (.int (0 : Int32)), .val (.long (9223372036854775807 : Int64)), .second, .val (.long (9223372036854775807 : Int64)), .second, .val (.long (9223372036854775807 : Int64)), .second, .val (.int (1 : Int32))] [(.int (1 : Int32)), (.int (1 : Int32))])) := S4.trans (st5 _ (Steps.refl _))
  have S7 : Steps p.tables e below Ω (T5.setTop (mkF m 27 #[.val (.ref a), .val (.int (0 : Int32)), .val (.long (9223372036854775807 : Int64)), .second, .val (.long (9223372036854775807 : Int64)), .second, .val (.long (9223372036854775807 : Int64)), .second, .val (.int (1 : Int32))] [(.int (1 : Int32)), (.ref a)])) := by
    refine S6.trans ?_
    refine XS.icmpNo X5.here hx rfl (hb hby d9_15) rfl (XT.ii_gt_f (by decide)) ?_
    show Steps p.tables e below (T5.setTop (mkF m 18 #[.val (.ref a), .val (.int (0 : Int32)), .val (.long (9223372036854775807 : Int64)), .second, .val (.long (9223372036854775807 : Int64)), .second, .val (.long (9223372036854775807 : Int64)), .second, .val (.int (1 : Int32))] [])) _
    refine XS.iload X5.here hx rfl (hb hby d9_18) rfl ?_
    show Steps p.tables e below (T5.setTop (mkF m 20 #[.val (.ref a), .val (.int (0 : Int32)), .val (.long (9223372036854775807 : Int64)), .second, .val (.long (9223372036854775807 : Int64)), .second, .val (.long (9223372036854775807 : Int64)), .second, .val (.int (1 : Int32))] [(.int (1 : Int32))])) _
    refine XS.iloadN X5.here hx rfl (hb hby d9_20) rfl ?_
    show Steps p.tables e below (T5.setTop (mkF m 21 #[.val (.ref a), .val (.int (0 : Int32)), .val (.long (9223372036854775807 : Int64)), .second, .val (.long (9223372036854775807 : Int64)), .second, .val (.long (9223372036854775807 : Int64)), .second, .val (.int (1 : Int32))] [(.int (0 : Int32)), (.int (1 : Int32))])) _
    refine XS.icmpNo X5.here hx rfl (hb hby d9_21) rfl (XT.ii_eq_f (by decide)) ?_
    show Steps p.tables e below (T5.setTop (mkF m 24 #[.val (.ref a), .val (.int (0 : Int32)), .val (.long (9223372036854775807 : Int64)), .second, .val (.long (9223372036854775807 : Int64)), .second, .val (.long (9223372036854775807 : Int64)), .second, .val (.int (1 : Int32))] [])) _
    refine XS.aloadN X5.here hx rfl (hb hby d9_24) rfl rfl ?_
    show Steps p.tables e below (T5.setTop (mkF m 25 #[.val (.ref a), .val (.int (0 : Int32)), .val (.long (9223372036854775807 : Int64)), .second, .val (.long (9223372036854775807 : Int64)), .second, .val (.long (9223372036854775807 : Int64)), .second, .val (.int (1 : Int32))] [(.ref a)])) _
    refine XS.iload X5.here hx rfl (hb hby d9_25) rfl ?_
    exact Steps.refl _
  obtain ⟨cq8, kq8, q8a, q8b, q8c⟩ := isOf hZ e5 E0
  obtain ⟨_, _, ⟨T8, L8, k8, n8⟩, -, X8, ⟨Lc8, hQ8, l8, y8, z8⟩, st8⟩ := X5.virtualBack hx (y := (⟨"com/example/admission_by_rate/admissionbyrate/KeyTable", "digestAt", "(I)J"⟩ : MethodName)) (z := (⟨"com/example/admission_by_rate/admissionbyrate/KeyTable", "digestAt", "(I)J"⟩ : MethodName)) hown (mvT hZ (hw _ (List.mem_of_getElem? (i := 67) rfl))) (mvT hZ (hw _ (List.mem_of_getElem? (i := 68) rfl))) (notFace_of_selects (args := #[]) (mvT hZ (hw _ (List.mem_of_getElem? (i := 70) rfl)))) (mvT hZ (hw _ (List.mem_of_getElem? (i := 70) rfl))) (mvT hZ (hw _ (List.mem_of_getElem? (i := 69) rfl))) (by decide) (backOf (W := 0) (rm10 l Z a0 hw [] a (1 : Int32) ia ma (3 : Int32) (0 : Int64) (1 : Int32) (2 : Int32) [(0 : Int32), (1 : Int32), (0 : Int32), (0 : Int32), (3 : Int32), (0 : Int32)] (0 : Int32) (3 : Int32) h0 n0 Z0 KTs (by decide) rfl (by decide) rfl) hZ (hw _ (List.mem_of_getElem? (i := 71) rfl)) (hw _ (List.mem_of_getElem? (i := 2) rfl)) (by decide) (by decide)) q8a q8c (g := (mkF m 27 #[.val (.ref a), .val (.int (0 : Int32)), .val (.long (9223372036854775807 : Int64)), .second, .val (.long (9223372036854775807 : Int64)), .second, .val (.long (9223372036854775807 : Int64)), .second, .val (.int (1 : Int32))] [(.int (1 : Int32)), (.ref a)])) rfl (by rw [hml]; rfl) (Steps.refl _) (argsL := [(.int (1 : Int32))]) (rest := []) (lenOf pd_0 rfl) rfl (by show 2 * 0 + _ ≤ _; exact Nat.le_of_eq rfl) (hb hby d9_27) (fun _ _ => ⟨rfl, e5, (by decide : 0 + 0 ≤ _), (by decide : 0 + 0 ≤ _)⟩)
  dsimp only [Pt.U, Pt.locs, Pt.cells, Pt.slots] at X8 l8 y8 z8 st8 hQ8
  subst l8 y8 z8
  obtain ⟨rfl, N8q, e8⟩ := hQ8
  have N8 := Fr.app N0 N8q
  have S9 : Steps p.tables e below Ω (T8.setTop (mkF m 30 #[.val (.ref a), .val (.int (0 : Int32)), .val (.long (9223372036854775807 : Int64)), .second, .val (.long (9223372036854775807 : Int64)), .second, .val (.long (9223372036854775807 : Int64)), .second, .val (.int (1 : Int32))] [(.long (own_of (0 : Int32) (3 : Int32)))])) := S7.trans st8
  rw [(by decide : (own_of (0 : Int32) (3 : Int32)) = (3 : Int64))] at S9
  have S10 : Steps p.tables e below Ω (T8.setTop (mkF m 32 #[.val (.ref a), .val (.int (0 : Int32)), .val (.long (9223372036854775807 : Int64)), .second, .val (.long (9223372036854775807 : Int64)), .second, .val (.long (9223372036854775807 : Int64)), .second, .val (.int (1 : Int32))] [(.int (lcmpW (3 : Int64) (0 : Int64)))])) := by
    refine S9.trans ?_
    refine XS.lconst X8.here hx rfl (hb hby d9_30) ?_
    show Steps p.tables e below (T8.setTop (mkF m 31 #[.val (.ref a), .val (.int (0 : Int32)), .val (.long (9223372036854775807 : Int64)), .second, .val (.long (9223372036854775807 : Int64)), .second, .val (.long (9223372036854775807 : Int64)), .second, .val (.int (1 : Int32))] [(.long (0 : Int64)), (.long (3 : Int64))])) _
    refine XS.lcmp X8.here hx rfl (hb hby d9_31) rfl ?_
    exact Steps.refl _
  have S11 : Steps p.tables e below Ω (T8.setTop (mkF m 40 #[.val (.ref a), .val (.int (0 : Int32)), .val (.long (9223372036854775807 : Int64)), .second, .val (.long (9223372036854775807 : Int64)), .second, .val (.long (9223372036854775807 : Int64)), .second, .val (.int (1 : Int32))] [(.int (1 : Int32)), (.ref a), (.long (9223372036854775807 : Int64))])) := by
    refine S10.trans ?_
    refine XS.ifNo X8.here hx rfl (hb hby d9_32) rfl (XT.ll_eq_f (by decide)) ?_
    show Steps p.tables e below (T8.setTop (mkF m 35 #[.val (.ref a), .val (.int (0 : Int32)), .val (.long (9223372036854775807 : Int64)), .second, .val (.long (9223372036854775807 : Int64)), .second, .val (.long (9223372036854775807 : Int64)), .second, .val (.int (1 : Int32))] [])) _
    refine XS.lload X8.here hx rfl (hb hby d9_35) rfl ?_
    show Steps p.tables e below (T8.setTop (mkF m 37 #[.val (.ref a), .val (.int (0 : Int32)), .val (.long (9223372036854775807 : Int64)), .second, .val (.long (9223372036854775807 : Int64)), .second, .val (.long (9223372036854775807 : Int64)), .second, .val (.int (1 : Int32))] [(.long (9223372036854775807 : Int64))])) _
    refine XS.aloadN X8.here hx rfl (hb hby d9_37) rfl rfl ?_
    show Steps p.tables e below (T8.setTop (mkF m 38 #[.val (.ref a), .val (.int (0 : Int32)), .val (.long (9223372036854775807 : Int64)), .second, .val (.long (9223372036854775807 : Int64)), .second, .val (.long (9223372036854775807 : Int64)), .second, .val (.int (1 : Int32))] [(.ref a), (.long (9223372036854775807 : Int64))])) _
    refine XS.iload X8.here hx rfl (hb hby d9_38) rfl ?_
    exact Steps.refl _
  obtain ⟨cq12, kq12, q12a, q12b, q12c⟩ := isOf hZ e8 E0
  obtain ⟨_, _, ⟨T12, L12, k12, n12⟩, -, X12, ⟨Lc12, hQ12, l12, y12, z12⟩, st12⟩ := X8.virtualBack hx (y := (⟨"com/example/admission_by_rate/admissionbyrate/KeyTable", "longAt", "(I)J"⟩ : MethodName)) (z := (⟨"com/example/admission_by_rate/admissionbyrate/KeyTable", "longAt", "(I)J"⟩ : MethodName)) hown (mvT hZ (hw _ (List.mem_of_getElem? (i := 114) rfl))) (mvT hZ (hw _ (List.mem_of_getElem? (i := 107) rfl))) (notFace_of_selects (args := #[]) (mvT hZ (hw _ (List.mem_of_getElem? (i := 109) rfl)))) (mvT hZ (hw _ (List.mem_of_getElem? (i := 109) rfl))) (mvT hZ (hw _ (List.mem_of_getElem? (i := 108) rfl))) (by decide) (backOf (W := 2) (rm18n l Z a0 hw [] a (1 : Int32) ia ma (3 : Int32) (0 : Int64) (1 : Int32) (2 : Int32) [(0 : Int32), (1 : Int32), (0 : Int32), (0 : Int32), (3 : Int32), (0 : Int32)] (0 : Int32) h0 n0 Z0 KTs rfl (by decide) rfl) hZ (hw _ (List.mem_of_getElem? (i := 110) rfl)) (hw _ (List.mem_of_getElem? (i := 2) rfl)) (by decide) (by decide)) q12a q12c (g := (mkF m 40 #[.val (.ref a), .val (.int (0 : Int32)), .val (.long (9223372036854775807 : Int64)), .second, .val (.long (9223372036854775807 : Int64)), .second, .val (.long (9223372036854775807 : Int64)), .second, .val (.int (1 : Int32))] [(.int (1 : Int32)), (.ref a), (.long (9223372036854775807 : Int64))])) rfl (by rw [hml]; rfl) (Steps.refl _) (argsL := [(.int (1 : Int32))]) (rest := [(.long (9223372036854775807 : Int64))]) (lenOf pd_0 rfl) rfl (by show 2 * 0 + _ ≤ _; exact Nat.le_of_eq rfl) (hb hby d9_40) (fun _ _ => ⟨rfl, e8, (by decide : 0 + 0 ≤ _), (by decide : 0 + 0 ≤ _)⟩)
  dsimp only [Pt.U, Pt.locs, Pt.cells, Pt.slots] at X12 l12 y12 z12 st12 hQ12
  subst l12 y12 z12
  obtain ⟨rfl, N12q, e12⟩ := hQ12
  have N12 := Fr.app N8 N12q
  have S13 : Steps p.tables e below Ω (T12.setTop (mkF m 43 #[.val (.ref a), .val (.int (0 : Int32)), .val (.long (9223372036854775807 : Int64)), .second, .val (.long (9223372036854775807 : Int64)), .second, .val (.long (9223372036854775807 : Int64)), .second, .val (.int (1 : Int32))] [(.long ((0 : Int64) + (0 : Int32).toInt64)), (.long (9223372036854775807 : Int64))])) := S11.trans st12
  rw [(by decide : ((0 : Int64) + (0 : Int32).toInt64) = (0 : Int64))] at S13
  obtain ⟨_, _, ⟨T14, L14, k14, n14⟩, -, X14, ⟨Lc14, hQ14, l14, y14, z14⟩, st14⟩ := Jvm.LawKit.callS X12 hx (y := (⟨"java/lang/Math", "min", "(JJ)J"⟩ : MethodName)) hown (mvT hZ (hw _ (List.mem_of_getElem? (i := 115) rfl))) (mvT hZ (hw _ (List.mem_of_getElem? (i := 116) rfl))) (mvT hZ (hw _ (List.mem_of_getElem? (i := 117) rfl))) (mvT hZ (hw _ (List.mem_of_getElem? (i := 118) rfl))) (by decide) (backOf (W := 0) (rm19 l Z a0 hw [] (9223372036854775807 : Int64) (0 : Int64)  h0 n0 Z0 ) hZ (hw _ (List.mem_of_getElem? (i := 118) rfl)) (hw _ (List.mem_of_getElem? (i := 117) rfl)) (by decide) (by decide)) (g := (mkF m 43 #[.val (.ref a), .val (.int (0 : Int32)), .val (.long (9223372036854775807 : Int64)), .second, .val (.long (9223372036854775807 : Int64)), .second, .val (.long (9223372036854775807 : Int64)), .second, .val (.int (1 : Int32))] [(.long (0 : Int64)), (.long (9223372036854775807 : Int64))])) rfl (by rw [hml]; rfl) (argsL := [(.long (9223372036854775807 : Int64)), (.long (0 : Int64))]) (rest := []) (lenOf pd_11 rfl) rfl (by show 2 * 0 + _ ≤ _; exact Nat.le_of_eq rfl) (hb hby d9_43) (fun _ _ => ⟨rfl, e12, (by decide : 0 + 0 ≤ _), (by decide : 0 + 0 ≤ _)⟩)
  dsimp only [Pt.U, Pt.locs, Pt.cells, Pt.slots] at X14 l14 y14 z14 st14 hQ14
  subst l14 y14 z14
  obtain ⟨rfl, N14q, e14⟩ := hQ14
  have N14 := Fr.app N12 N14q
  have S15 : Steps p.tables e below Ω (T14.setTop (mkF m 46 #[.val (.ref a), .val (.int (0 : Int32)), .val (.long (9223372036854775807 : Int64)), .second, .val (.long (9223372036854775807 : Int64)), .second, .val (.long (9223372036854775807 : Int64)), .second, .val (.int (1 : Int32))] [(.long (own_minJ (9223372036854775807 : Int64) (0 : Int64)))])) := S13.trans (st14 _ (Steps.refl _))
  rw [(by decide : (own_minJ (9223372036854775807 : Int64) (0 : Int64)) = (0 : Int64))] at S15
  have S16 : Steps p.tables e below Ω (T14.setTop (mkF m 53 #[.val (.ref a), .val (.int (0 : Int32)), .val (.long (9223372036854775807 : Int64)), .second, .val (.long (0 : Int64)), .second, .val (.long (9223372036854775807 : Int64)), .second, .val (.int (1 : Int32))] [(.int (1 : Int32)), (.ref a), (.long (9223372036854775807 : Int64))])) := by
    refine S15.trans ?_
    refine XS.lstore X14.here hx rfl (hb hby d9_46) rfl (l' := #[.val (.ref a), .val (.int (0 : Int32)), .val (.long (9223372036854775807 : Int64)), .second, .val (.long (0 : Int64)), .second, .val (.long (9223372036854775807 : Int64)), .second, .val (.int (1 : Int32))]) rfl ?_
    show Steps p.tables e below (T14.setTop (mkF m 48 #[.val (.ref a), .val (.int (0 : Int32)), .val (.long (9223372036854775807 : Int64)), .second, .val (.long (0 : Int64)), .second, .val (.long (9223372036854775807 : Int64)), .second, .val (.int (1 : Int32))] [])) _
    refine XS.lload X14.here hx rfl (hb hby d9_48) rfl ?_
    show Steps p.tables e below (T14.setTop (mkF m 50 #[.val (.ref a), .val (.int (0 : Int32)), .val (.long (9223372036854775807 : Int64)), .second, .val (.long (0 : Int64)), .second, .val (.long (9223372036854775807 : Int64)), .second, .val (.int (1 : Int32))] [(.long (9223372036854775807 : Int64))])) _
    refine XS.aloadN X14.here hx rfl (hb hby d9_50) rfl rfl ?_
    show Steps p.tables e below (T14.setTop (mkF m 51 #[.val (.ref a), .val (.int (0 : Int32)), .val (.long (9223372036854775807 : Int64)), .second, .val (.long (0 : Int64)), .second, .val (.long (9223372036854775807 : Int64)), .second, .val (.int (1 : Int32))] [(.ref a), (.long (9223372036854775807 : Int64))])) _
    refine XS.iload X14.here hx rfl (hb hby d9_51) rfl ?_
    exact Steps.refl _
  obtain ⟨cq17, kq17, q17a, q17b, q17c⟩ := isOf hZ e14 E0
  obtain ⟨_, _, ⟨T17, L17, k17, n17⟩, -, X17, ⟨Lc17, hQ17, l17, y17, z17⟩, st17⟩ := X14.virtualBack hx (y := (⟨"com/example/admission_by_rate/admissionbyrate/KeyTable", "longAt", "(I)J"⟩ : MethodName)) (z := (⟨"com/example/admission_by_rate/admissionbyrate/KeyTable", "longAt", "(I)J"⟩ : MethodName)) hown (mvT hZ (hw _ (List.mem_of_getElem? (i := 114) rfl))) (mvT hZ (hw _ (List.mem_of_getElem? (i := 107) rfl))) (notFace_of_selects (args := #[]) (mvT hZ (hw _ (List.mem_of_getElem? (i := 109) rfl)))) (mvT hZ (hw _ (List.mem_of_getElem? (i := 109) rfl))) (mvT hZ (hw _ (List.mem_of_getElem? (i := 108) rfl))) (by decide) (backOf (W := 2) (rm18n l Z a0 hw [] a (1 : Int32) ia ma (3 : Int32) (0 : Int64) (1 : Int32) (2 : Int32) [(0 : Int32), (1 : Int32), (0 : Int32), (0 : Int32), (3 : Int32), (0 : Int32)] (0 : Int32) h0 n0 Z0 KTs rfl (by decide) rfl) hZ (hw _ (List.mem_of_getElem? (i := 110) rfl)) (hw _ (List.mem_of_getElem? (i := 2) rfl)) (by decide) (by decide)) q17a q17c (g := (mkF m 53 #[.val (.ref a), .val (.int (0 : Int32)), .val (.long (9223372036854775807 : Int64)), .second, .val (.long (0 : Int64)), .second, .val (.long (9223372036854775807 : Int64)), .second, .val (.int (1 : Int32))] [(.int (1 : Int32)), (.ref a), (.long (9223372036854775807 : Int64))])) rfl (by rw [hml]; rfl) (Steps.refl _) (argsL := [(.int (1 : Int32))]) (rest := [(.long (9223372036854775807 : Int64))]) (lenOf pd_0 rfl) rfl (by show 2 * 0 + _ ≤ _; exact Nat.le_of_eq rfl) (hb hby d9_53) (fun _ _ => ⟨rfl, e14, (by decide : 0 + 0 ≤ _), (by decide : 0 + 0 ≤ _)⟩)
  dsimp only [Pt.U, Pt.locs, Pt.cells, Pt.slots] at X17 l17 y17 z17 st17 hQ17
  subst l17 y17 z17
  obtain ⟨rfl, N17q, e17⟩ := hQ17
  have N17 := Fr.app N14 N17q
  have S18 : Steps p.tables e below Ω (T17.setTop (mkF m 56 #[.val (.ref a), .val (.int (0 : Int32)), .val (.long (9223372036854775807 : Int64)), .second, .val (.long (0 : Int64)), .second, .val (.long (9223372036854775807 : Int64)), .second, .val (.int (1 : Int32))] [(.long ((0 : Int64) + (0 : Int32).toInt64)), (.long (9223372036854775807 : Int64))])) := S16.trans st17
  rw [(by decide : ((0 : Int64) + (0 : Int32).toInt64) = (0 : Int64))] at S18
  obtain ⟨_, _, ⟨T19, L19, k19, n19⟩, -, X19, ⟨Lc19, hQ19, l19, y19, z19⟩, st19⟩ := Jvm.LawKit.callS X17 hx (y := (⟨"java/lang/Math", "max", "(JJ)J"⟩ : MethodName)) hown (mvT hZ (hw _ (List.mem_of_getElem? (i := 119) rfl))) (mvT hZ (hw _ (List.mem_of_getElem? (i := 120) rfl))) (mvT hZ (hw _ (List.mem_of_getElem? (i := 117) rfl))) (mvT hZ (hw _ (List.mem_of_getElem? (i := 121) rfl))) (by decide) (backOf (W := 0) (rm20 l Z a0 hw [] (9223372036854775807 : Int64) (0 : Int64)  h0 n0 Z0 ) hZ (hw _ (List.mem_of_getElem? (i := 121) rfl)) (hw _ (List.mem_of_getElem? (i := 117) rfl)) (by decide) (by decide)) (g := (mkF m 56 #[.val (.ref a), .val (.int (0 : Int32)), .val (.long (9223372036854775807 : Int64)), .second, .val (.long (0 : Int64)), .second, .val (.long (9223372036854775807 : Int64)), .second, .val (.int (1 : Int32))] [(.long (0 : Int64)), (.long (9223372036854775807 : Int64))])) rfl (by rw [hml]; rfl) (argsL := [(.long (9223372036854775807 : Int64)), (.long (0 : Int64))]) (rest := []) (lenOf pd_11 rfl) rfl (by show 2 * 0 + _ ≤ _; exact Nat.le_of_eq rfl) (hb hby d9_56) (fun _ _ => ⟨rfl, e17, (by decide : 0 + 0 ≤ _), (by decide : 0 + 0 ≤ _)⟩)
  dsimp only [Pt.U, Pt.locs, Pt.cells, Pt.slots] at X19 l19 y19 z19 st19 hQ19
  subst l19 y19 z19
  obtain ⟨rfl, N19q, e19⟩ := hQ19
  have N19 := Fr.app N17 N19q
  have S20 : Steps p.tables e below Ω (T19.setTop (mkF m 59 #[.val (.ref a), .val (.int (0 : Int32)), .val (.long (9223372036854775807 : Int64)), .second, .val (.long (0 : Int64)), .second, .val (.long (9223372036854775807 : Int64)), .second, .val (.int (1 : Int32))] [(.long (own_maxJ (9223372036854775807 : Int64) (0 : Int64)))])) := S18.trans (st19 _ (Steps.refl _))
  rw [(by decide : (own_maxJ (9223372036854775807 : Int64) (0 : Int64)) = (9223372036854775807 : Int64))] at S20
  have S21 : Steps p.tables e below Ω (T19.setTop (mkF m 12 #[.val (.ref a), .val (.int (0 : Int32)), .val (.long (9223372036854775807 : Int64)), .second, .val (.long (0 : Int64)), .second, .val (.long (9223372036854775807 : Int64)), .second, .val (.int (2 : Int32))] [(.ref a), (.int (2 : Int32))])) := by
    refine S20.trans ?_
    refine XS.lstore X19.here hx rfl (hb hby d9_59) rfl (l' := #[.val (.ref a), .val (.int (0 : Int32)), .val (.long (9223372036854775807 : Int64)), .second, .val (.long (0 : Int64)), .second, .val (.long (9223372036854775807 : Int64)), .second, .val (.int (1 : Int32))]) rfl ?_
    show Steps p.tables e below (T19.setTop (mkF m 61 #[.val (.ref a), .val (.int (0 : Int32)), .val (.long (9223372036854775807 : Int64)), .second, .val (.long (0 : Int64)), .second, .val (.long (9223372036854775807 : Int64)), .second, .val (.int (1 : Int32))] [])) _
    refine XS.iinc X19.here hx rfl (hb hby d9_61) rfl (l' := #[.val (.ref a), .val (.int (0 : Int32)), .val (.long (9223372036854775807 : Int64)), .second, .val (.long (0 : Int64)), .second, .val (.long (9223372036854775807 : Int64)), .second, .val (.int (2 : Int32))]) rfl ?_
    show Steps p.tables e below (T19.setTop (mkF m 64 #[.val (.ref a), .val (.int (0 : Int32)), .val (.long (9223372036854775807 : Int64)), .second, .val (.long (0 : Int64)), .second, .val (.long (9223372036854775807 : Int64)), .second, .val (.int (2 : Int32))] [])) _
    refine XS.goto X19.here hx rfl (pc0 := 64) (pc' := 9) rfl (hb hby d9_64) (by decide) (by decide) ?_
    show Steps p.tables e below (T19.setTop (mkF m 9 #[.val (.ref a), .val (.int (0 : Int32)), .val (.long (9223372036854775807 : Int64)), .second, .val (.long (0 : Int64)), .second, .val (.long (9223372036854775807 : Int64)), .second, .val (.int (2 : Int32))] [])) _
    refine XS.iload X19.here hx rfl (hb hby d9_9) rfl ?_
    show Steps p.tables e below (T19.setTop (mkF m 11 #[.val (.ref a), .val (.int (0 : Int32)), .val (.long (9223372036854775807 : Int64)), .second, .val (.long (0 : Int64)), .second, .val (.long (9223372036854775807 : Int64)), .second, .val (.int (2 : Int32))] [(.int (2 : Int32))])) _
    refine XS.aloadN X19.here hx rfl (hb hby d9_11) rfl rfl ?_
    exact Steps.refl _
  obtain ⟨T22, X22, e22, st22⟩ := getF X19 hx hZ hown (host := "") (Or.inl (hw _ (List.mem_of_getElem? (i := 34) rfl))) Via.refl e19 Pmk (g := (mkF m 12 #[.val (.ref a), .val (.int (0 : Int32)), .val (.long (9223372036854775807 : Int64)), .second, .val (.long (0 : Int64)), .second, .val (.long (9223372036854775807 : Int64)), .second, .val (.int (2 : Int32))] [(.ref a), (.int (2 : Int32))])) rfl rfl (hb hby d9_12)
  have S23 : Steps p.tables e below Ω (T22.setTop (mkF m 15 #[.val (.ref a), .val (.int (0 : Int32)), .val (.long (9223372036854775807 : Int64)), .second, .val (.long (0 : Int64)), .second, .val (.long (9223372036854775807 : Int64)), .second, .val (.int (2 : Int32))] [(.int (1 : Int32)), (.int (2 : Int32))])) := S21.trans (st22 _ (Steps.refl _))
  have S24 : Steps p.tables e below Ω (T22.setTop (mkF m 71 #[.val (.ref a), .val (.int (0 : Int32)), .val (.long (9223372036854775807 : Int64)), .second, .val (.long (0 : Int64)), .second, .val (.long (9223372036854775807 : Int64)), .second, .val (.int (2 : Int32))] [(.long (9223372036854775807 : Int64)), (.long (0 : Int64))])) := by
    refine S23.trans ?_
    refine XS.icmpYes X22.here hx rfl (pc0 := 15) (pc' := 67) rfl (hb hby d9_15) rfl (XT.ii_gt_t (by decide)) (by decide) (by decide) ?_
    show Steps p.tables e below (T22.setTop (mkF m 67 #[.val (.ref a), .val (.int (0 : Int32)), .val (.long (9223372036854775807 : Int64)), .second, .val (.long (0 : Int64)), .second, .val (.long (9223372036854775807 : Int64)), .second, .val (.int (2 : Int32))] [])) _
    refine XS.lload X22.here hx rfl (hb hby d9_67) rfl ?_
    show Steps p.tables e below (T22.setTop (mkF m 69 #[.val (.ref a), .val (.int (0 : Int32)), .val (.long (9223372036854775807 : Int64)), .second, .val (.long (0 : Int64)), .second, .val (.long (9223372036854775807 : Int64)), .second, .val (.int (2 : Int32))] [(.long (0 : Int64))])) _
    refine XS.lload X22.here hx rfl (hb hby d9_69) rfl ?_
    exact Steps.refl _
  obtain ⟨_, _, ⟨T25, L25, k25, n25⟩, -, X25, ⟨Lc25, hQ25, l25, y25, z25⟩, st25⟩ := Jvm.LawKit.callS X22 hx (y := (⟨"com/example/admission_by_rate/admissionbyrate/KeyTable", "near", "(JJ)Z"⟩ : MethodName)) hown (mvT hZ (hw _ (List.mem_of_getElem? (i := 77) rfl))) (mvT hZ (hw _ (List.mem_of_getElem? (i := 78) rfl))) (mvT hZ (hw _ (List.mem_of_getElem? (i := 2) rfl))) (mvT hZ (hw _ (List.mem_of_getElem? (i := 79) rfl))) (by decide) (backOf (W := 0) (rm12 l Z a0 hw [] (0 : Int64) (9223372036854775807 : Int64)  h0 n0 Z0 ) hZ (hw _ (List.mem_of_getElem? (i := 79) rfl)) (hw _ (List.mem_of_getElem? (i := 2) rfl)) (by decide) (by decide)) (g := (mkF m 71 #[.val (.ref a), .val (.int (0 : Int32)), .val (.long (9223372036854775807 : Int64)), .second, .val (.long (0 : Int64)), .second, .val (.long (9223372036854775807 : Int64)), .second, .val (.int (2 : Int32))] [(.long (9223372036854775807 : Int64)), (.long (0 : Int64))])) rfl (by rw [hml]; rfl) (argsL := [(.long (0 : Int64)), (.long (9223372036854775807 : Int64))]) (rest := []) (lenOf pd_8 rfl) rfl (by show 2 * 0 + _ ≤ _; exact Nat.le_of_eq rfl) (hb hby d9_71) (fun _ _ => ⟨rfl, e22, (by decide : 0 + 0 ≤ _), (by decide : 0 + 0 ≤ _)⟩)
  dsimp only [Pt.U, Pt.locs, Pt.cells, Pt.slots] at X25 l25 y25 z25 st25 hQ25
  subst l25 y25 z25
  obtain ⟨rfl, N25q, e25⟩ := hQ25
  have N25 := Fr.app N19 N25q
  have S26 : Steps p.tables e below Ω (T25.setTop (mkF m 74 #[.val (.ref a), .val (.int (0 : Int32)), .val (.long (9223372036854775807 : Int64)), .second, .val (.long (0 : Int64)), .second, .val (.long (9223372036854775807 : Int64)), .second, .val (.int (2 : Int32))] [(.int (own_near (0 : Int64) (9223372036854775807 : Int64)))])) := S24.trans (st25 _ (Steps.refl _))
  rw [(by decide : (own_near (0 : Int64) (9223372036854775807 : Int64)) = (0 : Int32))] at S26
  have S27 : Steps p.tables e below Ω (T25.setTop (mkF m 95 #[.val (.ref a), .val (.int (0 : Int32)), .val (.long (9223372036854775807 : Int64)), .second, .val (.long (0 : Int64)), .second, .val (.long (9223372036854775807 : Int64)), .second, .val (.int (2 : Int32))] [(.int (0 : Int32)), (.long (0 : Int64)), (.int (4 : Int32)), (.ref a)])) := by
    refine S26.trans ?_
    refine XS.ifYes X25.here hx rfl (pc0 := 74) (pc' := 91) rfl (hb hby d9_74) rfl (XT.i0_eq_t (by decide)) (by decide) (by decide) ?_
    show Steps p.tables e below (T25.setTop (mkF m 91 #[.val (.ref a), .val (.int (0 : Int32)), .val (.long (9223372036854775807 : Int64)), .second, .val (.long (0 : Int64)), .second, .val (.long (9223372036854775807 : Int64)), .second, .val (.int (2 : Int32))] [])) _
    refine XS.aloadN X25.here hx rfl (hb hby d9_91) rfl rfl ?_
    show Steps p.tables e below (T25.setTop (mkF m 92 #[.val (.ref a), .val (.int (0 : Int32)), .val (.long (9223372036854775807 : Int64)), .second, .val (.long (0 : Int64)), .second, .val (.long (9223372036854775807 : Int64)), .second, .val (.int (2 : Int32))] [(.ref a)])) _
    refine XS.iconst X25.here hx rfl (hb hby d9_92) ?_
    show Steps p.tables e below (T25.setTop (mkF m 93 #[.val (.ref a), .val (.int (0 : Int32)), .val (.long (9223372036854775807 : Int64)), .second, .val (.long (0 : Int64)), .second, .val (.long (9223372036854775807 : Int64)), .second, .val (.int (2 : Int32))] [(.int (4 : Int32)), (.ref a)])) _
    refine XS.lconst X25.here hx rfl (hb hby d9_93) ?_
    show Steps p.tables e below (T25.setTop (mkF m 94 #[.val (.ref a), .val (.int (0 : Int32)), .val (.long (9223372036854775807 : Int64)), .second, .val (.long (0 : Int64)), .second, .val (.long (9223372036854775807 : Int64)), .second, .val (.int (2 : Int32))] [(.long (0 : Int64)), (.int (4 : Int32)), (.ref a)])) _
    refine XS.iloadN X25.here hx rfl (hb hby d9_94) rfl ?_
    exact Steps.refl _
  obtain ⟨cq28, q28, q28'⟩ := (E0).cell
  obtain ⟨_, _, ⟨T28, L28, k28, n28⟩, -, X28, ⟨Lc28, hQ28, l28, y28, z28⟩, st28⟩ := X25.privateBack hx (y := (⟨"com/example/admission_by_rate/admissionbyrate/KeyTable", "laidOut", "(IJI)Lcom/example/admission_by_rate/admissionbyrate/KeyTable;"⟩ : MethodName)) hown (mvT hZ (hw _ (List.mem_of_getElem? (i := 85) rfl))) (mvT hZ (hw _ (List.mem_of_getElem? (i := 86) rfl))) (own_sel (z := (⟨"com/example/admission_by_rate/admissionbyrate/KeyTable", "holds", "(J)Z"⟩ : MethodName)) (mvT hZ (hw _ (List.mem_of_getElem? (i := 41) rfl))) rfl (Cond.privateMethod_at (mvP hZ (hw _ (List.mem_of_getElem? (i := 87) rfl)) (args := #[]))) (mvT hZ (hw _ (List.mem_of_getElem? (i := 86) rfl))) (by decide)) (Cond.privateMethod_at (mvP hZ (hw _ (List.mem_of_getElem? (i := 87) rfl)) (args := #[]))) (mvT hZ (hw _ (List.mem_of_getElem? (i := 88) rfl))) (by decide) (backOf (W := 0) (rm14b l Z a0 hw [] a (4 : Int32) (0 : Int64) (0 : Int32) ia ma h0 n0 Z0 KTs rfl rfl rfl) hZ (hw _ (List.mem_of_getElem? (i := 88) rfl)) (hw _ (List.mem_of_getElem? (i := 2) rfl)) (by decide) (by decide)) (g := (mkF m 95 #[.val (.ref a), .val (.int (0 : Int32)), .val (.long (9223372036854775807 : Int64)), .second, .val (.long (0 : Int64)), .second, .val (.long (9223372036854775807 : Int64)), .second, .val (.int (2 : Int32))] [(.int (0 : Int32)), (.long (0 : Int64)), (.int (4 : Int32)), (.ref a)])) rfl (by rw [hml]; rfl) (Steps.refl _) (a := a) (by rw [e25]; exact q28) q28' (argsL := [(.int (4 : Int32)), (.long (0 : Int64)), (.int (0 : Int32))]) (rest := []) (lenOf pd_10 rfl) rfl (by show 2 * 0 + _ ≤ _; exact Nat.le_of_eq rfl) (hb hby d9_95) (fun _ _ => ⟨rfl, e25, (by decide : 0 + 3 ≤ _), (by decide : 0 + 18 ≤ _)⟩)
  dsimp only [Pt.U, Pt.locs, Pt.cells, Pt.slots] at X28 l28 y28 z28 st28 hQ28
  subst l28 y28 z28
  obtain ⟨b, ib, mb, rfl, N28q, K28, KB28, sb, sib, smb⟩ := hQ28
  have N28 := Fr.app N25 N28q
  have S29 : Steps p.tables e below Ω (T28.setTop (mkF m 98 #[.val (.ref a), .val (.int (0 : Int32)), .val (.long (9223372036854775807 : Int64)), .second, .val (.long (0 : Int64)), .second, .val (.long (9223372036854775807 : Int64)), .second, .val (.int (2 : Int32))] [(.ref b)])) := S27.trans st28
  have gib := Nat.le_trans Z0 sib
  have S30 : Steps p.tables e below Ω (T28.setTop (mkF m 104 #[.val (.ref a), .val (.int (0 : Int32)), .val (.long (9223372036854775807 : Int64)), .second, .val (.long (0 : Int64)), .second, .val (.long (9223372036854775807 : Int64)), .second, .val (.ref b)] [(.long (9223372036854775807 : Int64)), (.int (0 : Int32)), (.ref b)])) := by
    refine S29.trans ?_
    refine XS.astore X28.here hx rfl (hb hby d9_98) rfl rfl (l' := #[.val (.ref a), .val (.int (0 : Int32)), .val (.long (9223372036854775807 : Int64)), .second, .val (.long (0 : Int64)), .second, .val (.long (9223372036854775807 : Int64)), .second, .val (.ref b)]) rfl ?_
    show Steps p.tables e below (T28.setTop (mkF m 100 #[.val (.ref a), .val (.int (0 : Int32)), .val (.long (9223372036854775807 : Int64)), .second, .val (.long (0 : Int64)), .second, .val (.long (9223372036854775807 : Int64)), .second, .val (.ref b)] [])) _
    refine XS.aload X28.here hx rfl (hb hby d9_100) rfl rfl ?_
    show Steps p.tables e below (T28.setTop (mkF m 102 #[.val (.ref a), .val (.int (0 : Int32)), .val (.long (9223372036854775807 : Int64)), .second, .val (.long (0 : Int64)), .second, .val (.long (9223372036854775807 : Int64)), .second, .val (.ref b)] [(.ref b)])) _
    refine XS.iloadN X28.here hx rfl (hb hby d9_102) rfl ?_
    show Steps p.tables e below (T28.setTop (mkF m 103 #[.val (.ref a), .val (.int (0 : Int32)), .val (.long (9223372036854775807 : Int64)), .second, .val (.long (0 : Int64)), .second, .val (.long (9223372036854775807 : Int64)), .second, .val (.ref b)] [(.int (0 : Int32)), (.ref b)])) _
    refine XS.lloadN X28.here hx rfl (hb hby d9_103) rfl ?_
    exact Steps.refl _
  obtain ⟨cq31, kq31, q31a, q31b, q31c⟩ := isOf hZ rfl KB28.1
  obtain ⟨_, _, ⟨T31, L31, k31, n31⟩, -, X31, ⟨Lc31, hQ31, l31, y31, z31⟩, st31⟩ := X28.virtualBack hx (y := (⟨"com/example/admission_by_rate/admissionbyrate/KeyTable", "putLong", "(IJ)V"⟩ : MethodName)) (z := (⟨"com/example/admission_by_rate/admissionbyrate/KeyTable", "putLong", "(IJ)V"⟩ : MethodName)) hown (mvT hZ (hw _ (List.mem_of_getElem? (i := 100) rfl))) (mvT hZ (hw _ (List.mem_of_getElem? (i := 101) rfl))) (notFace_of_selects (args := #[]) (mvT hZ (hw _ (List.mem_of_getElem? (i := 103) rfl)))) (mvT hZ (hw _ (List.mem_of_getElem? (i := 103) rfl))) (mvT hZ (hw _ (List.mem_of_getElem? (i := 102) rfl))) (by decide) (backOf (W := 0) (rm17w l Z a0 hw [] b (0 : Int32) (9223372036854775807 : Int64) ib mb (4 : Int32) (0 : Int64) (1 : Int32) (2 : Int32) [(0 : Int32), (1 : Int32), (0 : Int32), (0 : Int32), (0 : Int32), (3 : Int32), (0 : Int32), (0 : Int32)] 2 T28.heap n0 (Nat.le_trans Z0 K28.1) KB28 gib rfl (by decide) rfl (by decide) rfl (by decide)) hZ (hw _ (List.mem_of_getElem? (i := 104) rfl)) (hw _ (List.mem_of_getElem? (i := 2) rfl)) (by decide) (by decide)) q31a q31c (g := (mkF m 104 #[.val (.ref a), .val (.int (0 : Int32)), .val (.long (9223372036854775807 : Int64)), .second, .val (.long (0 : Int64)), .second, .val (.long (9223372036854775807 : Int64)), .second, .val (.ref b)] [(.long (9223372036854775807 : Int64)), (.int (0 : Int32)), (.ref b)])) rfl (by rw [hml]; rfl) (Steps.refl _) (argsL := [(.int (0 : Int32)), (.long (9223372036854775807 : Int64))]) (rest := []) (lenOf pd_2 rfl) rfl (by show 2 * 0 + _ ≤ _; exact Nat.le_of_eq rfl) (hb hby d9_104) (fun _ _ => ⟨rfl, rfl, (by decide : 3 + 0 ≤ _), (by decide : 18 + 0 ≤ _)⟩)
  dsimp only [Pt.U, Pt.locs, Pt.cells, Pt.slots] at X31 l31 y31 z31 st31 hQ31
  subst l31 y31 z31
  obtain ⟨rfl, N31q, K31, KB31⟩ := hQ31
  have N31 := Fr.app N28 N31q
  have S32 : Steps p.tables e below Ω (T31.setTop (mkF m 107 #[.val (.ref a), .val (.int (0 : Int32)), .val (.long (9223372036854775807 : Int64)), .second, .val (.long (0 : Int64)), .second, .val (.long (9223372036854775807 : Int64)), .second, .val (.ref b)] [])) := S30.trans st31
  have KK : Keep h0 T31.heap [] := K28.trans K31 (fun x hx => Or.inr (by cases List.mem_singleton.mp hx; exact sib))
  have S33 : Steps p.tables e below Ω (T31.setTop (mkF m 109 #[.val (.ref a), .val (.int (0 : Int32)), .val (.long (9223372036854775807 : Int64)), .second, .val (.long (0 : Int64)), .second, .val (.long (9223372036854775807 : Int64)), .second, .val (.ref b)] [(.ref b)])) := by
    refine S32.trans ?_
    refine XS.aload X31.here hx rfl (hb hby d9_107) rfl rfl ?_
    exact Steps.refl _
  obtain ⟨fs, hr, hrun, hended, hW, hsame⟩ := X31.leave (v := some (.ref b)) (fun h => by rw [Bd.returns] at h; cases h)
  have hfin : Steps p.tables e below Ω (T31.setFrames fs) := by
    refine S33.trans ?_
    jvm_step X31.here [X31.here.top, hx, (hb hby d9_109), X31.method', Bd.returns, Value.isRef, FieldType.isReference]
    first | (intro acts; rw [hr _ acts rfl rfl rfl]) | rw [hr _ _ rfl rfl rfl]
    exact Steps.refl _
  rw [hΩ] at hfin
  refine ⟨_, _, hfin, hrun, hended, _, _, rfl, ?_, ⟨_, rfl⟩, hW, hsame.mono (by decide) (by decide)⟩
  show Q9b Z a (0 : Int32) (9223372036854775807 : Int64) ia ma h0 n0 _ T31.heap _
  exact ⟨b, ib, mb, rfl, N31, KK, KB31, sb, sib, smb⟩
theorem pd_12 : parseMethodDescriptor "(ZI)V" = some ⟨[.boolean, .int], none⟩ := by decide +kernel
theorem pd_13 : parseMethodDescriptor "(IJI)V" = some ⟨[.int, .long, .int], none⟩ := by decide +kernel
theorem pd_14 : parseMethodDescriptor "(IJ)Lcom/example/admission_by_rate/admissionbyrate/KeyTable;" = some ⟨[.int, .long], some (.object "com/example/admission_by_rate/admissionbyrate/KeyTable")⟩ := by decide +kernel
theorem pn_2 : plainName "com/example/admission_by_rate/admissionbyrate/KeyTableHoldsPinLaw" = true := by first | (simp [plainName, overriddenIn]; done) | decide +kernel
theorem ef_rm0 (m : MethodId) (x0 : Int64) (x1 : Int64) (x2 : Int32) : entryFrame m #[(.long x0), (.long x1), (.int x2)] maxLocals = mkF m 0 #[.val (.long x0), .second, .val (.long x1), .second, .val (.int x2), .unset, .unset, .unset, .unset, .unset, .unset] [] := by first | (simp [entryFrame, mkF, argsToLocals, Value.category, maxLocals]; done) | rfl
def Q0 (Z : State) (q1 : Int64) (q2 : Int64) (md : Int32) (h0 : Heap) (n0 : Nat) (v : Option Value) (h : Heap) (L : List Loc) : Prop := v = some (.int 1) ∧ Fr n0 L
set_option maxRecDepth 65536 in
set_option maxHeartbeats 40000000 in
theorem rm0 (l : Launch) (Z : State) (a0 : Array Value) (hw : ∀ d ∈ tables_1, d.before a0 Z = true) (ws : List Jvm.Cond) (q1 : Int64) (q2 : Int64) (md : Int32) (h0 : Heap) (n0 : Nat) (Z0 : n0 ≤ h0.size) :
    MetFree l x (head1 (Jvm.Cond.code x code maxLocals ret :: ws) room_1) (fun aa U => aa = #[(.long q1), (.long q2), (.int md)] ∧ Z.Warmed39 U.vm ∧ U.heap = h0) (fun _ _ _ _ _ => True) (fun _ U o U' => ∃ v L, o = .returned v ∧ Q0 Z q1 q2 md h0 n0 v U'.heap L ∧ FrameEnd U o U' L room_1.cells room_1.slots) := by
  refine MetFree.of_bodySF (plainFor_of_name pn_2) hisR ?_
  intro p e s m args below meth c s₁ Bd hml0 hP hK
  obtain ⟨rfl, hZ, hh⟩ := hP
  have hx := Bd.exec
  have hby := Bd.bytes
  have hml : c.maxLocals = 11 := hml0
  have hown : s.vm.findClass "com/example/admission_by_rate/admissionbyrate/KeyTableHoldsPinLaw" = some m.cls := findClass_of_methodNamed Bd.named
  have hnm := (name_of_methodNamed Bd.named Bd.method).1
  have X0 : Stand p l e room_1 s m #[(.long q1), (.long q2), (.int md)] below meth c s₁ [] 0 0 := Stand.of_body Bd
  have e0 : s₁.heap = h0 := by rw [← hh, Bd.state]; rfl
  have N0 := Fr.nil n0
  obtain ⟨Ω, hΩ⟩ : ∃ z, z = s₁.setTop (entryFrame m #[(.long q1), (.long q2), (.int md)] maxLocals) := ⟨_, rfl⟩
  have S0 : Steps p.tables e below Ω (s₁.setTop (mkF m 0 #[.val (.long q1), .second, .val (.long q2), .second, .val (.int md), .unset, .unset, .unset, .unset, .unset, .unset] [])) := by rw [hΩ]; exact castTop (ef_rm0 m q1 q2 md) (Steps.refl _)
  have S1 : Steps p.tables e below Ω (s₁.setTop (mkF m 6 #[.val (.long q1), .second, .val (.long q2), .second, .val (.int md), .val (.int (md &&& (3 : Int32))), .unset, .unset, .unset, .unset, .unset] [])) := by
    refine S0.trans ?_
    refine XS.iload X0.here hx rfl (hb hby at_0) rfl ?_
    show Steps p.tables e below (s₁.setTop (mkF m 2 #[.val (.long q1), .second, .val (.long q2), .second, .val (.int md), .unset, .unset, .unset, .unset, .unset, .unset] [(.int md)])) _
    refine XS.iconst X0.here hx rfl (hb hby at_2) ?_
    show Steps p.tables e below (s₁.setTop (mkF m 3 #[.val (.long q1), .second, .val (.long q2), .second, .val (.int md), .unset, .unset, .unset, .unset, .unset, .unset] [(.int (3 : Int32)), (.int md)])) _
    refine XS.iand X0.here hx rfl (hb hby at_3) rfl ?_
    show Steps p.tables e below (s₁.setTop (mkF m 4 #[.val (.long q1), .second, .val (.long q2), .second, .val (.int md), .unset, .unset, .unset, .unset, .unset, .unset] [(.int (md &&& (3 : Int32)))])) _
    refine XS.istore X0.here hx rfl (hb hby at_4) rfl (l' := #[.val (.long q1), .second, .val (.long q2), .second, .val (.int md), .val (.int (md &&& (3 : Int32))), .unset, .unset, .unset, .unset, .unset]) rfl ?_
    exact Steps.refl _
  obtain ⟨mo, h_mo⟩ : ∃ z : Int32, z = (md &&& (3 : Int32)) := ⟨_, rfl⟩
  rw [← h_mo] at S1
  obtain ⟨T2, h2, X2, e2, E2, A2, D2, -, st2⟩ := newO X0 hx hZ hown (hw _ (List.mem_of_getElem? (i := 0) rfl)) (hw _ (List.mem_of_getElem? (i := 1) rfl)) (hw _ (List.mem_of_getElem? (i := 2) rfl)) e0 (g := (mkF m 6 #[.val (.long q1), .second, .val (.long q2), .second, .val (.int md), .val (.int mo), .unset, .unset, .unset, .unset, .unset] [])) rfl (hb hby at_6) (by decide) (by decide)
  obtain ⟨a, s_a⟩ : ∃ z, z = h0.size := ⟨_, rfl⟩
  rw [← s_a] at A2 D2 st2
  have g_a : n0 ≤ a := Nat.le_trans Z0 (Nat.le_of_eq s_a.symm)
  have F_inLongs_a : Fld Z h2 a "com/example/admission_by_rate/admissionbyrate/KeyTable" "inLongs" "Z" (.int (0 : Int32)) := D2 (Or.inr (hw _ (List.mem_of_getElem? (i := 13) rfl))) (ty := .boolean) (by decide)
  have F_stride_a : Fld Z h2 a "com/example/admission_by_rate/admissionbyrate/KeyTable" "stride" "I" (.int (0 : Int32)) := D2 (Or.inr (hw _ (List.mem_of_getElem? (i := 15) rfl))) (ty := .int) (by decide)
  have F_ints_a : Fld Z h2 a "com/example/admission_by_rate/admissionbyrate/KeyTable" "ints" "[I" .null := D2 (Or.inr (hw _ (List.mem_of_getElem? (i := 18) rfl))) (ty := (.array .int)) (by decide)
  have F_base_a : Fld Z h2 a "com/example/admission_by_rate/admissionbyrate/KeyTable" "base" "J" (.long (0 : Int64)) := D2 (Or.inr (hw _ (List.mem_of_getElem? (i := 20) rfl))) (ty := .long) (by decide)
  have F_objects_a : Fld Z h2 a "com/example/admission_by_rate/admissionbyrate/KeyTable" "objects" "[Ljava/lang/Object;" .null := D2 (Or.inr (hw _ (List.mem_of_getElem? (i := 22) rfl))) (ty := (.array (.object "java/lang/Object"))) (by decide)
  have F_marks_a : Fld Z h2 a "com/example/admission_by_rate/admissionbyrate/KeyTable" "marks" "Lcom/example/admission_by_rate/admissionbyrate/PlaceMarks;" .null := D2 (Or.inr (hw _ (List.mem_of_getElem? (i := 33) rfl))) (ty := (.object "com/example/admission_by_rate/admissionbyrate/PlaceMarks")) (by decide)
  have F_mask_a : Fld Z h2 a "com/example/admission_by_rate/admissionbyrate/KeyTable" "mask" "I" (.int (0 : Int32)) := D2 (Or.inr (hw _ (List.mem_of_getElem? (i := 35) rfl))) (ty := .int) (by decide)
  have F_count_a : Fld Z h2 a "com/example/admission_by_rate/admissionbyrate/KeyTable" "count" "I" (.int (0 : Int32)) := D2 (Or.inl (hw _ (List.mem_of_getElem? (i := 61) rfl))) (ty := .int) (by decide)
  have S3 : Steps p.tables e below Ω (T2.setTop (mkF m 9 #[.val (.long q1), .second, .val (.long q2), .second, .val (.int md), .val (.int mo), .unset, .unset, .unset, .unset, .unset] [(.ref a)])) := S1.trans (st2 _ (Steps.refl _))
  have S4 : Steps p.tables e below Ω (T2.setTop (mkF m 12 #[.val (.long q1), .second, .val (.long q2), .second, .val (.int md), .val (.int mo), .unset, .unset, .unset, .unset, .unset] [(.int (2 : Int32)), (.int (1 : Int32)), (.ref a), (.ref a)])) := by
    refine S3.trans ?_
    refine XS.dup X2.here hx rfl (hb hby at_9) rfl rfl ?_
    show Steps p.tables e below (T2.setTop (mkF m 10 #[.val (.long q1), .second, .val (.long q2), .second, .val (.int md), .val (.int mo), .unset, .unset, .unset, .unset, .unset] [(.ref a), (.ref a)])) _
    refine XS.iconst X2.here hx rfl (hb hby at_10) ?_
    show Steps p.tables e below (T2.setTop (mkF m 11 #[.val (.long q1), .second, .val (.long q2), .second, .val (.int md), .val (.int mo), .unset, .unset, .unset, .unset, .unset] [(.int (1 : Int32)), (.ref a), (.ref a)])) _
    refine XS.iconst X2.here hx rfl (hb hby at_11) ?_
    exact Steps.refl _
  obtain ⟨_, _, ⟨T5, L5, k5, n5⟩, -, X5, ⟨Lc5, hQ5, l5, y5, z5⟩, st5⟩ := X2.specialBack hx (y := (⟨"com/example/admission_by_rate/admissionbyrate/KeyTable", "<init>", "(ZI)V"⟩ : MethodName)) rfl hown (mvT hZ (hw _ (List.mem_of_getElem? (i := 3) rfl))) (mvT hZ (hw _ (List.mem_of_getElem? (i := 4) rfl))) (mvT hZ (hw _ (List.mem_of_getElem? (i := 5) rfl))) (by decide) (backOf (W := 1) (rm1 l Z a0 hw [] a (1 : Int32) (2 : Int32)  h2 n0 (Nat.le_trans Z0 E2.1) A2 F_inLongs_a F_stride_a F_ints_a F_base_a F_objects_a F_marks_a F_mask_a F_count_a g_a (by decide) rfl) hZ (hw _ (List.mem_of_getElem? (i := 5) rfl)) (hw _ (List.mem_of_getElem? (i := 2) rfl)) (by decide) (by decide)) (g := (mkF m 12 #[.val (.long q1), .second, .val (.long q2), .second, .val (.int md), .val (.int mo), .unset, .unset, .unset, .unset, .unset] [(.int (2 : Int32)), (.int (1 : Int32)), (.ref a), (.ref a)])) rfl (by rw [hml]; rfl) (Steps.refl _) (a := a) (argsL := [(.int (1 : Int32)), (.int (2 : Int32))]) (rest := [(.ref a)]) (lenOf pd_12 rfl) rfl (by show 2 * 0 + _ ≤ _; exact Nat.le_of_eq rfl) (hb hby at_12) (fun _ _ => ⟨rfl, e2, (by decide : 1 + 2 ≤ _), (by decide : 8 + 10 ≤ _)⟩)
  dsimp only [Pt.U, Pt.locs, Pt.cells, Pt.slots] at X5 l5 y5 z5 st5 hQ5
  subst l5 y5 z5
  obtain ⟨ia, ma, rfl, N5q, K5, KA, sia, sma⟩ := hQ5
  have N5 := Fr.app N0 N5q
  have S6 : Steps p.tables e below Ω (T5.setTop (mkF m 15 #[.val (.long q1), .second, .val (.long q2), .second, .val (.int md), .val (.int mo), .unset, .unset, .unset, .unset, .unset] [(.ref a)])) := S4.trans st5
  have gia : n0 ≤ ia := Nat.le_trans (Nat.le_trans Z0 E2.1) sia
  have KA0 : KT Z T5.heap a ia ma (3 : Int32) (0 : Int64) (1 : Int32) (0 : Int32) [(0 : Int32), (0 : Int32), (0 : Int32), (0 : Int32), (0 : Int32), (0 : Int32)] := KA
  have S7 : Steps p.tables e below Ω (T5.setTop (mkF m 20 #[.val (.long q1), .second, .val (.long q2), .second, .val (.int md), .val (.int mo), .val (.ref a), .unset, .unset, .unset, .unset] [(.int (1 : Int32)), (.int mo)])) := by
    refine S6.trans ?_
    refine XS.astore X5.here hx rfl (hb hby at_15) rfl rfl (l' := #[.val (.long q1), .second, .val (.long q2), .second, .val (.int md), .val (.int mo), .val (.ref a), .unset, .unset, .unset, .unset]) rfl ?_
    show Steps p.tables e below (T5.setTop (mkF m 17 #[.val (.long q1), .second, .val (.long q2), .second, .val (.int md), .val (.int mo), .val (.ref a), .unset, .unset, .unset, .unset] [])) _
    refine XS.iload X5.here hx rfl (hb hby at_17) rfl ?_
    show Steps p.tables e below (T5.setTop (mkF m 19 #[.val (.long q1), .second, .val (.long q2), .second, .val (.int md), .val (.int mo), .val (.ref a), .unset, .unset, .unset, .unset] [(.int mo)])) _
    refine XS.iconst X5.here hx rfl (hb hby at_19) ?_
    exact Steps.refl _
  by_cases hm1 : mo = (1 : Int32)
  · have qhm1 : mo.toInt = 1 := congrArg Int32.toInt hm1
    have S8 : Steps p.tables e below Ω (T5.setTop (mkF m 28 #[.val (.long q1), .second, .val (.long q2), .second, .val (.int md), .val (.int mo), .val (.ref a), .unset, .unset, .unset, .unset] [(.int (0 : Int32)), (.long (1 : Int64)), (.int (0 : Int32)), (.ref a)])) := by
      refine S7.trans ?_
      refine XS.icmpNo X5.here hx rfl (hb hby at_20) rfl (XT.ii_ne_f hm1) ?_
      show Steps p.tables e below (T5.setTop (mkF m 23 #[.val (.long q1), .second, .val (.long q2), .second, .val (.int md), .val (.int mo), .val (.ref a), .unset, .unset, .unset, .unset] [])) _
      refine XS.aload X5.here hx rfl (hb hby at_23) rfl rfl ?_
      show Steps p.tables e below (T5.setTop (mkF m 25 #[.val (.long q1), .second, .val (.long q2), .second, .val (.int md), .val (.int mo), .val (.ref a), .unset, .unset, .unset, .unset] [(.ref a)])) _
      refine XS.iconst X5.here hx rfl (hb hby at_25) ?_
      show Steps p.tables e below (T5.setTop (mkF m 26 #[.val (.long q1), .second, .val (.long q2), .second, .val (.int md), .val (.int mo), .val (.ref a), .unset, .unset, .unset, .unset] [(.int (0 : Int32)), (.ref a)])) _
      refine XS.lconst X5.here hx rfl (hb hby at_26) ?_
      show Steps p.tables e below (T5.setTop (mkF m 27 #[.val (.long q1), .second, .val (.long q2), .second, .val (.int md), .val (.int mo), .val (.ref a), .unset, .unset, .unset, .unset] [(.long (1 : Int64)), (.int (0 : Int32)), (.ref a)])) _
      refine XS.iconst X5.here hx rfl (hb hby at_27) ?_
      exact Steps.refl _
    obtain ⟨cq9, kq9, q9a, q9b, q9c⟩ := isOf hZ rfl KA0.1
    obtain ⟨_, _, ⟨T9, L9, k9, n9⟩, -, X9, ⟨Lc9, hQ9, l9, y9, z9⟩, st9⟩ := X5.virtualBack hx (y := (⟨"com/example/admission_by_rate/admissionbyrate/KeyTable", "occupy", "(IJI)V"⟩ : MethodName)) (z := (⟨"com/example/admission_by_rate/admissionbyrate/KeyTable", "occupy", "(IJI)V"⟩ : MethodName)) hown (mvT hZ (hw _ (List.mem_of_getElem? (i := 43) rfl))) (mvT hZ (hw _ (List.mem_of_getElem? (i := 44) rfl))) (notFace_of_selects (args := #[]) (mvT hZ (hw _ (List.mem_of_getElem? (i := 46) rfl)))) (mvT hZ (hw _ (List.mem_of_getElem? (i := 46) rfl))) (mvT hZ (hw _ (List.mem_of_getElem? (i := 45) rfl))) (by decide) (backOf (W := 0) (rm6 l Z a0 hw [] a (0 : Int32) (1 : Int64) (0 : Int32) ia ma (3 : Int32) (0 : Int64) (1 : Int32) (0 : Int32) [(0 : Int32), (0 : Int32), (0 : Int32), (0 : Int32), (0 : Int32), (0 : Int32)] 0 T5.heap n0 (Nat.le_trans (Nat.le_trans Z0 E2.1) K5.1) KA0 g_a gia rfl (by decide) rfl (by decide) rfl (by decide)) hZ (hw _ (List.mem_of_getElem? (i := 47) rfl)) (hw _ (List.mem_of_getElem? (i := 2) rfl)) (by decide) (by decide)) q9a q9c (g := (mkF m 28 #[.val (.long q1), .second, .val (.long q2), .second, .val (.int md), .val (.int mo), .val (.ref a), .unset, .unset, .unset, .unset] [(.int (0 : Int32)), (.long (1 : Int64)), (.int (0 : Int32)), (.ref a)])) rfl (by rw [hml]; rfl) (Steps.refl _) (argsL := [(.int (0 : Int32)), (.long (1 : Int64)), (.int (0 : Int32))]) (rest := []) (lenOf pd_13 rfl) rfl (by show 2 * 0 + _ ≤ _; exact Nat.le_of_eq rfl) (hb hby at_28) (fun _ _ => ⟨rfl, rfl, (by decide : 3 + 0 ≤ _), (by decide : 18 + 0 ≤ _)⟩)
    dsimp only [Pt.U, Pt.locs, Pt.cells, Pt.slots] at X9 l9 y9 z9 st9 hQ9
    subst l9 y9 z9
    obtain ⟨rfl, N9q, K9, KO9⟩ := hQ9
    have N9 := Fr.app N5 N9q
    have S10 : Steps p.tables e below Ω (T9.setTop (mkF m 31 #[.val (.long q1), .second, .val (.long q2), .second, .val (.int md), .val (.int mo), .val (.ref a), .unset, .unset, .unset, .unset] [])) := S8.trans st9
    have KP9 : KT Z T9.heap a ia ma (3 : Int32) (0 : Int64) (1 : Int32) (1 : Int32) [(0 : Int32), (1 : Int32), (0 : Int32), (0 : Int32), (0 : Int32), (0 : Int32)] := KO9
    have S11 : Steps p.tables e below Ω (T9.setTop (mkF m 35 #[.val (.long q1), .second, .val (.long q2), .second, .val (.int md), .val (.int mo), .val (.ref a), .unset, .unset, .unset, .unset] [(.long q2), (.int (0 : Int32)), (.ref a)])) := by
      refine S10.trans ?_
      refine XS.aload X9.here hx rfl (hb hby at_31) rfl rfl ?_
      show Steps p.tables e below (T9.setTop (mkF m 33 #[.val (.long q1), .second, .val (.long q2), .second, .val (.int md), .val (.int mo), .val (.ref a), .unset, .unset, .unset, .unset] [(.ref a)])) _
      refine XS.iconst X9.here hx rfl (hb hby at_33) ?_
      show Steps p.tables e below (T9.setTop (mkF m 34 #[.val (.long q1), .second, .val (.long q2), .second, .val (.int md), .val (.int mo), .val (.ref a), .unset, .unset, .unset, .unset] [(.int (0 : Int32)), (.ref a)])) _
      refine XS.lloadN X9.here hx rfl (hb hby at_34) rfl ?_
      exact Steps.refl _
    obtain ⟨cq12, kq12, q12a, q12b, q12c⟩ := isOf hZ rfl KP9.1
    obtain ⟨_, _, ⟨T12, L12, k12, n12⟩, -, X12, ⟨Lc12, hQ12, l12, y12, z12⟩, st12⟩ := X9.virtualBack hx (y := (⟨"com/example/admission_by_rate/admissionbyrate/KeyTable", "relaid", "(IJ)Lcom/example/admission_by_rate/admissionbyrate/KeyTable;"⟩ : MethodName)) (z := (⟨"com/example/admission_by_rate/admissionbyrate/KeyTable", "relaid", "(IJ)Lcom/example/admission_by_rate/admissionbyrate/KeyTable;"⟩ : MethodName)) hown (mvT hZ (hw _ (List.mem_of_getElem? (i := 62) rfl))) (mvT hZ (hw _ (List.mem_of_getElem? (i := 63) rfl))) (notFace_of_selects (args := #[]) (mvT hZ (hw _ (List.mem_of_getElem? (i := 65) rfl)))) (mvT hZ (hw _ (List.mem_of_getElem? (i := 65) rfl))) (mvT hZ (hw _ (List.mem_of_getElem? (i := 64) rfl))) (by decide) (backOf (W := 0) (rm9a l Z a0 hw [] a (0 : Int32) q2 ia ma T9.heap n0 (Nat.le_trans (Nat.le_trans (Nat.le_trans Z0 E2.1) K5.1) K9.1) KP9 rfl) hZ (hw _ (List.mem_of_getElem? (i := 66) rfl)) (hw _ (List.mem_of_getElem? (i := 2) rfl)) (by decide) (by decide)) q12a q12c (g := (mkF m 35 #[.val (.long q1), .second, .val (.long q2), .second, .val (.int md), .val (.int mo), .val (.ref a), .unset, .unset, .unset, .unset] [(.long q2), (.int (0 : Int32)), (.ref a)])) rfl (by rw [hml]; rfl) (Steps.refl _) (argsL := [(.int (0 : Int32)), (.long q2)]) (rest := []) (lenOf pd_14 rfl) rfl (by show 2 * 0 + _ ≤ _; exact Nat.le_of_eq rfl) (hb hby at_35) (fun _ _ => ⟨rfl, rfl, (by decide : 3 + 3 ≤ _), (by decide : 18 + 18 ≤ _)⟩)
    dsimp only [Pt.U, Pt.locs, Pt.cells, Pt.slots] at X12 l12 y12 z12 st12 hQ12
    subst l12 y12 z12
    obtain ⟨b, ib, mb, rfl, N12q, K12, KB12, sb, sib, smb⟩ := hQ12
    have N12 := Fr.app N9 N12q
    have S13 : Steps p.tables e below Ω (T12.setTop (mkF m 38 #[.val (.long q1), .second, .val (.long q2), .second, .val (.int md), .val (.int mo), .val (.ref a), .unset, .unset, .unset, .unset] [(.ref b)])) := S11.trans st12
    have S14 : Steps p.tables e below Ω (T12.setTop (mkF m 52 #[.val (.long q1), .second, .val (.long q2), .second, .val (.int md), .val (.int mo), .val (.ref a), .val (.ref b), .val (.long (q1 - q2)), .second, .unset] [(.int (lcmpW (((q1 - q2).toUInt64 >>> ((32 : Int32) &&& 0x3f).toInt64.toUInt64).toInt64) (0 : Int64)))])) := by
      refine S13.trans ?_
      refine XS.astore X12.here hx rfl (hb hby at_38) rfl rfl (l' := #[.val (.long q1), .second, .val (.long q2), .second, .val (.int md), .val (.int mo), .val (.ref a), .val (.ref b), .unset, .unset, .unset]) rfl ?_
      show Steps p.tables e below (T12.setTop (mkF m 40 #[.val (.long q1), .second, .val (.long q2), .second, .val (.int md), .val (.int mo), .val (.ref a), .val (.ref b), .unset, .unset, .unset] [])) _
      refine XS.lloadN X12.here hx rfl (hb hby at_40) rfl ?_
      show Steps p.tables e below (T12.setTop (mkF m 41 #[.val (.long q1), .second, .val (.long q2), .second, .val (.int md), .val (.int mo), .val (.ref a), .val (.ref b), .unset, .unset, .unset] [(.long q1)])) _
      refine XS.lloadN X12.here hx rfl (hb hby at_41) rfl ?_
      show Steps p.tables e below (T12.setTop (mkF m 42 #[.val (.long q1), .second, .val (.long q2), .second, .val (.int md), .val (.int mo), .val (.ref a), .val (.ref b), .unset, .unset, .unset] [(.long q2), (.long q1)])) _
      refine XS.lsub X12.here hx rfl (hb hby at_42) rfl ?_
      show Steps p.tables e below (T12.setTop (mkF m 43 #[.val (.long q1), .second, .val (.long q2), .second, .val (.int md), .val (.int mo), .val (.ref a), .val (.ref b), .unset, .unset, .unset] [(.long (q1 - q2))])) _
      refine XS.lstore X12.here hx rfl (hb hby at_43) rfl (l' := #[.val (.long q1), .second, .val (.long q2), .second, .val (.int md), .val (.int mo), .val (.ref a), .val (.ref b), .val (.long (q1 - q2)), .second, .unset]) rfl ?_
      show Steps p.tables e below (T12.setTop (mkF m 45 #[.val (.long q1), .second, .val (.long q2), .second, .val (.int md), .val (.int mo), .val (.ref a), .val (.ref b), .val (.long (q1 - q2)), .second, .unset] [])) _
      refine XS.lload X12.here hx rfl (hb hby at_45) rfl ?_
      show Steps p.tables e below (T12.setTop (mkF m 47 #[.val (.long q1), .second, .val (.long q2), .second, .val (.int md), .val (.int mo), .val (.ref a), .val (.ref b), .val (.long (q1 - q2)), .second, .unset] [(.long (q1 - q2))])) _
      refine XS.bipush X12.here hx rfl (hb hby at_47) ?_
      show Steps p.tables e below (T12.setTop (mkF m 49 #[.val (.long q1), .second, .val (.long q2), .second, .val (.int md), .val (.int mo), .val (.ref a), .val (.ref b), .val (.long (q1 - q2)), .second, .unset] [(.int (32 : Int32)), (.long (q1 - q2))])) _
      refine XS.lushr X12.here hx rfl (hb hby at_49) rfl ?_
      show Steps p.tables e below (T12.setTop (mkF m 50 #[.val (.long q1), .second, .val (.long q2), .second, .val (.int md), .val (.int mo), .val (.ref a), .val (.ref b), .val (.long (q1 - q2)), .second, .unset] [(.long (((q1 - q2).toUInt64 >>> ((32 : Int32) &&& 0x3f).toInt64.toUInt64).toInt64))])) _
      refine XS.lconst X12.here hx rfl (hb hby at_50) ?_
      show Steps p.tables e below (T12.setTop (mkF m 51 #[.val (.long q1), .second, .val (.long q2), .second, .val (.int md), .val (.int mo), .val (.ref a), .val (.ref b), .val (.long (q1 - q2)), .second, .unset] [(.long (0 : Int64)), (.long (((q1 - q2).toUInt64 >>> ((32 : Int32) &&& 0x3f).toInt64.toUInt64).toInt64))])) _
      refine XS.lcmp X12.here hx rfl (hb hby at_51) rfl ?_
      exact Steps.refl _
    obtain ⟨ex, h_ex, S16⟩ : ∃ (ex : Int32), ex = (if (((q1 - q2).toUInt64 >>> ((32 : Int32) &&& 0x3f).toInt64.toUInt64).toInt64) = (0 : Int64) then (1 : Int32) else (0 : Int32)) ∧ Steps p.tables e below Ω (T12.setTop (mkF m 60 #[.val (.long q1), .second, .val (.long q2), .second, .val (.int md), .val (.int mo), .val (.ref a), .val (.ref b), .val (.long (q1 - q2)), .second, .unset] [(.int ex)])) := by
      by_cases c15 : (((q1 - q2).toUInt64 >>> ((32 : Int32) &&& 0x3f).toInt64.toUInt64).toInt64) = (0 : Int64)
      · refine ⟨(1 : Int32), (by rw [if_pos c15]), S14.trans ?_⟩
        refine XS.ifNo X12.here hx rfl (hb hby at_52) rfl (XT.ll_ne_f c15) ?_
        show Steps p.tables e below (T12.setTop (mkF m 55 #[.val (.long q1), .second, .val (.long q2), .second, .val (.int md), .val (.int mo), .val (.ref a), .val (.ref b), .val (.long (q1 - q2)), .second, .unset] [])) _
        refine XS.iconst X12.here hx rfl (hb hby at_55) ?_
        show Steps p.tables e below (T12.setTop (mkF m 56 #[.val (.long q1), .second, .val (.long q2), .second, .val (.int md), .val (.int mo), .val (.ref a), .val (.ref b), .val (.long (q1 - q2)), .second, .unset] [(.int (1 : Int32))])) _
        refine XS.goto X12.here hx rfl (pc0 := 56) (pc' := 60) rfl (hb hby at_56) (by decide) (by decide) ?_
        exact Steps.refl _
      · refine ⟨(0 : Int32), (by rw [if_neg c15]), S14.trans ?_⟩
        refine XS.ifYes X12.here hx rfl (pc0 := 52) (pc' := 59) rfl (hb hby at_52) rfl (XT.ll_ne_t c15) (by decide) (by decide) ?_
        show Steps p.tables e below (T12.setTop (mkF m 59 #[.val (.long q1), .second, .val (.long q2), .second, .val (.int md), .val (.int mo), .val (.ref a), .val (.ref b), .val (.long (q1 - q2)), .second, .unset] [])) _
        refine XS.iconst X12.here hx rfl (hb hby at_59) ?_
        exact Steps.refl _
    have S17 : Steps p.tables e below Ω (T12.setTop (mkF m 65 #[.val (.long q1), .second, .val (.long q2), .second, .val (.int md), .val (.int mo), .val (.ref a), .val (.ref b), .val (.long (q1 - q2)), .second, .val (.int ex)] [(.long q1), (.ref b)])) := by
      refine S16.trans ?_
      refine XS.istore X12.here hx rfl (hb hby at_60) rfl (l' := #[.val (.long q1), .second, .val (.long q2), .second, .val (.int md), .val (.int mo), .val (.ref a), .val (.ref b), .val (.long (q1 - q2)), .second, .val (.int ex)]) rfl ?_
      show Steps p.tables e below (T12.setTop (mkF m 62 #[.val (.long q1), .second, .val (.long q2), .second, .val (.int md), .val (.int mo), .val (.ref a), .val (.ref b), .val (.long (q1 - q2)), .second, .val (.int ex)] [])) _
      refine XS.aload X12.here hx rfl (hb hby at_62) rfl rfl ?_
      show Steps p.tables e below (T12.setTop (mkF m 64 #[.val (.long q1), .second, .val (.long q2), .second, .val (.int md), .val (.int mo), .val (.ref a), .val (.ref b), .val (.long (q1 - q2)), .second, .val (.int ex)] [(.ref b)])) _
      refine XS.lloadN X12.here hx rfl (hb hby at_64) rfl ?_
      exact Steps.refl _
    obtain ⟨cq18, kq18, q18a, q18b, q18c⟩ := isOf hZ rfl KB12.1
    obtain ⟨_, _, ⟨T18, L18, k18, n18⟩, -, X18, ⟨Lc18, hQ18, l18, y18, z18⟩, st18⟩ := X12.virtualBack hx (y := (⟨"com/example/admission_by_rate/admissionbyrate/KeyTable", "holds", "(J)Z"⟩ : MethodName)) (z := (⟨"com/example/admission_by_rate/admissionbyrate/KeyTable", "holds", "(J)Z"⟩ : MethodName)) hown (mvT hZ (hw _ (List.mem_of_getElem? (i := 38) rfl))) (mvT hZ (hw _ (List.mem_of_getElem? (i := 39) rfl))) (notFace_of_selects (args := #[]) (mvT hZ (hw _ (List.mem_of_getElem? (i := 41) rfl)))) (mvT hZ (hw _ (List.mem_of_getElem? (i := 41) rfl))) (mvT hZ (hw _ (List.mem_of_getElem? (i := 40) rfl))) (by decide) (backOf (W := 0) (rm5 l Z a0 hw [] b q1 ib mb (3 : Int32) (q2 - (-2147483648 : Int64)) (1 : Int32) (1 : Int32) [(0 : Int32), (1 : Int32), ((q2 - (q2 - (-2147483648 : Int64))).toInt32), (0 : Int32), (0 : Int32), (0 : Int32)] T12.heap n0 (Nat.le_trans (Nat.le_trans (Nat.le_trans (Nat.le_trans Z0 E2.1) K5.1) K9.1) K12.1) KB12) hZ (hw _ (List.mem_of_getElem? (i := 42) rfl)) (hw _ (List.mem_of_getElem? (i := 2) rfl)) (by decide) (by decide)) q18a q18c (g := (mkF m 65 #[.val (.long q1), .second, .val (.long q2), .second, .val (.int md), .val (.int mo), .val (.ref a), .val (.ref b), .val (.long (q1 - q2)), .second, .val (.int ex)] [(.long q1), (.ref b)])) rfl (by rw [hml]; rfl) (Steps.refl _) (argsL := [(.long q1)]) (rest := []) (lenOf pd_1 rfl) rfl (by show 2 * 0 + _ ≤ _; exact Nat.le_of_eq rfl) (hb hby at_65) (fun _ _ => ⟨rfl, rfl, (by decide : 6 + 0 ≤ _), (by decide : 36 + 0 ≤ _)⟩)
    dsimp only [Pt.U, Pt.locs, Pt.cells, Pt.slots] at X18 l18 y18 z18 st18 hQ18
    subst l18 y18 z18
    obtain ⟨rfl, N18q, e18⟩ := hQ18
    have N18 := Fr.app N12 N18q
    have S19 : Steps p.tables e below Ω (T18.setTop (mkF m 68 #[.val (.long q1), .second, .val (.long q2), .second, .val (.int md), .val (.int mo), .val (.ref a), .val (.ref b), .val (.long (q1 - q2)), .second, .val (.int ex)] [(.int (own_holds (3 : Int32) (q2 - (-2147483648 : Int64)) q1))])) := S17.trans st18
    have S20 : Steps p.tables e below Ω (T18.setTop (mkF m 70 #[.val (.long q1), .second, .val (.long q2), .second, .val (.int md), .val (.int mo), .val (.ref a), .val (.ref b), .val (.long (q1 - q2)), .second, .val (.int ex)] [(.int ex), (.int (own_holds (3 : Int32) (q2 - (-2147483648 : Int64)) q1))])) := by
      refine S19.trans ?_
      refine XS.iload X18.here hx rfl (hb hby at_68) rfl ?_
      exact Steps.refl _
    have S21 : Steps p.tables e below Ω (T18.setTop (mkF m 76 #[.val (.long q1), .second, .val (.long q2), .second, .val (.int md), .val (.int mo), .val (.ref a), .val (.ref b), .val (.long (q1 - q2)), .second, .val (.int ex)] [(.int (0 : Int32)), (.ref b)])) := by
      refine S20.trans ?_
      refine XS.icmpNo X18.here hx rfl (hb hby at_70) rfl (XT.ii_ne_f ((own_m1 q2 q1).trans h_ex.symm)) ?_
      show Steps p.tables e below (T18.setTop (mkF m 73 #[.val (.long q1), .second, .val (.long q2), .second, .val (.int md), .val (.int mo), .val (.ref a), .val (.ref b), .val (.long (q1 - q2)), .second, .val (.int ex)] [])) _
      refine XS.aload X18.here hx rfl (hb hby at_73) rfl rfl ?_
      show Steps p.tables e below (T18.setTop (mkF m 75 #[.val (.long q1), .second, .val (.long q2), .second, .val (.int md), .val (.int mo), .val (.ref a), .val (.ref b), .val (.long (q1 - q2)), .second, .val (.int ex)] [(.ref b)])) _
      refine XS.iconst X18.here hx rfl (hb hby at_75) ?_
      exact Steps.refl _
    obtain ⟨cq22, kq22, q22a, q22b, q22c⟩ := isOf hZ e18 KB12.1
    obtain ⟨_, _, ⟨T22, L22, k22, n22⟩, -, X22, ⟨Lc22, hQ22, l22, y22, z22⟩, st22⟩ := X18.virtualBack hx (y := (⟨"com/example/admission_by_rate/admissionbyrate/KeyTable", "longAt", "(I)J"⟩ : MethodName)) (z := (⟨"com/example/admission_by_rate/admissionbyrate/KeyTable", "longAt", "(I)J"⟩ : MethodName)) hown (mvT hZ (hw _ (List.mem_of_getElem? (i := 106) rfl))) (mvT hZ (hw _ (List.mem_of_getElem? (i := 107) rfl))) (notFace_of_selects (args := #[]) (mvT hZ (hw _ (List.mem_of_getElem? (i := 109) rfl)))) (mvT hZ (hw _ (List.mem_of_getElem? (i := 109) rfl))) (mvT hZ (hw _ (List.mem_of_getElem? (i := 108) rfl))) (by decide) (backOf (W := 0) (rm18n l Z a0 hw [] b (0 : Int32) ib mb (3 : Int32) (q2 - (-2147483648 : Int64)) (1 : Int32) (1 : Int32) [(0 : Int32), (1 : Int32), ((q2 - (q2 - (-2147483648 : Int64))).toInt32), (0 : Int32), (0 : Int32), (0 : Int32)] ((q2 - (q2 - (-2147483648 : Int64))).toInt32) T12.heap n0 (Nat.le_trans (Nat.le_trans (Nat.le_trans (Nat.le_trans Z0 E2.1) K5.1) K9.1) K12.1) KB12 rfl (by decide) rfl) hZ (hw _ (List.mem_of_getElem? (i := 110) rfl)) (hw _ (List.mem_of_getElem? (i := 2) rfl)) (by decide) (by decide)) q22a q22c (g := (mkF m 76 #[.val (.long q1), .second, .val (.long q2), .second, .val (.int md), .val (.int mo), .val (.ref a), .val (.ref b), .val (.long (q1 - q2)), .second, .val (.int ex)] [(.int (0 : Int32)), (.ref b)])) rfl (by rw [hml]; rfl) (Steps.refl _) (argsL := [(.int (0 : Int32))]) (rest := []) (lenOf pd_0 rfl) rfl (by show 2 * 0 + _ ≤ _; exact Nat.le_of_eq rfl) (hb hby at_76) (fun _ _ => ⟨rfl, e18, (by decide : 6 + 0 ≤ _), (by decide : 36 + 0 ≤ _)⟩)
    dsimp only [Pt.U, Pt.locs, Pt.cells, Pt.slots] at X22 l22 y22 z22 st22 hQ22
    subst l22 y22 z22
    obtain ⟨rfl, N22q, e22⟩ := hQ22
    have N22 := Fr.app N18 N22q
    have S23 : Steps p.tables e below Ω (T22.setTop (mkF m 79 #[.val (.long q1), .second, .val (.long q2), .second, .val (.int md), .val (.int mo), .val (.ref a), .val (.ref b), .val (.long (q1 - q2)), .second, .val (.int ex)] [(.long ((q2 - (-2147483648 : Int64)) + ((q2 - (q2 - (-2147483648 : Int64))).toInt32).toInt64))])) := S21.trans st22
    have S24 : Steps p.tables e below Ω (T22.setTop (mkF m 81 #[.val (.long q1), .second, .val (.long q2), .second, .val (.int md), .val (.int mo), .val (.ref a), .val (.ref b), .val (.long (q1 - q2)), .second, .val (.int ex)] [(.int (lcmpW ((q2 - (-2147483648 : Int64)) + ((q2 - (q2 - (-2147483648 : Int64))).toInt32).toInt64) q2))])) := by
      refine S23.trans ?_
      refine XS.lloadN X22.here hx rfl (hb hby at_79) rfl ?_
      show Steps p.tables e below (T22.setTop (mkF m 80 #[.val (.long q1), .second, .val (.long q2), .second, .val (.int md), .val (.int mo), .val (.ref a), .val (.ref b), .val (.long (q1 - q2)), .second, .val (.int ex)] [(.long q2), (.long ((q2 - (-2147483648 : Int64)) + ((q2 - (q2 - (-2147483648 : Int64))).toInt32).toInt64))])) _
      refine XS.lcmp X22.here hx rfl (hb hby at_80) rfl ?_
      exact Steps.refl _
    have S25 : Steps p.tables e below Ω (T22.setTop (mkF m 89 #[.val (.long q1), .second, .val (.long q2), .second, .val (.int md), .val (.int mo), .val (.ref a), .val (.ref b), .val (.long (q1 - q2)), .second, .val (.int ex)] [(.int (1 : Int32))])) := by
      refine S24.trans ?_
      refine XS.ifNo X22.here hx rfl (hb hby at_81) rfl (XT.ll_ne_f (own_back q2)) ?_
      show Steps p.tables e below (T22.setTop (mkF m 84 #[.val (.long q1), .second, .val (.long q2), .second, .val (.int md), .val (.int mo), .val (.ref a), .val (.ref b), .val (.long (q1 - q2)), .second, .val (.int ex)] [])) _
      refine XS.iconst X22.here hx rfl (hb hby at_84) ?_
      show Steps p.tables e below (T22.setTop (mkF m 85 #[.val (.long q1), .second, .val (.long q2), .second, .val (.int md), .val (.int mo), .val (.ref a), .val (.ref b), .val (.long (q1 - q2)), .second, .val (.int ex)] [(.int (1 : Int32))])) _
      refine XS.goto X22.here hx rfl (pc0 := 85) (pc' := 89) rfl (hb hby at_85) (by decide) (by decide) ?_
      exact Steps.refl _
    obtain ⟨fs, hr, hrun, hended, hW, hsame⟩ := X22.leave (v := some (.int (1 : Int32))) (fun h => by rw [Bd.returns] at h; cases h)
    have hfin : Steps p.tables e below Ω (T22.setFrames fs) := by
      refine S25.trans ?_
      exact own_retZ X22 hx Bd.returns (by decide) (hb hby at_89) hr
    rw [hΩ] at hfin
    refine ⟨_, _, hfin, hrun, hended, _, _, rfl, ?_, ⟨_, rfl⟩, hW, hsame.mono (by decide) (by decide)⟩
    show Q0 Z q1 q2 md h0 n0 _ T22.heap _
    rw [e22]
    exact ⟨rfl, N22⟩
  · have qhm1 : ¬ mo.toInt = 1 := fun q => hm1 (Int32.toInt_inj.mp q)
    have S26 : Steps p.tables e below Ω (T5.setTop (mkF m 93 #[.val (.long q1), .second, .val (.long q2), .second, .val (.int md), .val (.int mo), .val (.ref a), .unset, .unset, .unset, .unset] [(.int (2 : Int32)), (.int mo)])) := by
      refine S7.trans ?_
      refine XS.icmpYes X5.here hx rfl (pc0 := 20) (pc' := 90) rfl (hb hby at_20) rfl (XT.ii_ne_t hm1) (by decide) (by decide) ?_
      show Steps p.tables e below (T5.setTop (mkF m 90 #[.val (.long q1), .second, .val (.long q2), .second, .val (.int md), .val (.int mo), .val (.ref a), .unset, .unset, .unset, .unset] [])) _
      refine XS.iload X5.here hx rfl (hb hby at_90) rfl ?_
      show Steps p.tables e below (T5.setTop (mkF m 92 #[.val (.long q1), .second, .val (.long q2), .second, .val (.int md), .val (.int mo), .val (.ref a), .unset, .unset, .unset, .unset] [(.int mo)])) _
      refine XS.iconst X5.here hx rfl (hb hby at_92) ?_
      exact Steps.refl _
    by_cases hm2 : mo = (2 : Int32)
    · have qhm2 : mo.toInt = 2 := congrArg Int32.toInt hm2
      have S27 : Steps p.tables e below Ω (T5.setTop (mkF m 101 #[.val (.long q1), .second, .val (.long q2), .second, .val (.int md), .val (.int mo), .val (.ref a), .unset, .unset, .unset, .unset] [(.int (0 : Int32)), (.long (1 : Int64)), (.int (0 : Int32)), (.ref a)])) := by
        refine S26.trans ?_
        refine XS.icmpNo X5.here hx rfl (hb hby at_93) rfl (XT.ii_ne_f hm2) ?_
        show Steps p.tables e below (T5.setTop (mkF m 96 #[.val (.long q1), .second, .val (.long q2), .second, .val (.int md), .val (.int mo), .val (.ref a), .unset, .unset, .unset, .unset] [])) _
        refine XS.aload X5.here hx rfl (hb hby at_96) rfl rfl ?_
        show Steps p.tables e below (T5.setTop (mkF m 98 #[.val (.long q1), .second, .val (.long q2), .second, .val (.int md), .val (.int mo), .val (.ref a), .unset, .unset, .unset, .unset] [(.ref a)])) _
        refine XS.iconst X5.here hx rfl (hb hby at_98) ?_
        show Steps p.tables e below (T5.setTop (mkF m 99 #[.val (.long q1), .second, .val (.long q2), .second, .val (.int md), .val (.int mo), .val (.ref a), .unset, .unset, .unset, .unset] [(.int (0 : Int32)), (.ref a)])) _
        refine XS.lconst X5.here hx rfl (hb hby at_99) ?_
        show Steps p.tables e below (T5.setTop (mkF m 100 #[.val (.long q1), .second, .val (.long q2), .second, .val (.int md), .val (.int mo), .val (.ref a), .unset, .unset, .unset, .unset] [(.long (1 : Int64)), (.int (0 : Int32)), (.ref a)])) _
        refine XS.iconst X5.here hx rfl (hb hby at_100) ?_
        exact Steps.refl _
      obtain ⟨cq28, kq28, q28a, q28b, q28c⟩ := isOf hZ rfl KA0.1
      obtain ⟨_, _, ⟨T28, L28, k28, n28⟩, -, X28, ⟨Lc28, hQ28, l28, y28, z28⟩, st28⟩ := X5.virtualBack hx (y := (⟨"com/example/admission_by_rate/admissionbyrate/KeyTable", "occupy", "(IJI)V"⟩ : MethodName)) (z := (⟨"com/example/admission_by_rate/admissionbyrate/KeyTable", "occupy", "(IJI)V"⟩ : MethodName)) hown (mvT hZ (hw _ (List.mem_of_getElem? (i := 43) rfl))) (mvT hZ (hw _ (List.mem_of_getElem? (i := 44) rfl))) (notFace_of_selects (args := #[]) (mvT hZ (hw _ (List.mem_of_getElem? (i := 46) rfl)))) (mvT hZ (hw _ (List.mem_of_getElem? (i := 46) rfl))) (mvT hZ (hw _ (List.mem_of_getElem? (i := 45) rfl))) (by decide) (backOf (W := 0) (rm6 l Z a0 hw [] a (0 : Int32) (1 : Int64) (0 : Int32) ia ma (3 : Int32) (0 : Int64) (1 : Int32) (0 : Int32) [(0 : Int32), (0 : Int32), (0 : Int32), (0 : Int32), (0 : Int32), (0 : Int32)] 0 T5.heap n0 (Nat.le_trans (Nat.le_trans Z0 E2.1) K5.1) KA0 g_a gia rfl (by decide) rfl (by decide) rfl (by decide)) hZ (hw _ (List.mem_of_getElem? (i := 47) rfl)) (hw _ (List.mem_of_getElem? (i := 2) rfl)) (by decide) (by decide)) q28a q28c (g := (mkF m 101 #[.val (.long q1), .second, .val (.long q2), .second, .val (.int md), .val (.int mo), .val (.ref a), .unset, .unset, .unset, .unset] [(.int (0 : Int32)), (.long (1 : Int64)), (.int (0 : Int32)), (.ref a)])) rfl (by rw [hml]; rfl) (Steps.refl _) (argsL := [(.int (0 : Int32)), (.long (1 : Int64)), (.int (0 : Int32))]) (rest := []) (lenOf pd_13 rfl) rfl (by show 2 * 0 + _ ≤ _; exact Nat.le_of_eq rfl) (hb hby at_101) (fun _ _ => ⟨rfl, rfl, (by decide : 3 + 0 ≤ _), (by decide : 18 + 0 ≤ _)⟩)
      dsimp only [Pt.U, Pt.locs, Pt.cells, Pt.slots] at X28 l28 y28 z28 st28 hQ28
      subst l28 y28 z28
      obtain ⟨rfl, N28q, K28, KO28⟩ := hQ28
      have N28 := Fr.app N5 N28q
      have S29 : Steps p.tables e below Ω (T28.setTop (mkF m 104 #[.val (.long q1), .second, .val (.long q2), .second, .val (.int md), .val (.int mo), .val (.ref a), .unset, .unset, .unset, .unset] [])) := S27.trans st28
      have KP28 : KT Z T28.heap a ia ma (3 : Int32) (0 : Int64) (1 : Int32) (1 : Int32) [(0 : Int32), (1 : Int32), (0 : Int32), (0 : Int32), (0 : Int32), (0 : Int32)] := KO28
      have S30 : Steps p.tables e below Ω (T28.setTop (mkF m 111 #[.val (.long q1), .second, .val (.long q2), .second, .val (.int md), .val (.int mo), .val (.ref a), .unset, .unset, .unset, .unset] [(.int (0 : Int32)), (.long (3 : Int64)), (.int (1 : Int32)), (.ref a)])) := by
        refine S29.trans ?_
        refine XS.aload X28.here hx rfl (hb hby at_104) rfl rfl ?_
        show Steps p.tables e below (T28.setTop (mkF m 106 #[.val (.long q1), .second, .val (.long q2), .second, .val (.int md), .val (.int mo), .val (.ref a), .unset, .unset, .unset, .unset] [(.ref a)])) _
        refine XS.iconst X28.here hx rfl (hb hby at_106) ?_
        show Steps p.tables e below (T28.setTop (mkF m 107 #[.val (.long q1), .second, .val (.long q2), .second, .val (.int md), .val (.int mo), .val (.ref a), .unset, .unset, .unset, .unset] [(.int (1 : Int32)), (.ref a)])) _
        refine X28.ldc2Long hx hown (mvT hZ (hw _ (List.mem_of_getElem? (i := 111) rfl))) (g := (mkF m 107 #[.val (.long q1), .second, .val (.long q2), .second, .val (.int md), .val (.int mo), .val (.ref a), .unset, .unset, .unset, .unset] [(.int (1 : Int32)), (.ref a)])) rfl (hb hby at_107) _ ?_
        show Steps p.tables e below (T28.setTop (mkF m 110 #[.val (.long q1), .second, .val (.long q2), .second, .val (.int md), .val (.int mo), .val (.ref a), .unset, .unset, .unset, .unset] [(.long (3 : Int64)), (.int (1 : Int32)), (.ref a)])) _
        refine XS.iconst X28.here hx rfl (hb hby at_110) ?_
        exact Steps.refl _
      obtain ⟨cq31, kq31, q31a, q31b, q31c⟩ := isOf hZ rfl KP28.1
      obtain ⟨_, _, ⟨T31, L31, k31, n31⟩, -, X31, ⟨Lc31, hQ31, l31, y31, z31⟩, st31⟩ := X28.virtualBack hx (y := (⟨"com/example/admission_by_rate/admissionbyrate/KeyTable", "occupy", "(IJI)V"⟩ : MethodName)) (z := (⟨"com/example/admission_by_rate/admissionbyrate/KeyTable", "occupy", "(IJI)V"⟩ : MethodName)) hown (mvT hZ (hw _ (List.mem_of_getElem? (i := 43) rfl))) (mvT hZ (hw _ (List.mem_of_getElem? (i := 44) rfl))) (notFace_of_selects (args := #[]) (mvT hZ (hw _ (List.mem_of_getElem? (i := 46) rfl)))) (mvT hZ (hw _ (List.mem_of_getElem? (i := 46) rfl))) (mvT hZ (hw _ (List.mem_of_getElem? (i := 45) rfl))) (by decide) (backOf (W := 0) (rm6 l Z a0 hw [] a (1 : Int32) (3 : Int64) (0 : Int32) ia ma (3 : Int32) (0 : Int64) (1 : Int32) (1 : Int32) [(0 : Int32), (1 : Int32), (0 : Int32), (0 : Int32), (0 : Int32), (0 : Int32)] 3 T28.heap n0 (Nat.le_trans (Nat.le_trans (Nat.le_trans Z0 E2.1) K5.1) K28.1) KP28 g_a gia rfl (by decide) rfl (by decide) rfl (by decide)) hZ (hw _ (List.mem_of_getElem? (i := 47) rfl)) (hw _ (List.mem_of_getElem? (i := 2) rfl)) (by decide) (by decide)) q31a q31c (g := (mkF m 111 #[.val (.long q1), .second, .val (.long q2), .second, .val (.int md), .val (.int mo), .val (.ref a), .unset, .unset, .unset, .unset] [(.int (0 : Int32)), (.long (3 : Int64)), (.int (1 : Int32)), (.ref a)])) rfl (by rw [hml]; rfl) (Steps.refl _) (argsL := [(.int (1 : Int32)), (.long (3 : Int64)), (.int (0 : Int32))]) (rest := []) (lenOf pd_13 rfl) rfl (by show 2 * 0 + _ ≤ _; exact Nat.le_of_eq rfl) (hb hby at_111) (fun _ _ => ⟨rfl, rfl, (by decide : 3 + 0 ≤ _), (by decide : 18 + 0 ≤ _)⟩)
      dsimp only [Pt.U, Pt.locs, Pt.cells, Pt.slots] at X31 l31 y31 z31 st31 hQ31
      subst l31 y31 z31
      obtain ⟨rfl, N31q, K31, KO31⟩ := hQ31
      have N31 := Fr.app N28 N31q
      have S32 : Steps p.tables e below Ω (T31.setTop (mkF m 114 #[.val (.long q1), .second, .val (.long q2), .second, .val (.int md), .val (.int mo), .val (.ref a), .unset, .unset, .unset, .unset] [])) := S30.trans st31
      have KP31 : KT Z T31.heap a ia ma (3 : Int32) (0 : Int64) (1 : Int32) (2 : Int32) [(0 : Int32), (1 : Int32), (0 : Int32), (0 : Int32), (3 : Int32), (0 : Int32)] := KO31
      have S33 : Steps p.tables e below Ω (T31.setTop (mkF m 118 #[.val (.long q1), .second, .val (.long q2), .second, .val (.int md), .val (.int mo), .val (.ref a), .unset, .unset, .unset, .unset] [(.long (0 : Int64)), (.int (1 : Int32)), (.ref a)])) := by
        refine S32.trans ?_
        refine XS.aload X31.here hx rfl (hb hby at_114) rfl rfl ?_
        show Steps p.tables e below (T31.setTop (mkF m 116 #[.val (.long q1), .second, .val (.long q2), .second, .val (.int md), .val (.int mo), .val (.ref a), .unset, .unset, .unset, .unset] [(.ref a)])) _
        refine XS.iconst X31.here hx rfl (hb hby at_116) ?_
        show Steps p.tables e below (T31.setTop (mkF m 117 #[.val (.long q1), .second, .val (.long q2), .second, .val (.int md), .val (.int mo), .val (.ref a), .unset, .unset, .unset, .unset] [(.int (1 : Int32)), (.ref a)])) _
        refine XS.lconst X31.here hx rfl (hb hby at_117) ?_
        exact Steps.refl _
      obtain ⟨cq34, kq34, q34a, q34b, q34c⟩ := isOf hZ rfl KP31.1
      obtain ⟨_, _, ⟨T34, L34, k34, n34⟩, -, X34, ⟨Lc34, hQ34, l34, y34, z34⟩, st34⟩ := X31.virtualBack hx (y := (⟨"com/example/admission_by_rate/admissionbyrate/KeyTable", "putLong", "(IJ)V"⟩ : MethodName)) (z := (⟨"com/example/admission_by_rate/admissionbyrate/KeyTable", "putLong", "(IJ)V"⟩ : MethodName)) hown (mvT hZ (hw _ (List.mem_of_getElem? (i := 112) rfl))) (mvT hZ (hw _ (List.mem_of_getElem? (i := 101) rfl))) (notFace_of_selects (args := #[]) (mvT hZ (hw _ (List.mem_of_getElem? (i := 103) rfl)))) (mvT hZ (hw _ (List.mem_of_getElem? (i := 103) rfl))) (mvT hZ (hw _ (List.mem_of_getElem? (i := 102) rfl))) (by decide) (backOf (W := 0) (rm17n l Z a0 hw [] a (1 : Int32) (0 : Int64) ia ma (3 : Int32) (0 : Int64) (1 : Int32) (2 : Int32) [(0 : Int32), (1 : Int32), (0 : Int32), (0 : Int32), (3 : Int32), (0 : Int32)] 5 T31.heap n0 (Nat.le_trans (Nat.le_trans (Nat.le_trans (Nat.le_trans Z0 E2.1) K5.1) K28.1) K31.1) KP31 gia (by decide) (by decide) (by decide) rfl (by decide)) hZ (hw _ (List.mem_of_getElem? (i := 104) rfl)) (hw _ (List.mem_of_getElem? (i := 2) rfl)) (by decide) (by decide)) q34a q34c (g := (mkF m 118 #[.val (.long q1), .second, .val (.long q2), .second, .val (.int md), .val (.int mo), .val (.ref a), .unset, .unset, .unset, .unset] [(.long (0 : Int64)), (.int (1 : Int32)), (.ref a)])) rfl (by rw [hml]; rfl) (Steps.refl _) (argsL := [(.int (1 : Int32)), (.long (0 : Int64))]) (rest := []) (lenOf pd_2 rfl) rfl (by show 2 * 0 + _ ≤ _; exact Nat.le_of_eq rfl) (hb hby at_118) (fun _ _ => ⟨rfl, rfl, (by decide : 3 + 0 ≤ _), (by decide : 18 + 0 ≤ _)⟩)
      dsimp only [Pt.U, Pt.locs, Pt.cells, Pt.slots] at X34 l34 y34 z34 st34 hQ34
      subst l34 y34 z34
      obtain ⟨rfl, N34q, K34, KO34⟩ := hQ34
      have N34 := Fr.app N31 N34q
      have S35 : Steps p.tables e below Ω (T34.setTop (mkF m 121 #[.val (.long q1), .second, .val (.long q2), .second, .val (.int md), .val (.int mo), .val (.ref a), .unset, .unset, .unset, .unset] [])) := S33.trans st34
      have KP34 : KT Z T34.heap a ia ma (3 : Int32) (0 : Int64) (1 : Int32) (2 : Int32) [(0 : Int32), (1 : Int32), (0 : Int32), (0 : Int32), (3 : Int32), (0 : Int32)] := KO34
      have S36 : Steps p.tables e below Ω (T34.setTop (mkF m 127 #[.val (.long q1), .second, .val (.long q2), .second, .val (.int md), .val (.int mo), .val (.ref a), .unset, .unset, .unset, .unset] [(.long (9223372036854775807 : Int64)), (.int (0 : Int32)), (.ref a)])) := by
        refine S35.trans ?_
        refine XS.aload X34.here hx rfl (hb hby at_121) rfl rfl ?_
        show Steps p.tables e below (T34.setTop (mkF m 123 #[.val (.long q1), .second, .val (.long q2), .second, .val (.int md), .val (.int mo), .val (.ref a), .unset, .unset, .unset, .unset] [(.ref a)])) _
        refine XS.iconst X34.here hx rfl (hb hby at_123) ?_
        show Steps p.tables e below (T34.setTop (mkF m 124 #[.val (.long q1), .second, .val (.long q2), .second, .val (.int md), .val (.int mo), .val (.ref a), .unset, .unset, .unset, .unset] [(.int (0 : Int32)), (.ref a)])) _
        refine X34.ldc2Long hx hown (mvT hZ (hw _ (List.mem_of_getElem? (i := 113) rfl))) (g := (mkF m 124 #[.val (.long q1), .second, .val (.long q2), .second, .val (.int md), .val (.int mo), .val (.ref a), .unset, .unset, .unset, .unset] [(.int (0 : Int32)), (.ref a)])) rfl (hb hby at_124) _ ?_
        exact Steps.refl _
      obtain ⟨cq37, kq37, q37a, q37b, q37c⟩ := isOf hZ rfl KP34.1
      obtain ⟨_, _, ⟨T37, L37, k37, n37⟩, -, X37, ⟨Lc37, hQ37, l37, y37, z37⟩, st37⟩ := X34.virtualBack hx (y := (⟨"com/example/admission_by_rate/admissionbyrate/KeyTable", "relaid", "(IJ)Lcom/example/admission_by_rate/admissionbyrate/KeyTable;"⟩ : MethodName)) (z := (⟨"com/example/admission_by_rate/admissionbyrate/KeyTable", "relaid", "(IJ)Lcom/example/admission_by_rate/admissionbyrate/KeyTable;"⟩ : MethodName)) hown (mvT hZ (hw _ (List.mem_of_getElem? (i := 62) rfl))) (mvT hZ (hw _ (List.mem_of_getElem? (i := 63) rfl))) (notFace_of_selects (args := #[]) (mvT hZ (hw _ (List.mem_of_getElem? (i := 65) rfl)))) (mvT hZ (hw _ (List.mem_of_getElem? (i := 65) rfl))) (mvT hZ (hw _ (List.mem_of_getElem? (i := 64) rfl))) (by decide) (backOf (W := 0) (rm9b l Z a0 hw [] a (0 : Int32) (9223372036854775807 : Int64) ia ma T34.heap n0 (Nat.le_trans (Nat.le_trans (Nat.le_trans (Nat.le_trans (Nat.le_trans Z0 E2.1) K5.1) K28.1) K31.1) K34.1) KP34 rfl rfl) hZ (hw _ (List.mem_of_getElem? (i := 66) rfl)) (hw _ (List.mem_of_getElem? (i := 2) rfl)) (by decide) (by decide)) q37a q37c (g := (mkF m 127 #[.val (.long q1), .second, .val (.long q2), .second, .val (.int md), .val (.int mo), .val (.ref a), .unset, .unset, .unset, .unset] [(.long (9223372036854775807 : Int64)), (.int (0 : Int32)), (.ref a)])) rfl (by rw [hml]; rfl) (Steps.refl _) (argsL := [(.int (0 : Int32)), (.long (9223372036854775807 : Int64))]) (rest := []) (lenOf pd_14 rfl) rfl (by show 2 * 0 + _ ≤ _; exact Nat.le_of_eq rfl) (hb hby at_127) (fun _ _ => ⟨rfl, rfl, (by decide : 3 + 3 ≤ _), (by decide : 18 + 18 ≤ _)⟩)
      dsimp only [Pt.U, Pt.locs, Pt.cells, Pt.slots] at X37 l37 y37 z37 st37 hQ37
      subst l37 y37 z37
      obtain ⟨b, ib, mb, rfl, N37q, K37, KB37, sb, sib, smb⟩ := hQ37
      have N37 := Fr.app N34 N37q
      have S38 : Steps p.tables e below Ω (T37.setTop (mkF m 130 #[.val (.long q1), .second, .val (.long q2), .second, .val (.int md), .val (.int mo), .val (.ref a), .unset, .unset, .unset, .unset] [(.ref b)])) := S36.trans st37
      have S39 : Steps p.tables e below Ω (T37.setTop (mkF m 135 #[.val (.long q1), .second, .val (.long q2), .second, .val (.int md), .val (.int mo), .val (.ref a), .val (.ref b), .unset, .unset, .unset] [(.long q1), (.ref b)])) := by
        refine S38.trans ?_
        refine XS.astore X37.here hx rfl (hb hby at_130) rfl rfl (l' := #[.val (.long q1), .second, .val (.long q2), .second, .val (.int md), .val (.int mo), .val (.ref a), .val (.ref b), .unset, .unset, .unset]) rfl ?_
        show Steps p.tables e below (T37.setTop (mkF m 132 #[.val (.long q1), .second, .val (.long q2), .second, .val (.int md), .val (.int mo), .val (.ref a), .val (.ref b), .unset, .unset, .unset] [])) _
        refine XS.aload X37.here hx rfl (hb hby at_132) rfl rfl ?_
        show Steps p.tables e below (T37.setTop (mkF m 134 #[.val (.long q1), .second, .val (.long q2), .second, .val (.int md), .val (.int mo), .val (.ref a), .val (.ref b), .unset, .unset, .unset] [(.ref b)])) _
        refine XS.lloadN X37.here hx rfl (hb hby at_134) rfl ?_
        exact Steps.refl _
      obtain ⟨cq40, kq40, q40a, q40b, q40c⟩ := isOf hZ rfl KB37.1
      obtain ⟨_, _, ⟨T40, L40, k40, n40⟩, -, X40, ⟨Lc40, hQ40, l40, y40, z40⟩, st40⟩ := X37.virtualBack hx (y := (⟨"com/example/admission_by_rate/admissionbyrate/KeyTable", "holds", "(J)Z"⟩ : MethodName)) (z := (⟨"com/example/admission_by_rate/admissionbyrate/KeyTable", "holds", "(J)Z"⟩ : MethodName)) hown (mvT hZ (hw _ (List.mem_of_getElem? (i := 38) rfl))) (mvT hZ (hw _ (List.mem_of_getElem? (i := 39) rfl))) (notFace_of_selects (args := #[]) (mvT hZ (hw _ (List.mem_of_getElem? (i := 41) rfl)))) (mvT hZ (hw _ (List.mem_of_getElem? (i := 41) rfl))) (mvT hZ (hw _ (List.mem_of_getElem? (i := 40) rfl))) (by decide) (backOf (W := 0) (rm5 l Z a0 hw [] b q1 ib mb (4 : Int32) (0 : Int64) (1 : Int32) (2 : Int32) [(0 : Int32), (1 : Int32), (2147483647 : Int32), (-1 : Int32), (0 : Int32), (3 : Int32), (0 : Int32), (0 : Int32)] T37.heap n0 (Nat.le_trans (Nat.le_trans (Nat.le_trans (Nat.le_trans (Nat.le_trans (Nat.le_trans Z0 E2.1) K5.1) K28.1) K31.1) K34.1) K37.1) KB37) hZ (hw _ (List.mem_of_getElem? (i := 42) rfl)) (hw _ (List.mem_of_getElem? (i := 2) rfl)) (by decide) (by decide)) q40a q40c (g := (mkF m 135 #[.val (.long q1), .second, .val (.long q2), .second, .val (.int md), .val (.int mo), .val (.ref a), .val (.ref b), .unset, .unset, .unset] [(.long q1), (.ref b)])) rfl (by rw [hml]; rfl) (Steps.refl _) (argsL := [(.long q1)]) (rest := []) (lenOf pd_1 rfl) rfl (by show 2 * 0 + _ ≤ _; exact Nat.le_of_eq rfl) (hb hby at_135) (fun _ _ => ⟨rfl, rfl, (by decide : 6 + 0 ≤ _), (by decide : 36 + 0 ≤ _)⟩)
      dsimp only [Pt.U, Pt.locs, Pt.cells, Pt.slots] at X40 l40 y40 z40 st40 hQ40
      subst l40 y40 z40
      obtain ⟨rfl, N40q, e40⟩ := hQ40
      have N40 := Fr.app N37 N40q
      have S41 : Steps p.tables e below Ω (T40.setTop (mkF m 138 #[.val (.long q1), .second, .val (.long q2), .second, .val (.int md), .val (.int mo), .val (.ref a), .val (.ref b), .unset, .unset, .unset] [(.int (own_holds (4 : Int32) (0 : Int64) q1))])) := S39.trans st40
      rw [(by rw [own_holds, if_pos rfl] : (own_holds (4 : Int32) (0 : Int64) q1) = (1 : Int32))] at S41
      have S42 : Steps p.tables e below Ω (T40.setTop (mkF m 144 #[.val (.long q1), .second, .val (.long q2), .second, .val (.int md), .val (.int mo), .val (.ref a), .val (.ref b), .unset, .unset, .unset] [(.long q2), (.ref b)])) := by
        refine S41.trans ?_
        refine XS.ifNo X40.here hx rfl (hb hby at_138) rfl (XT.i0_eq_f (by decide)) ?_
        show Steps p.tables e below (T40.setTop (mkF m 141 #[.val (.long q1), .second, .val (.long q2), .second, .val (.int md), .val (.int mo), .val (.ref a), .val (.ref b), .unset, .unset, .unset] [])) _
        refine XS.aload X40.here hx rfl (hb hby at_141) rfl rfl ?_
        show Steps p.tables e below (T40.setTop (mkF m 143 #[.val (.long q1), .second, .val (.long q2), .second, .val (.int md), .val (.int mo), .val (.ref a), .val (.ref b), .unset, .unset, .unset] [(.ref b)])) _
        refine XS.lloadN X40.here hx rfl (hb hby at_143) rfl ?_
        exact Steps.refl _
      obtain ⟨cq43, kq43, q43a, q43b, q43c⟩ := isOf hZ e40 KB37.1
      obtain ⟨_, _, ⟨T43, L43, k43, n43⟩, -, X43, ⟨Lc43, hQ43, l43, y43, z43⟩, st43⟩ := X40.virtualBack hx (y := (⟨"com/example/admission_by_rate/admissionbyrate/KeyTable", "holds", "(J)Z"⟩ : MethodName)) (z := (⟨"com/example/admission_by_rate/admissionbyrate/KeyTable", "holds", "(J)Z"⟩ : MethodName)) hown (mvT hZ (hw _ (List.mem_of_getElem? (i := 38) rfl))) (mvT hZ (hw _ (List.mem_of_getElem? (i := 39) rfl))) (notFace_of_selects (args := #[]) (mvT hZ (hw _ (List.mem_of_getElem? (i := 41) rfl)))) (mvT hZ (hw _ (List.mem_of_getElem? (i := 41) rfl))) (mvT hZ (hw _ (List.mem_of_getElem? (i := 40) rfl))) (by decide) (backOf (W := 0) (rm5 l Z a0 hw [] b q2 ib mb (4 : Int32) (0 : Int64) (1 : Int32) (2 : Int32) [(0 : Int32), (1 : Int32), (2147483647 : Int32), (-1 : Int32), (0 : Int32), (3 : Int32), (0 : Int32), (0 : Int32)] T37.heap n0 (Nat.le_trans (Nat.le_trans (Nat.le_trans (Nat.le_trans (Nat.le_trans (Nat.le_trans Z0 E2.1) K5.1) K28.1) K31.1) K34.1) K37.1) KB37) hZ (hw _ (List.mem_of_getElem? (i := 42) rfl)) (hw _ (List.mem_of_getElem? (i := 2) rfl)) (by decide) (by decide)) q43a q43c (g := (mkF m 144 #[.val (.long q1), .second, .val (.long q2), .second, .val (.int md), .val (.int mo), .val (.ref a), .val (.ref b), .unset, .unset, .unset] [(.long q2), (.ref b)])) rfl (by rw [hml]; rfl) (Steps.refl _) (argsL := [(.long q2)]) (rest := []) (lenOf pd_1 rfl) rfl (by show 2 * 0 + _ ≤ _; exact Nat.le_of_eq rfl) (hb hby at_144) (fun _ _ => ⟨rfl, e40, (by decide : 6 + 0 ≤ _), (by decide : 36 + 0 ≤ _)⟩)
      dsimp only [Pt.U, Pt.locs, Pt.cells, Pt.slots] at X43 l43 y43 z43 st43 hQ43
      subst l43 y43 z43
      obtain ⟨rfl, N43q, e43⟩ := hQ43
      have N43 := Fr.app N40 N43q
      have S44 : Steps p.tables e below Ω (T43.setTop (mkF m 147 #[.val (.long q1), .second, .val (.long q2), .second, .val (.int md), .val (.int mo), .val (.ref a), .val (.ref b), .unset, .unset, .unset] [(.int (own_holds (4 : Int32) (0 : Int64) q2))])) := S42.trans st43
      rw [(by rw [own_holds, if_pos rfl] : (own_holds (4 : Int32) (0 : Int64) q2) = (1 : Int32))] at S44
      have S45 : Steps p.tables e below Ω (T43.setTop (mkF m 153 #[.val (.long q1), .second, .val (.long q2), .second, .val (.int md), .val (.int mo), .val (.ref a), .val (.ref b), .unset, .unset, .unset] [(.int (0 : Int32)), (.ref b)])) := by
        refine S44.trans ?_
        refine XS.ifNo X43.here hx rfl (hb hby at_147) rfl (XT.i0_eq_f (by decide)) ?_
        show Steps p.tables e below (T43.setTop (mkF m 150 #[.val (.long q1), .second, .val (.long q2), .second, .val (.int md), .val (.int mo), .val (.ref a), .val (.ref b), .unset, .unset, .unset] [])) _
        refine XS.aload X43.here hx rfl (hb hby at_150) rfl rfl ?_
        show Steps p.tables e below (T43.setTop (mkF m 152 #[.val (.long q1), .second, .val (.long q2), .second, .val (.int md), .val (.int mo), .val (.ref a), .val (.ref b), .unset, .unset, .unset] [(.ref b)])) _
        refine XS.iconst X43.here hx rfl (hb hby at_152) ?_
        exact Steps.refl _
      obtain ⟨cq46, kq46, q46a, q46b, q46c⟩ := isOf hZ e43 KB37.1
      obtain ⟨_, _, ⟨T46, L46, k46, n46⟩, -, X46, ⟨Lc46, hQ46, l46, y46, z46⟩, st46⟩ := X43.virtualBack hx (y := (⟨"com/example/admission_by_rate/admissionbyrate/KeyTable", "longAt", "(I)J"⟩ : MethodName)) (z := (⟨"com/example/admission_by_rate/admissionbyrate/KeyTable", "longAt", "(I)J"⟩ : MethodName)) hown (mvT hZ (hw _ (List.mem_of_getElem? (i := 106) rfl))) (mvT hZ (hw _ (List.mem_of_getElem? (i := 107) rfl))) (notFace_of_selects (args := #[]) (mvT hZ (hw _ (List.mem_of_getElem? (i := 109) rfl)))) (mvT hZ (hw _ (List.mem_of_getElem? (i := 109) rfl))) (mvT hZ (hw _ (List.mem_of_getElem? (i := 108) rfl))) (by decide) (backOf (W := 0) (rm18w l Z a0 hw [] b (0 : Int32) ib mb (4 : Int32) (0 : Int64) (1 : Int32) (2 : Int32) [(0 : Int32), (1 : Int32), (2147483647 : Int32), (-1 : Int32), (0 : Int32), (3 : Int32), (0 : Int32), (0 : Int32)] (2147483647 : Int32) (-1 : Int32) T37.heap n0 (Nat.le_trans (Nat.le_trans (Nat.le_trans (Nat.le_trans (Nat.le_trans (Nat.le_trans Z0 E2.1) K5.1) K28.1) K31.1) K34.1) K37.1) KB37 (by decide) (by decide) rfl (by decide) rfl) hZ (hw _ (List.mem_of_getElem? (i := 110) rfl)) (hw _ (List.mem_of_getElem? (i := 2) rfl)) (by decide) (by decide)) q46a q46c (g := (mkF m 153 #[.val (.long q1), .second, .val (.long q2), .second, .val (.int md), .val (.int mo), .val (.ref a), .val (.ref b), .unset, .unset, .unset] [(.int (0 : Int32)), (.ref b)])) rfl (by rw [hml]; rfl) (Steps.refl _) (argsL := [(.int (0 : Int32))]) (rest := []) (lenOf pd_0 rfl) rfl (by show 2 * 0 + _ ≤ _; exact Nat.le_of_eq rfl) (hb hby at_153) (fun _ _ => ⟨rfl, e43, (by decide : 6 + 0 ≤ _), (by decide : 36 + 0 ≤ _)⟩)
      dsimp only [Pt.U, Pt.locs, Pt.cells, Pt.slots] at X46 l46 y46 z46 st46 hQ46
      subst l46 y46 z46
      obtain ⟨rfl, N46q, e46⟩ := hQ46
      have N46 := Fr.app N43 N46q
      have S47 : Steps p.tables e below Ω (T46.setTop (mkF m 156 #[.val (.long q1), .second, .val (.long q2), .second, .val (.int md), .val (.int mo), .val (.ref a), .val (.ref b), .unset, .unset, .unset] [(.long (own_of (2147483647 : Int32) (-1 : Int32)))])) := S45.trans st46
      have S48 : Steps p.tables e below Ω (T46.setTop (mkF m 160 #[.val (.long q1), .second, .val (.long q2), .second, .val (.int md), .val (.int mo), .val (.ref a), .val (.ref b), .unset, .unset, .unset] [(.int (lcmpW (own_of (2147483647 : Int32) (-1 : Int32)) (9223372036854775807 : Int64)))])) := by
        refine S47.trans ?_
        refine X46.ldc2Long hx hown (mvT hZ (hw _ (List.mem_of_getElem? (i := 113) rfl))) (g := (mkF m 156 #[.val (.long q1), .second, .val (.long q2), .second, .val (.int md), .val (.int mo), .val (.ref a), .val (.ref b), .unset, .unset, .unset] [(.long (own_of (2147483647 : Int32) (-1 : Int32)))])) rfl (hb hby at_156) _ ?_
        show Steps p.tables e below (T46.setTop (mkF m 159 #[.val (.long q1), .second, .val (.long q2), .second, .val (.int md), .val (.int mo), .val (.ref a), .val (.ref b), .unset, .unset, .unset] [(.long (9223372036854775807 : Int64)), (.long (own_of (2147483647 : Int32) (-1 : Int32)))])) _
        refine XS.lcmp X46.here hx rfl (hb hby at_159) rfl ?_
        exact Steps.refl _
      have S49 : Steps p.tables e below Ω (T46.setTop (mkF m 168 #[.val (.long q1), .second, .val (.long q2), .second, .val (.int md), .val (.int mo), .val (.ref a), .val (.ref b), .unset, .unset, .unset] [(.int (1 : Int32))])) := by
        refine S48.trans ?_
        refine XS.ifNo X46.here hx rfl (hb hby at_160) rfl (XT.ll_ne_f (by decide)) ?_
        show Steps p.tables e below (T46.setTop (mkF m 163 #[.val (.long q1), .second, .val (.long q2), .second, .val (.int md), .val (.int mo), .val (.ref a), .val (.ref b), .unset, .unset, .unset] [])) _
        refine XS.iconst X46.here hx rfl (hb hby at_163) ?_
        show Steps p.tables e below (T46.setTop (mkF m 164 #[.val (.long q1), .second, .val (.long q2), .second, .val (.int md), .val (.int mo), .val (.ref a), .val (.ref b), .unset, .unset, .unset] [(.int (1 : Int32))])) _
        refine XS.goto X46.here hx rfl (pc0 := 164) (pc' := 168) rfl (hb hby at_164) (by decide) (by decide) ?_
        exact Steps.refl _
      obtain ⟨fs, hr, hrun, hended, hW, hsame⟩ := X46.leave (v := some (.int (1 : Int32))) (fun h => by rw [Bd.returns] at h; cases h)
      have hfin : Steps p.tables e below Ω (T46.setFrames fs) := by
        refine S49.trans ?_
        exact own_retZ X46 hx Bd.returns (by decide) (hb hby at_168) hr
      rw [hΩ] at hfin
      refine ⟨_, _, hfin, hrun, hended, _, _, rfl, ?_, ⟨_, rfl⟩, hW, hsame.mono (by decide) (by decide)⟩
      show Q0 Z q1 q2 md h0 n0 _ T46.heap _
      rw [e46]
      exact ⟨rfl, N46⟩
    · have qhm2 : ¬ mo.toInt = 2 := fun q => hm2 (Int32.toInt_inj.mp q)
      have S50 : Steps p.tables e below Ω (T5.setTop (mkF m 174 #[.val (.long q1), .second, .val (.long q2), .second, .val (.int md), .val (.int mo), .val (.ref a), .unset, .unset, .unset, .unset] [(.int (lcmpW q1 (-2147483648 : Int64)))])) := by
        refine S26.trans ?_
        refine XS.icmpYes X5.here hx rfl (pc0 := 93) (pc' := 169) rfl (hb hby at_93) rfl (XT.ii_ne_t hm2) (by decide) (by decide) ?_
        show Steps p.tables e below (T5.setTop (mkF m 169 #[.val (.long q1), .second, .val (.long q2), .second, .val (.int md), .val (.int mo), .val (.ref a), .unset, .unset, .unset, .unset] [])) _
        refine XS.lloadN X5.here hx rfl (hb hby at_169) rfl ?_
        show Steps p.tables e below (T5.setTop (mkF m 170 #[.val (.long q1), .second, .val (.long q2), .second, .val (.int md), .val (.int mo), .val (.ref a), .unset, .unset, .unset, .unset] [(.long q1)])) _
        refine X5.ldc2Long hx hown (mvT hZ (hw _ (List.mem_of_getElem? (i := 36) rfl))) (g := (mkF m 170 #[.val (.long q1), .second, .val (.long q2), .second, .val (.int md), .val (.int mo), .val (.ref a), .unset, .unset, .unset, .unset] [(.long q1)])) rfl (hb hby at_170) _ ?_
        show Steps p.tables e below (T5.setTop (mkF m 173 #[.val (.long q1), .second, .val (.long q2), .second, .val (.int md), .val (.int mo), .val (.ref a), .unset, .unset, .unset, .unset] [(.long (-2147483648 : Int64)), (.long q1)])) _
        refine XS.lcmp X5.here hx rfl (hb hby at_173) rfl ?_
        exact Steps.refl _
      obtain ⟨ex, h_ex, S53⟩ : ∃ (ex : Int32), ex = (if q1 < (-2147483648 : Int64) then (0 : Int32) else (if (2147483647 : Int64) < q1 then (0 : Int32) else (1 : Int32))) ∧ Steps p.tables e below Ω (T5.setTop (mkF m 190 #[.val (.long q1), .second, .val (.long q2), .second, .val (.int md), .val (.int mo), .val (.ref a), .unset, .unset, .unset, .unset] [(.int ex)])) := by
        by_cases c51 : q1 < (-2147483648 : Int64)
        · refine ⟨(0 : Int32), (by rw [if_pos c51]), S50.trans ?_⟩
          refine XS.ifYes X5.here hx rfl (pc0 := 174) (pc' := 189) rfl (hb hby at_174) rfl (XT.ll_lt_t c51) (by decide) (by decide) ?_
          show Steps p.tables e below (T5.setTop (mkF m 189 #[.val (.long q1), .second, .val (.long q2), .second, .val (.int md), .val (.int mo), .val (.ref a), .unset, .unset, .unset, .unset] [])) _
          refine XS.iconst X5.here hx rfl (hb hby at_189) ?_
          exact Steps.refl _
        · by_cases c52 : (2147483647 : Int64) < q1
          · refine ⟨(0 : Int32), (by rw [if_neg c51, if_pos c52]), S50.trans ?_⟩
            refine XS.ifNo X5.here hx rfl (hb hby at_174) rfl (XT.ll_lt_f c51) ?_
            show Steps p.tables e below (T5.setTop (mkF m 177 #[.val (.long q1), .second, .val (.long q2), .second, .val (.int md), .val (.int mo), .val (.ref a), .unset, .unset, .unset, .unset] [])) _
            refine XS.lloadN X5.here hx rfl (hb hby at_177) rfl ?_
            show Steps p.tables e below (T5.setTop (mkF m 178 #[.val (.long q1), .second, .val (.long q2), .second, .val (.int md), .val (.int mo), .val (.ref a), .unset, .unset, .unset, .unset] [(.long q1)])) _
            refine X5.ldc2Long hx hown (mvT hZ (hw _ (List.mem_of_getElem? (i := 37) rfl))) (g := (mkF m 178 #[.val (.long q1), .second, .val (.long q2), .second, .val (.int md), .val (.int mo), .val (.ref a), .unset, .unset, .unset, .unset] [(.long q1)])) rfl (hb hby at_178) _ ?_
            show Steps p.tables e below (T5.setTop (mkF m 181 #[.val (.long q1), .second, .val (.long q2), .second, .val (.int md), .val (.int mo), .val (.ref a), .unset, .unset, .unset, .unset] [(.long (2147483647 : Int64)), (.long q1)])) _
            refine XS.lcmp X5.here hx rfl (hb hby at_181) rfl ?_
            show Steps p.tables e below (T5.setTop (mkF m 182 #[.val (.long q1), .second, .val (.long q2), .second, .val (.int md), .val (.int mo), .val (.ref a), .unset, .unset, .unset, .unset] [(.int (lcmpW q1 (2147483647 : Int64)))])) _
            refine XS.ifYes X5.here hx rfl (pc0 := 182) (pc' := 189) rfl (hb hby at_182) rfl (XT.ll_gt_t c52) (by decide) (by decide) ?_
            show Steps p.tables e below (T5.setTop (mkF m 189 #[.val (.long q1), .second, .val (.long q2), .second, .val (.int md), .val (.int mo), .val (.ref a), .unset, .unset, .unset, .unset] [])) _
            refine XS.iconst X5.here hx rfl (hb hby at_189) ?_
            exact Steps.refl _
          · refine ⟨(1 : Int32), (by rw [if_neg c51, if_neg c52]), S50.trans ?_⟩
            refine XS.ifNo X5.here hx rfl (hb hby at_174) rfl (XT.ll_lt_f c51) ?_
            show Steps p.tables e below (T5.setTop (mkF m 177 #[.val (.long q1), .second, .val (.long q2), .second, .val (.int md), .val (.int mo), .val (.ref a), .unset, .unset, .unset, .unset] [])) _
            refine XS.lloadN X5.here hx rfl (hb hby at_177) rfl ?_
            show Steps p.tables e below (T5.setTop (mkF m 178 #[.val (.long q1), .second, .val (.long q2), .second, .val (.int md), .val (.int mo), .val (.ref a), .unset, .unset, .unset, .unset] [(.long q1)])) _
            refine X5.ldc2Long hx hown (mvT hZ (hw _ (List.mem_of_getElem? (i := 37) rfl))) (g := (mkF m 178 #[.val (.long q1), .second, .val (.long q2), .second, .val (.int md), .val (.int mo), .val (.ref a), .unset, .unset, .unset, .unset] [(.long q1)])) rfl (hb hby at_178) _ ?_
            show Steps p.tables e below (T5.setTop (mkF m 181 #[.val (.long q1), .second, .val (.long q2), .second, .val (.int md), .val (.int mo), .val (.ref a), .unset, .unset, .unset, .unset] [(.long (2147483647 : Int64)), (.long q1)])) _
            refine XS.lcmp X5.here hx rfl (hb hby at_181) rfl ?_
            show Steps p.tables e below (T5.setTop (mkF m 182 #[.val (.long q1), .second, .val (.long q2), .second, .val (.int md), .val (.int mo), .val (.ref a), .unset, .unset, .unset, .unset] [(.int (lcmpW q1 (2147483647 : Int64)))])) _
            refine XS.ifNo X5.here hx rfl (hb hby at_182) rfl (XT.ll_gt_f c52) ?_
            show Steps p.tables e below (T5.setTop (mkF m 185 #[.val (.long q1), .second, .val (.long q2), .second, .val (.int md), .val (.int mo), .val (.ref a), .unset, .unset, .unset, .unset] [])) _
            refine XS.iconst X5.here hx rfl (hb hby at_185) ?_
            show Steps p.tables e below (T5.setTop (mkF m 186 #[.val (.long q1), .second, .val (.long q2), .second, .val (.int md), .val (.int mo), .val (.ref a), .unset, .unset, .unset, .unset] [(.int (1 : Int32))])) _
            refine XS.goto X5.here hx rfl (pc0 := 186) (pc' := 190) rfl (hb hby at_186) (by decide) (by decide) ?_
            exact Steps.refl _
      have S54 : Steps p.tables e below Ω (T5.setTop (mkF m 195 #[.val (.long q1), .second, .val (.long q2), .second, .val (.int md), .val (.int mo), .val (.ref a), .val (.int ex), .unset, .unset, .unset] [(.long q1), (.ref a)])) := by
        refine S53.trans ?_
        refine XS.istore X5.here hx rfl (hb hby at_190) rfl (l' := #[.val (.long q1), .second, .val (.long q2), .second, .val (.int md), .val (.int mo), .val (.ref a), .val (.int ex), .unset, .unset, .unset]) rfl ?_
        show Steps p.tables e below (T5.setTop (mkF m 192 #[.val (.long q1), .second, .val (.long q2), .second, .val (.int md), .val (.int mo), .val (.ref a), .val (.int ex), .unset, .unset, .unset] [])) _
        refine XS.aload X5.here hx rfl (hb hby at_192) rfl rfl ?_
        show Steps p.tables e below (T5.setTop (mkF m 194 #[.val (.long q1), .second, .val (.long q2), .second, .val (.int md), .val (.int mo), .val (.ref a), .val (.int ex), .unset, .unset, .unset] [(.ref a)])) _
        refine XS.lloadN X5.here hx rfl (hb hby at_194) rfl ?_
        exact Steps.refl _
      obtain ⟨cq55, kq55, q55a, q55b, q55c⟩ := isOf hZ rfl KA0.1
      obtain ⟨_, _, ⟨T55, L55, k55, n55⟩, -, X55, ⟨Lc55, hQ55, l55, y55, z55⟩, st55⟩ := X5.virtualBack hx (y := (⟨"com/example/admission_by_rate/admissionbyrate/KeyTable", "holds", "(J)Z"⟩ : MethodName)) (z := (⟨"com/example/admission_by_rate/admissionbyrate/KeyTable", "holds", "(J)Z"⟩ : MethodName)) hown (mvT hZ (hw _ (List.mem_of_getElem? (i := 38) rfl))) (mvT hZ (hw _ (List.mem_of_getElem? (i := 39) rfl))) (notFace_of_selects (args := #[]) (mvT hZ (hw _ (List.mem_of_getElem? (i := 41) rfl)))) (mvT hZ (hw _ (List.mem_of_getElem? (i := 41) rfl))) (mvT hZ (hw _ (List.mem_of_getElem? (i := 40) rfl))) (by decide) (backOf (W := 0) (rm5 l Z a0 hw [] a q1 ia ma (3 : Int32) (0 : Int64) (1 : Int32) (0 : Int32) [(0 : Int32), (0 : Int32), (0 : Int32), (0 : Int32), (0 : Int32), (0 : Int32)] T5.heap n0 (Nat.le_trans (Nat.le_trans Z0 E2.1) K5.1) KA0) hZ (hw _ (List.mem_of_getElem? (i := 42) rfl)) (hw _ (List.mem_of_getElem? (i := 2) rfl)) (by decide) (by decide)) q55a q55c (g := (mkF m 195 #[.val (.long q1), .second, .val (.long q2), .second, .val (.int md), .val (.int mo), .val (.ref a), .val (.int ex), .unset, .unset, .unset] [(.long q1), (.ref a)])) rfl (by rw [hml]; rfl) (Steps.refl _) (argsL := [(.long q1)]) (rest := []) (lenOf pd_1 rfl) rfl (by show 2 * 0 + _ ≤ _; exact Nat.le_of_eq rfl) (hb hby at_195) (fun _ _ => ⟨rfl, rfl, (by decide : 3 + 0 ≤ _), (by decide : 18 + 0 ≤ _)⟩)
      dsimp only [Pt.U, Pt.locs, Pt.cells, Pt.slots] at X55 l55 y55 z55 st55 hQ55
      subst l55 y55 z55
      obtain ⟨rfl, N55q, e55⟩ := hQ55
      have N55 := Fr.app N5 N55q
      have S56 : Steps p.tables e below Ω (T55.setTop (mkF m 198 #[.val (.long q1), .second, .val (.long q2), .second, .val (.int md), .val (.int mo), .val (.ref a), .val (.int ex), .unset, .unset, .unset] [(.int (own_holds (3 : Int32) (0 : Int64) q1))])) := S54.trans st55
      have S57 : Steps p.tables e below Ω (T55.setTop (mkF m 200 #[.val (.long q1), .second, .val (.long q2), .second, .val (.int md), .val (.int mo), .val (.ref a), .val (.int ex), .unset, .unset, .unset] [(.int ex), (.int (own_holds (3 : Int32) (0 : Int64) q1))])) := by
        refine S56.trans ?_
        refine XS.iload X55.here hx rfl (hb hby at_198) rfl ?_
        exact Steps.refl _
      have S58 : Steps p.tables e below Ω (T55.setTop (mkF m 208 #[.val (.long q1), .second, .val (.long q2), .second, .val (.int md), .val (.int mo), .val (.ref a), .val (.int ex), .unset, .unset, .unset] [(.int (1 : Int32))])) := by
        refine S57.trans ?_
        refine XS.icmpNo X55.here hx rfl (hb hby at_200) rfl (XT.ii_ne_f ((own_m3 q1).trans h_ex.symm)) ?_
        show Steps p.tables e below (T55.setTop (mkF m 203 #[.val (.long q1), .second, .val (.long q2), .second, .val (.int md), .val (.int mo), .val (.ref a), .val (.int ex), .unset, .unset, .unset] [])) _
        refine XS.iconst X55.here hx rfl (hb hby at_203) ?_
        show Steps p.tables e below (T55.setTop (mkF m 204 #[.val (.long q1), .second, .val (.long q2), .second, .val (.int md), .val (.int mo), .val (.ref a), .val (.int ex), .unset, .unset, .unset] [(.int (1 : Int32))])) _
        refine XS.goto X55.here hx rfl (pc0 := 204) (pc' := 208) rfl (hb hby at_204) (by decide) (by decide) ?_
        exact Steps.refl _
      obtain ⟨fs, hr, hrun, hended, hW, hsame⟩ := X55.leave (v := some (.int (1 : Int32))) (fun h => by rw [Bd.returns] at h; cases h)
      have hfin : Steps p.tables e below Ω (T55.setFrames fs) := by
        refine S58.trans ?_
        exact own_retZ X55 hx Bd.returns (by decide) (hb hby at_208) hr
      rw [hΩ] at hfin
      refine ⟨_, _, hfin, hrun, hended, _, _, rfl, ?_, ⟨_, rfl⟩, hW, hsame.mono (by decide) (by decide)⟩
      show Q0 Z q1 q2 md h0 n0 _ T55.heap _
      rw [e55]
      exact ⟨rfl, N55⟩
set_option maxRecDepth 65536 in
set_option maxHeartbeats 40000000 in
theorem comes_1 {Post : Tables → Env → Array Value → State → Outcome → State → Prop} (hpost : ∀ tb e args s v u, (limb_1_1.after args s (.returned v) u = true ∧ limb_1_2.after args s (.returned v) u = true ∧ True) → FrameEnd s (.returned v) u (Jvm.fieldLocs frame_1_writes args s ++ Jvm.arrayLocs frame_1_arrays args s ++ Jvm.staticLocs frame_1_statics s) 24 192 → Post tb e args s (.returned v) u) :
    ArmFor flags0 classFile x code maxLocals ret World_1 tables_1 room_1 Calls_1 rest_1 Pre_1 Post := by
  intro l hfl _ _ p e ha hc hk s m args below hf hA hF happ hP
  obtain ⟨hcalls, hrest, hpre⟩ := hP
  obtain ⟨-, -, -, hnamed, -, -, -, hat⟩ := (Spec.applies_iff hf).mp happ
  obtain ⟨hg, hn⟩ := and_e (Cond.before_iff.mp (show (Jvm.Cond.and given_1 narrow_1).before args s = true from hpre))
  obtain ⟨gc, g0⟩ := and_e hg
  obtain ⟨k0, g1⟩ := and_e g0
  obtain ⟨k1, g2⟩ := and_e g1
  obtain ⟨w0, w1, w2, rfl⟩ : ∃ w0 w1 w2 : Value, args = #[w0, w1, w2] := by
    have hs : args.size = 3 := by simpa [Cond.value, given_1] using gc
    obtain ⟨L⟩ := args
    match L, hs with
    | [w0, w1, w2], _ => exact ⟨w0, w1, w2, rfl⟩
  have hw := fun d (hd : d ∈ tables_1) => atoms_spec (ws := Jvm.Cond.code x code maxLocals ret :: tables_1) hat d (List.mem_cons_of_mem _ hd)
  have hfit : Fit s := fun {y c} hc i hi => by
    obtain ⟨ha, rfl⟩ := Array.getElem?_eq_some_iff.mp hc
    have q := List.all_eq_true.mp ((Array.all_eq_true_iff_forall_mem.mp hF) _ (Array.getElem_mem ha)) i (List.mem_range.mpr hi)
    simpa [Array.getElem?_eq_getElem hi] using q
  obtain ⟨i0, ei0⟩ := isL_v k0
  obtain rfl : w0 = (.long i0) := Option.some.inj ei0
  obtain ⟨i1, ei1⟩ := isL_v k1
  obtain rfl : w1 = (.long i1) := Option.some.inj ei1
  obtain ⟨i2, ei2⟩ := is_v g2
  obtain rfl : w2 = (.int i2) := Option.some.inj ei2
  obtain ⟨n, o, h1, h2, h3, _, L, rfl, ⟨rfl, N⟩, hq⟩ := rm0 l s _ hw tables_1 i0 i1 i2  s.heap s.heap.size (Nat.le_refl _)  p e ha hc hk s m _ below hf ((Spec.applies_iff_loose hf).mp happ).1 ⟨rfl, State.Warmed39.refl s, rfl⟩ trivial
  refine ⟨n, _, h1, h2, h3, hpost _ _ _ _ _ _ ⟨Cond.after_iff.mpr rfl, Cond.after_iff.mpr (eq_i res_at (Term.int_eval (1)) rfl), trivial⟩ ⟨hq.1, hq.2.1, (hq.2.2.sift fun y hy => Or.inr (N y hy)).mono (by decide) (by decide)⟩⟩
theorem main_1_1 : Claimed_1_1 := comes_1 fun _ _ _ _ _ _ h hF => ⟨h.1, hF⟩
theorem main_1_2 : Claimed_1_2 := comes_1 fun _ _ _ _ _ _ h hF => ⟨h.2.1, hF⟩
end Jvm.Pilot.@@N@@
namespace Jvm.Pilot.@@N@@
open Jvm Jvm.ClassFile Sem Op Lib Jvm.Free Jvm.Stand Jvm.Pilot.@@N@@.Jvm.D
/-! MADE BY PROGRAM (witnessworld.py) out of the Statement's table words and the real class files: 13 classes; the members and pool entries that the words name. The judged class is class 1, her method 1. -/
namespace start1
open Jvm.ClassFile
def u (s : String) : CpInfo := .utf8 (stringToUtf16 s)
/-- a pool by its gaps: so many unusable entries, then the entry; so many at the end -/
def gap : Nat → List CpInfo → List CpInfo
  | 0, r => r
  | n + 1, r => .unusable :: gap n r
def poolList (es : List (Nat × CpInfo)) (last : Nat) : List CpInfo := es.foldr (fun e r => gap e.1 (e.2 :: r)) (gap last [])
def pool (es : List (Nat × CpInfo)) (last : Nat) : Array CpInfo := ⟨poolList es last⟩
def fileOf (pool : Array CpInfo) (this : Nat) (attrs : Array Attribute := #[]) (ms : Array MethodInfo := #[]) (fl : Nat := 33) (sup : Nat := 0) (ifs : Array Nat := #[]) (fds : Array FieldInfo := #[]) : ClassFile where
  minorVersion := 0
  majorVersion := 65
  constantPool := pool
  accessFlags := fl
  thisClass := this
  superClass := sup
  interfaces := ifs
  fields := fds
  methods := ms
  attributes := attrs
def plain (name : String) (sup : Option ClassId) : Class where
  name := name
  kind := .ordinary
  loader := none
  accessFlags := 33
  super := sup
  interfaces := #[]
  cf := none
  fields := #[]
  methods := #[]
  instanceTypes := #[]
  staticTypes := #[]
  resolved := #[]
  callSites := []
  init := .initialized
  statics := none
  mirror := none

def pool0 : Array CpInfo := pool [(5, u "<init>"), (0, u "()V"), (1, .class_ 10), (1, u "java/lang/Object")] 113

def k0c0 : Code := { maxStack := 0, maxLocals := 1, code := object_method_1_code, exceptionTable := #[], attributes := #[] }
def k0m0 : Method := { name := "<init>", desc := "()V", sig := { parameters := [], returnType := none }, accessFlags := 1, code := some k0c0 }
/-- java/lang/Object -/
def k0 : Class := { plain "java/lang/Object" none with
  accessFlags := 33
  interfaces := #[]
  cf := some (fileOf pool0 8 #[] #[{ accessFlags := 1, nameIndex := 5, descriptorIndex := 6, attributes := #[] }] 33 0 #[] #[])
  fields := #[]
  methods := #[k0m0]
  instanceTypes := #[]
  staticTypes := #[]
  resolved := Array.replicate 124 none
  statics := none }

def pool1 : Array CpInfo := pool [(2, .class_ 4), (1, u "java/lang/Object"), (0, u "<init>"), (0, u "()V"), (0, .class_ 8), (0, u "com/example/admission_by_rate/admissionbyrate/KeyTable"), (0, .methodref 7 10), (0, .nameAndType 5 11), (0, u "(ZI)V"), (0, .methodref 7 13), (0, .nameAndType 14 15), (0, u "occupy"), (0, u "(IJI)V"), (0, .methodref 7 17), (0, .nameAndType 18 19), (0, u "relaid"), (0, u "(IJ)Lcom/example/admission_by_rate/admissionbyrate/KeyTable;"), (0, .methodref 7 21), (0, .nameAndType 22 23), (0, u "holds"), (0, u "(J)Z"), (0, .methodref 7 25), (0, .nameAndType 26 27), (0, u "longAt"), (0, u "(I)J"), (0, .long 3), (1, .methodref 7 31), (0, .nameAndType 32 33), (0, u "putLong"), (0, u "(IJ)V"), (2, .long 9223372036854775807), (3, .long 18446744071562067968), (1, .long 2147483647), (1, .class_ 45), (0, u "com/example/admission_by_rate/admissionbyrate/KeyTableHoldsPinLaw"), (2, u "law"), (0, u "(JJI)Z")] 3

def k1m0 : Method := { name := "<init>", desc := "()V", sig := { parameters := [], returnType := none }, accessFlags := 1, code := none }
def k1c1 : Code := { maxStack := 5, maxLocals := 11, code := code, exceptionTable := #[], attributes := #[] }
def k1m1 : Method := { name := "law", desc := "(JJI)Z", sig := { parameters := [.long, .long, .int], returnType := some .boolean }, accessFlags := 9, code := some k1c1 }
/-- com/example/admission_by_rate/admissionbyrate/KeyTableHoldsPinLaw -/
def k1 : Class := { plain "com/example/admission_by_rate/admissionbyrate/KeyTableHoldsPinLaw" (some 0) with
  accessFlags := 49
  interfaces := #[]
  cf := some (fileOf pool1 44 #[] #[{ accessFlags := 1, nameIndex := 5, descriptorIndex := 6, attributes := #[] }, { accessFlags := 9, nameIndex := 48, descriptorIndex := 49, attributes := #[] }] 49 2 #[] #[])
  fields := #[]
  methods := #[k1m0, k1m1]
  instanceTypes := #[]
  staticTypes := #[]
  resolved := Array.replicate 53 none
  statics := none }

def pool2 : Array CpInfo := pool [(3, .class_ 4), (0, u "com/example/admission_by_rate/admissionbyrate/KeyTable"), (0, .methodref 3 6), (0, .nameAndType 7 8), (0, u "<init>"), (0, u "(ZIIJ)V"), (0, .methodref 10 11), (0, .class_ 12), (0, .nameAndType 7 13), (0, u "java/lang/Object"), (0, u "()V"), (0, .fieldref 3 15), (0, .nameAndType 16 17), (0, u "inLongs"), (0, u "Z"), (0, .fieldref 3 19), (0, .nameAndType 20 21), (0, u "stride"), (0, u "I"), (0, .fieldref 3 23), (0, .nameAndType 24 25), (0, u "ints"), (0, u "[I"), (0, .fieldref 3 27), (0, .nameAndType 28 29), (0, u "base"), (0, u "J"), (0, .fieldref 3 31), (0, .nameAndType 32 33), (0, u "objects"), (0, u "[Ljava/lang/Object;"), (0, .class_ 35), (0, u "com/example/admission_by_rate/admissionbyrate/PlaceMarks"), (0, .methodref 34 37), (0, .nameAndType 7 38), (0, u "(I)V"), (0, .fieldref 3 40), (0, .nameAndType 41 42), (0, u "marks"), (0, u "Lcom/example/admission_by_rate/admissionbyrate/PlaceMarks;"), (0, .fieldref 3 44), (0, .nameAndType 45 21), (0, u "mask"), (0, .fieldref 3 47), (0, .nameAndType 48 21), (0, u "count"), (0, .methodref 3 50), (0, .nameAndType 51 52), (0, u "longOf"), (0, u "(I)J"), (0, .methodref 3 54), (0, .nameAndType 55 52), (0, u "longAt"), (6, .methodref 3 63), (0, .nameAndType 64 65), (0, u "putLongAt"), (0, u "(IJ)V"), (0, .methodref 3 67), (0, .nameAndType 68 69), (0, u "holds"), (0, u "(J)Z"), (9, .methodref 34 80), (0, .nameAndType 81 82), (0, u "at"), (0, u "(I)I"), (0, .methodref 34 84), (0, .nameAndType 85 86), (0, u "set"), (0, u "(II)V"), (0, .methodref 3 88), (0, .nameAndType 89 52), (0, u "digestAt"), (17, .methodref 108 109), (0, .class_ 110), (0, .nameAndType 111 112), (0, u "java/lang/Math"), (0, u "min"), (0, u "(JJ)J"), (0, .methodref 108 114), (0, .nameAndType 115 112), (0, u "max"), (0, .methodref 3 117), (0, .nameAndType 118 119), (0, u "near"), (0, u "(JJ)Z"), (0, .methodref 3 121), (0, .nameAndType 122 123), (0, u "baseFor"), (0, u "(J)J"), (0, .methodref 3 125), (0, .nameAndType 126 127), (0, u "laidOut"), (0, u "(IJI)Lcom/example/admission_by_rate/admissionbyrate/KeyTable;"), (0, .methodref 3 129), (0, .nameAndType 130 65), (0, u "putLong"), (4, .methodref 3 136), (0, .nameAndType 137 138), (0, u "places"), (0, u "()I"), (0, .long 2147483648), (1, .long 18446744071562067968), (1, .long 4294967295), (1, u "NOWHERE"), (1, u "NEAR"), (0, u "DIGEST_INTS"), (1, u "NARROW"), (1, u "WIDE"), (1, u "LOW_HALF"), (0, u "(ZI)V"), (13, u "occupy"), (0, u "(IJI)V"), (4, u "relaid"), (0, u "(IJ)Lcom/example/admission_by_rate/admissionbyrate/KeyTable;")] 23

def k2c0 : Code := { maxStack := 6, maxLocals := 3, code := prog_28_method_1_code, exceptionTable := #[], attributes := #[] }
def k2m0 : Method := { name := "<init>", desc := "(ZI)V", sig := { parameters := [.boolean, .int], returnType := none }, accessFlags := 0, code := some k2c0 }
def k2c1 : Code := { maxStack := 4, maxLocals := 6, code := prog_28_method_2_code, exceptionTable := #[], attributes := #[] }
def k2m1 : Method := { name := "<init>", desc := "(ZIIJ)V", sig := { parameters := [.boolean, .int, .int, .long], returnType := none }, accessFlags := 2, code := some k2c1 }
def k2c2 : Code := { maxStack := 2, maxLocals := 1, code := prog_28_method_3_code, exceptionTable := #[], attributes := #[] }
def k2m2 : Method := { name := "places", desc := "()I", sig := { parameters := [], returnType := some .int }, accessFlags := 0, code := some k2c2 }
def k2c3 : Code := { maxStack := 3, maxLocals := 2, code := prog_28_method_6_code, exceptionTable := #[], attributes := #[] }
def k2m3 : Method := { name := "digestAt", desc := "(I)J", sig := { parameters := [.int], returnType := some .long }, accessFlags := 0, code := some k2c3 }
def k2c4 : Code := { maxStack := 4, maxLocals := 3, code := prog_28_method_8_code, exceptionTable := #[], attributes := #[] }
def k2m4 : Method := { name := "longAt", desc := "(I)J", sig := { parameters := [.int], returnType := some .long }, accessFlags := 0, code := some k2c4 }
def k2c5 : Code := { maxStack := 4, maxLocals := 5, code := prog_28_method_10_code, exceptionTable := #[], attributes := #[] }
def k2m5 : Method := { name := "holds", desc := "(J)Z", sig := { parameters := [.long], returnType := some .boolean }, accessFlags := 0, code := some k2c5 }
def k2c6 : Code := { maxStack := 6, maxLocals := 5, code := prog_28_method_11_code, exceptionTable := #[], attributes := #[] }
def k2m6 : Method := { name := "putLong", desc := "(IJ)V", sig := { parameters := [.int, .long], returnType := none }, accessFlags := 0, code := some k2c6 }
def k2c7 : Code := { maxStack := 4, maxLocals := 5, code := prog_28_method_15_code, exceptionTable := #[], attributes := #[] }
def k2m7 : Method := { name := "occupy", desc := "(IJI)V", sig := { parameters := [.int, .long, .int], returnType := none }, accessFlags := 0, code := some k2c7 }
def k2c8 : Code := { maxStack := 5, maxLocals := 9, code := prog_28_method_19_code, exceptionTable := #[], attributes := #[] }
def k2m8 : Method := { name := "relaid", desc := "(IJ)Lcom/example/admission_by_rate/admissionbyrate/KeyTable;", sig := { parameters := [.int, .long], returnType := some (.object "com/example/admission_by_rate/admissionbyrate/KeyTable") }, accessFlags := 0, code := some k2c8 }
def k2c9 : Code := { maxStack := 7, maxLocals := 9, code := prog_28_method_21_code, exceptionTable := #[], attributes := #[] }
def k2m9 : Method := { name := "laidOut", desc := "(IJI)Lcom/example/admission_by_rate/admissionbyrate/KeyTable;", sig := { parameters := [.int, .long, .int], returnType := some (.object "com/example/admission_by_rate/admissionbyrate/KeyTable") }, accessFlags := 2, code := some k2c9 }
def k2c10 : Code := { maxStack := 4, maxLocals := 6, code := prog_28_method_22_code, exceptionTable := #[], attributes := #[] }
def k2m10 : Method := { name := "near", desc := "(JJ)Z", sig := { parameters := [.long, .long], returnType := some .boolean }, accessFlags := 10, code := some k2c10 }
def k2c11 : Code := { maxStack := 4, maxLocals := 2, code := prog_28_method_23_code, exceptionTable := #[], attributes := #[] }
def k2m11 : Method := { name := "baseFor", desc := "(J)J", sig := { parameters := [.long], returnType := some .long }, accessFlags := 10, code := some k2c11 }
def k2c12 : Code := { maxStack := 6, maxLocals := 2, code := prog_28_method_24_code, exceptionTable := #[], attributes := #[] }
def k2m12 : Method := { name := "longOf", desc := "(I)J", sig := { parameters := [.int], returnType := some .long }, accessFlags := 2, code := some k2c12 }
def k2c13 : Code := { maxStack := 5, maxLocals := 4, code := prog_28_method_25_code, exceptionTable := #[], attributes := #[] }
def k2m13 : Method := { name := "putLongAt", desc := "(IJ)V", sig := { parameters := [.int, .long], returnType := none }, accessFlags := 2, code := some k2c13 }
/-- com/example/admission_by_rate/admissionbyrate/KeyTable -/
def k2 : Class := { plain "com/example/admission_by_rate/admissionbyrate/KeyTable" (some 0) with
  accessFlags := 48
  interfaces := #[]
  cf := some (fileOf pool2 3 #[] #[{ accessFlags := 0, nameIndex := 7, descriptorIndex := 155, attributes := #[] }, { accessFlags := 2, nameIndex := 7, descriptorIndex := 8, attributes := #[] }, { accessFlags := 0, nameIndex := 137, descriptorIndex := 138, attributes := #[] }, { accessFlags := 0, nameIndex := 89, descriptorIndex := 52, attributes := #[] }, { accessFlags := 0, nameIndex := 55, descriptorIndex := 52, attributes := #[] }, { accessFlags := 0, nameIndex := 68, descriptorIndex := 69, attributes := #[] }, { accessFlags := 0, nameIndex := 130, descriptorIndex := 65, attributes := #[] }, { accessFlags := 0, nameIndex := 169, descriptorIndex := 170, attributes := #[] }, { accessFlags := 0, nameIndex := 175, descriptorIndex := 176, attributes := #[] }, { accessFlags := 2, nameIndex := 126, descriptorIndex := 127, attributes := #[] }, { accessFlags := 10, nameIndex := 118, descriptorIndex := 119, attributes := #[] }, { accessFlags := 10, nameIndex := 122, descriptorIndex := 123, attributes := #[] }, { accessFlags := 2, nameIndex := 51, descriptorIndex := 52, attributes := #[] }, { accessFlags := 2, nameIndex := 64, descriptorIndex := 65, attributes := #[] }] 48 10 #[] #[{ accessFlags := 24, nameIndex := 145, descriptorIndex := 21, attributes := #[] }, { accessFlags := 26, nameIndex := 147, descriptorIndex := 29, attributes := #[] }, { accessFlags := 26, nameIndex := 148, descriptorIndex := 21, attributes := #[] }, { accessFlags := 26, nameIndex := 150, descriptorIndex := 21, attributes := #[] }, { accessFlags := 26, nameIndex := 152, descriptorIndex := 21, attributes := #[] }, { accessFlags := 26, nameIndex := 154, descriptorIndex := 29, attributes := #[] }, { accessFlags := 18, nameIndex := 16, descriptorIndex := 17, attributes := #[] }, { accessFlags := 18, nameIndex := 20, descriptorIndex := 21, attributes := #[] }, { accessFlags := 18, nameIndex := 24, descriptorIndex := 25, attributes := #[] }, { accessFlags := 18, nameIndex := 28, descriptorIndex := 29, attributes := #[] }, { accessFlags := 18, nameIndex := 32, descriptorIndex := 33, attributes := #[] }, { accessFlags := 18, nameIndex := 41, descriptorIndex := 42, attributes := #[] }, { accessFlags := 18, nameIndex := 45, descriptorIndex := 21, attributes := #[] }, { accessFlags := 2, nameIndex := 48, descriptorIndex := 21, attributes := #[] }])
  fields := #[{ name := "NOWHERE", type := .int, accessFlags := 24, slot := 0, constantValue := 0 }, { name := "NEAR", type := .long, accessFlags := 26, slot := 1, constantValue := 0 }, { name := "DIGEST_INTS", type := .int, accessFlags := 26, slot := 2, constantValue := 0 }, { name := "NARROW", type := .int, accessFlags := 26, slot := 3, constantValue := 0 }, { name := "WIDE", type := .int, accessFlags := 26, slot := 4, constantValue := 0 }, { name := "LOW_HALF", type := .long, accessFlags := 26, slot := 5, constantValue := 0 }, { name := "inLongs", type := .boolean, accessFlags := 18, slot := 0, constantValue := 0 }, { name := "stride", type := .int, accessFlags := 18, slot := 1, constantValue := 0 }, { name := "ints", type := (.array .int), accessFlags := 18, slot := 2, constantValue := 0 }, { name := "base", type := .long, accessFlags := 18, slot := 3, constantValue := 0 }, { name := "objects", type := (.array (.object "java/lang/Object")), accessFlags := 18, slot := 4, constantValue := 0 }, { name := "marks", type := (.object "com/example/admission_by_rate/admissionbyrate/PlaceMarks"), accessFlags := 18, slot := 5, constantValue := 0 }, { name := "mask", type := .int, accessFlags := 18, slot := 6, constantValue := 0 }, { name := "count", type := .int, accessFlags := 2, slot := 7, constantValue := 0 }]
  methods := #[k2m0, k2m1, k2m2, k2m3, k2m4, k2m5, k2m6, k2m7, k2m8, k2m9, k2m10, k2m11, k2m12, k2m13]
  instanceTypes := #[.boolean, .int, (.array .int), .long, (.array (.object "java/lang/Object")), (.object "com/example/admission_by_rate/admissionbyrate/PlaceMarks"), .int, .int]
  staticTypes := #[.int, .long, .int, .int, .int, .long]
  resolved := Array.replicate 200 none
  statics := none }

def pool3 : Array CpInfo := pool [(3, .class_ 4), (0, u "com/example/admission_by_rate/admissionbyrate/PlaceMarks"), (0, .methodref 6 7), (0, .class_ 8), (0, .nameAndType 9 10), (0, u "java/lang/Object"), (0, u "<init>"), (0, u "()V"), (0, .fieldref 3 12), (0, .nameAndType 13 14), (0, u "places"), (0, u "I"), (0, .fieldref 3 16), (0, .nameAndType 17 18), (0, u "words"), (0, u "[J"), (3, u "(I)I"), (0, .long 3), (1, .long 18446744073709551612), (10, .long 18446744073709551615), (1, u "BITS"), (2, u "PER_WORD"), (1, u "ONE_PLACE"), (0, u "J"), (0, u "(I)V"), (2, u "at"), (1, u "set"), (0, u "(II)V")] 17

def k3c0 : Code := { maxStack := 2, maxLocals := 2, code := prog_37_method_1_code, exceptionTable := #[], attributes := #[] }
def k3m0 : Method := { name := "<init>", desc := "(I)V", sig := { parameters := [.int], returnType := none }, accessFlags := 0, code := some k3c0 }
def k3c1 : Code := { maxStack := 4, maxLocals := 2, code := prog_37_method_2_code, exceptionTable := #[], attributes := #[] }
def k3m1 : Method := { name := "at", desc := "(I)I", sig := { parameters := [.int], returnType := some .int }, accessFlags := 0, code := some k3c1 }
def k3c2 : Code := { maxStack := 8, maxLocals := 4, code := prog_37_method_3_code, exceptionTable := #[], attributes := #[] }
def k3m2 : Method := { name := "set", desc := "(II)V", sig := { parameters := [.int, .int], returnType := none }, accessFlags := 0, code := some k3c2 }
/-- com/example/admission_by_rate/admissionbyrate/PlaceMarks -/
def k3 : Class := { plain "com/example/admission_by_rate/admissionbyrate/PlaceMarks" (some 0) with
  accessFlags := 48
  interfaces := #[]
  cf := some (fileOf pool3 3 #[] #[{ accessFlags := 0, nameIndex := 9, descriptorIndex := 45, attributes := #[] }, { accessFlags := 0, nameIndex := 48, descriptorIndex := 22, attributes := #[] }, { accessFlags := 0, nameIndex := 50, descriptorIndex := 51, attributes := #[] }] 48 6 #[] #[{ accessFlags := 24, nameIndex := 38, descriptorIndex := 14, attributes := #[] }, { accessFlags := 26, nameIndex := 41, descriptorIndex := 14, attributes := #[] }, { accessFlags := 26, nameIndex := 43, descriptorIndex := 44, attributes := #[] }, { accessFlags := 18, nameIndex := 13, descriptorIndex := 14, attributes := #[] }, { accessFlags := 2, nameIndex := 17, descriptorIndex := 18, attributes := #[] }])
  fields := #[{ name := "BITS", type := .int, accessFlags := 24, slot := 0, constantValue := 0 }, { name := "PER_WORD", type := .int, accessFlags := 26, slot := 1, constantValue := 0 }, { name := "ONE_PLACE", type := .long, accessFlags := 26, slot := 2, constantValue := 0 }, { name := "places", type := .int, accessFlags := 18, slot := 0, constantValue := 0 }, { name := "words", type := (.array .long), accessFlags := 2, slot := 1, constantValue := 0 }]
  methods := #[k3m0, k3m1, k3m2]
  instanceTypes := #[.int, (.array .long)]
  staticTypes := #[.int, .int, .long]
  resolved := Array.replicate 69 none
  statics := none }

def pool4 : Array CpInfo := pool [(1, .class_ 2), (0, u "java/lang/Math"), (1, .class_ 6), (1, u "java/lang/Object"), (0, u "<init>"), (0, u "()V"), (89, .class_ 100), (1, u "java/lang/Math$RandomNumberGeneratorHolder"), (20, u "(JJ)J"), (50, u "negativeZeroFloatBits"), (0, u "J"), (2, u "negativeZeroDoubleBits"), (21, u "max"), (2, u "min"), (43, u "$assertionsDisabled"), (0, u "Z"), (91, u "twoToTheDoubleScaleDown"), (0, u "D"), (4, u "twoToTheDoubleScaleUp"), (9, u "E"), (3, u "PI"), (2, u "TAU"), (2, u "DEGREES_TO_RADIANS"), (0, u "RADIANS_TO_DEGREES")] 94

def k4m0 : Method := { name := "<init>", desc := "()V", sig := { parameters := [], returnType := none }, accessFlags := 2, code := none }
def k4c1 : Code := { maxStack := 4, maxLocals := 4, code := jdk_29_method_66_code, exceptionTable := #[], attributes := #[] }
def k4m1 : Method := { name := "max", desc := "(JJ)J", sig := { parameters := [.long, .long], returnType := some .long }, accessFlags := 9, code := some k4c1 }
def k4c2 : Code := { maxStack := 4, maxLocals := 4, code := jdk_29_method_70_code, exceptionTable := #[], attributes := #[] }
def k4m2 : Method := { name := "min", desc := "(JJ)J", sig := { parameters := [.long, .long], returnType := some .long }, accessFlags := 9, code := some k4c2 }
/-- java/lang/Math -/
def k4 : Class := { plain "java/lang/Math" (some 0) with
  accessFlags := 49
  interfaces := #[]
  cf := some (fileOf pool4 1 #[.nestMembers #[98]] #[{ accessFlags := 2, nameIndex := 7, descriptorIndex := 8, attributes := #[] }, { accessFlags := 9, nameIndex := 198, descriptorIndex := 121, attributes := #[] }, { accessFlags := 9, nameIndex := 201, descriptorIndex := 121, attributes := #[] }] 49 4 #[] #[{ accessFlags := 25, nameIndex := 354, descriptorIndex := 339, attributes := #[] }, { accessFlags := 25, nameIndex := 358, descriptorIndex := 339, attributes := #[] }, { accessFlags := 25, nameIndex := 361, descriptorIndex := 339, attributes := #[] }, { accessFlags := 26, nameIndex := 364, descriptorIndex := 339, attributes := #[] }, { accessFlags := 26, nameIndex := 365, descriptorIndex := 339, attributes := #[] }, { accessFlags := 26, nameIndex := 172, descriptorIndex := 173, attributes := #[] }, { accessFlags := 26, nameIndex := 176, descriptorIndex := 173, attributes := #[] }, { accessFlags := 8, nameIndex := 344, descriptorIndex := 339, attributes := #[] }, { accessFlags := 8, nameIndex := 338, descriptorIndex := 339, attributes := #[] }, { accessFlags := 4120, nameIndex := 245, descriptorIndex := 246, attributes := #[] }])
  fields := #[{ name := "E", type := .double, accessFlags := 25, slot := 0, constantValue := 0 }, { name := "PI", type := .double, accessFlags := 25, slot := 1, constantValue := 0 }, { name := "TAU", type := .double, accessFlags := 25, slot := 2, constantValue := 0 }, { name := "DEGREES_TO_RADIANS", type := .double, accessFlags := 26, slot := 3, constantValue := 0 }, { name := "RADIANS_TO_DEGREES", type := .double, accessFlags := 26, slot := 4, constantValue := 0 }, { name := "negativeZeroFloatBits", type := .long, accessFlags := 26, slot := 5, constantValue := 0 }, { name := "negativeZeroDoubleBits", type := .long, accessFlags := 26, slot := 6, constantValue := 0 }, { name := "twoToTheDoubleScaleUp", type := .double, accessFlags := 8, slot := 7, constantValue := 0 }, { name := "twoToTheDoubleScaleDown", type := .double, accessFlags := 8, slot := 8, constantValue := 0 }, { name := "$assertionsDisabled", type := .boolean, accessFlags := 4120, slot := 9, constantValue := 0 }]
  methods := #[k4m0, k4m1, k4m2]
  instanceTypes := #[]
  staticTypes := #[.double, .double, .double, .double, .double, .long, .long, .double, .double, .boolean]
  resolved := Array.replicate 460 none
  statics := none }

def pool5 : Array CpInfo := pool [(1, u "java/lang/Cloneable"), (0, .class_ 1), (0, u "java/lang/Object"), (0, .class_ 3)] 3

/-- java/lang/Cloneable -/
def k5 : Class := { plain "java/lang/Cloneable" (some 0) with
  accessFlags := 1537
  interfaces := #[]
  cf := some (fileOf pool5 2 #[] #[] 1537 4 #[] #[])
  fields := #[]
  methods := #[]
  instanceTypes := #[]
  staticTypes := #[]
  resolved := Array.replicate 8 none
  statics := none }

def pool6 : Array CpInfo := pool [(1, u "java/io/Serializable"), (0, .class_ 1), (0, u "java/lang/Object"), (0, .class_ 3)] 3

/-- java/io/Serializable -/
def k6 : Class := { plain "java/io/Serializable" (some 0) with
  accessFlags := 1537
  interfaces := #[]
  cf := some (fileOf pool6 2 #[] #[] 1537 4 #[] #[])
  fields := #[]
  methods := #[]
  instanceTypes := #[]
  staticTypes := #[]
  resolved := Array.replicate 8 none
  statics := none }

/-- the primitive byte -/
def k7 : Class := { plain "byte" none with kind := .primitive 'B', accessFlags := 0x411 }
/-- [B -/
def k8 : Class := { plain "[B" (some 0) with kind := .array 7 .byte, interfaces := #[5, 6], accessFlags := 1041 }

/-- the primitive int -/
def k9 : Class := { plain "int" none with kind := .primitive 'I', accessFlags := 0x411 }
/-- [I -/
def k10 : Class := { plain "[I" (some 0) with kind := .array 9 .int, interfaces := #[5, 6], accessFlags := 1041 }

/-- the primitive long -/
def k11 : Class := { plain "long" none with kind := .primitive 'J', accessFlags := 0x411 }
/-- [J -/
def k12 : Class := { plain "[J" (some 0) with kind := .array 11 .long, interfaces := #[5, 6], accessFlags := 1041 }

def heap : Heap := #[]
def classes : Array Class := #[k0, k1, k2, k3, k4, k5, k6, k7, k8, k9, k10, k11, k12]
def interned : List (Array UInt16 × Addr) := []
def slotsUsed : Nat := 0
def theMethod : MethodId := ⟨1, 1⟩
def args0 : Array Value := #[.long 5, .long 300, .int 3]
def aboutOver (below : List Frame) : State where
  vm := { classes := classes, interned := interned.toArray }
  heap := heap
  slotsUsed := slotsUsed
  threads := #[{ frames := .invoking theMethod args0 :: below }]
def below0 : List Frame := [.native { method := ⟨0, 0⟩, args := #[] }]
def about1 : State := aboutOver below0
def p0 : Program := .bare "" "" ""
def e0 : Env := launch0.env 0 0 0
theorem w_frames : about1.frames = Frame.invoking theMethod args0 :: below0 := rfl
set_option maxRecDepth 65536 in
theorem w_args : argsFit about1.vm theMethod args0 = true := by decide +kernel
set_option maxRecDepth 65536 in
theorem w_heap : heapFits about1 = true := by decide +kernel
set_option maxRecDepth 65536 in
theorem w_runnable : about1.curStatus? = some .runnable := by decide +kernel
set_option maxRecDepth 65536 in
theorem w_alone : about1.alone = true := by decide +kernel
set_option maxRecDepth 65536 in
theorem w_named : about1.methodNamed? x = some theMethod := by decide +kernel
set_option maxRecDepth 65536 in
theorem w_hears : about1.hears theMethod below0 = true := by decide +kernel
set_option maxRecDepth 65536 in
theorem w_ripe : about1.ripe theMethod args0 below0 = true := by decide +kernel
theorem w_running : about1.status = .running := rfl
set_option maxRecDepth 65536 in
theorem w_room : about1.hasRoom e0.platform room_1 = true :=
  launch0.hasRoom_least _ room_1 (by decide +kernel) (by decide +kernel) (by decide +kernel) (by decide +kernel) (by decide +kernel) (by decide +kernel)
theorem allAtoms_all (ts : List Jvm.Cond) (a : Array Jvm.Value) (st : Jvm.State) : (allAtoms ts).before a st = ts.all (fun c => c.before a st) := by
  induction ts with
  | nil => rfl
  | cons c t ih =>
    show (Jvm.Cond.and c (allAtoms t)).before a st = _
    rw [Jvm.Cond.before_and, ih, List.all_cons]
def words1 : List Jvm.Cond := Jvm.Cond.code x code maxLocals ret :: tables_1
/-- a 'code' word, met by the world's own term for the bytes: nothing is compared byte by byte -/
theorem code_word {y : MethodName} {bytes : ByteArray} {mx : Nat} {rt : Option FieldType} {a : Array Value} {s : State} {m : MethodId} {meth : Method} {c : Code} (h1 : s.methodNamed? y = some m) (h2 : s.vm.method? m = some meth) (h3 : meth.code = some c) (h4 : c.code = bytes)
    (h5 : (c.maxLocals == mx && c.exceptionTable.isEmpty && decide (c.maxStack ≤ mostOperands) && decide (meth.sig.returnType = rt) && !meth.locks && decide (parseMethodDescriptor y.desc = some meth.sig)) = true) : (Jvm.Cond.code y bytes mx rt).before a s = true := by
  simp only [Bool.and_eq_true, beq_iff_eq, Bool.not_eq_true', decide_eq_true_eq] at h5
  obtain ⟨⟨⟨⟨⟨g1, g2⟩, g3⟩, g4⟩, g5⟩, g6⟩ := h5
  simp [Cond.before, Cond.holds, Cond.value, h1, h2, h3, h4, g1, g2, g3, g4, g5, g6]
def isCode : Jvm.Cond → Bool
  | .code _ _ _ _ => true
  | _ => false
theorem all_split {L : List Jvm.Cond} {P : Jvm.Cond → Bool} (h1 : L.all (fun c => isCode c || P c) = true) (h2 : ∀ c ∈ L.filter isCode, P c = true) : L.all P = true := by
  refine List.all_eq_true.mpr fun c hc => ?_
  have h := List.all_eq_true.mp h1 c hc
  rcases Bool.eq_false_or_eq_true (isCode c) with hi | hi
  · exact h2 c (List.mem_filter.mpr ⟨hc, hi⟩)
  · simpa [hi] using h
set_option maxRecDepth 65536 in
theorem w_c0 : (Jvm.Cond.code x code maxLocals ret).before args0 about1 = true := code_word (m := ⟨1, 1⟩) (meth := k1m1) (c := k1c1) (by decide +kernel) rfl rfl rfl (by decide +kernel)
set_option maxRecDepth 65536 in
theorem w_c1 : (Jvm.Cond.code ({ cls := "com/example/admission_by_rate/admissionbyrate/KeyTable", name := "<init>", desc := "(ZI)V" } : Jvm.MethodName) prog_28_method_1_code (3 : Nat) (Option.none : Option Jvm.ClassFile.FieldType)).before args0 about1 = true := code_word (m := ⟨2, 0⟩) (meth := k2m0) (c := k2c0) (by decide +kernel) rfl rfl rfl (by decide +kernel)
set_option maxRecDepth 65536 in
theorem w_c2 : (Jvm.Cond.code ({ cls := "com/example/admission_by_rate/admissionbyrate/KeyTable", name := "<init>", desc := "(ZIIJ)V" } : Jvm.MethodName) prog_28_method_2_code (6 : Nat) (Option.none : Option Jvm.ClassFile.FieldType)).before args0 about1 = true := code_word (m := ⟨2, 1⟩) (meth := k2m1) (c := k2c1) (by decide +kernel) rfl rfl rfl (by decide +kernel)
set_option maxRecDepth 65536 in
theorem w_c3 : (Jvm.Cond.code ({ cls := "java/lang/Object", name := "<init>", desc := "()V" } : Jvm.MethodName) object_method_1_code (1 : Nat) (Option.none : Option Jvm.ClassFile.FieldType)).before args0 about1 = true := code_word (m := ⟨0, 0⟩) (meth := k0m0) (c := k0c0) (by decide +kernel) rfl rfl rfl (by decide +kernel)
set_option maxRecDepth 65536 in
theorem w_c4 : (Jvm.Cond.code ({ cls := "com/example/admission_by_rate/admissionbyrate/PlaceMarks", name := "<init>", desc := "(I)V" } : Jvm.MethodName) prog_37_method_1_code (2 : Nat) (Option.none : Option Jvm.ClassFile.FieldType)).before args0 about1 = true := code_word (m := ⟨3, 0⟩) (meth := k3m0) (c := k3c0) (by decide +kernel) rfl rfl rfl (by decide +kernel)
set_option maxRecDepth 65536 in
theorem w_c5 : (Jvm.Cond.code ({ cls := "com/example/admission_by_rate/admissionbyrate/KeyTable", name := "holds", desc := "(J)Z" } : Jvm.MethodName) prog_28_method_10_code (5 : Nat) (Option.some Jvm.ClassFile.FieldType.boolean)).before args0 about1 = true := code_word (m := ⟨2, 5⟩) (meth := k2m5) (c := k2c5) (by decide +kernel) rfl rfl rfl (by decide +kernel)
set_option maxRecDepth 65536 in
theorem w_c6 : (Jvm.Cond.code ({ cls := "com/example/admission_by_rate/admissionbyrate/KeyTable", name := "occupy", desc := "(IJI)V" } : Jvm.MethodName) prog_28_method_15_code (5 : Nat) (Option.none : Option Jvm.ClassFile.FieldType)).before args0 about1 = true := code_word (m := ⟨2, 7⟩) (meth := k2m7) (c := k2c7) (by decide +kernel) rfl rfl rfl (by decide +kernel)
set_option maxRecDepth 65536 in
theorem w_c7 : (Jvm.Cond.code ({ cls := "com/example/admission_by_rate/admissionbyrate/KeyTable", name := "putLongAt", desc := "(IJ)V" } : Jvm.MethodName) prog_28_method_25_code (4 : Nat) (Option.none : Option Jvm.ClassFile.FieldType)).before args0 about1 = true := code_word (m := ⟨2, 13⟩) (meth := k2m13) (c := k2c13) (by decide +kernel) rfl rfl rfl (by decide +kernel)
set_option maxRecDepth 65536 in
theorem w_c8 : (Jvm.Cond.code ({ cls := "com/example/admission_by_rate/admissionbyrate/PlaceMarks", name := "set", desc := "(II)V" } : Jvm.MethodName) prog_37_method_3_code (4 : Nat) (Option.none : Option Jvm.ClassFile.FieldType)).before args0 about1 = true := code_word (m := ⟨3, 2⟩) (meth := k3m2) (c := k3c2) (by decide +kernel) rfl rfl rfl (by decide +kernel)
set_option maxRecDepth 65536 in
theorem w_c9 : (Jvm.Cond.code ({ cls := "com/example/admission_by_rate/admissionbyrate/KeyTable", name := "relaid", desc := "(IJ)Lcom/example/admission_by_rate/admissionbyrate/KeyTable;" } : Jvm.MethodName) prog_28_method_19_code (9 : Nat) (Option.some (Jvm.ClassFile.FieldType.object "com/example/admission_by_rate/admissionbyrate/KeyTable"))).before args0 about1 = true := code_word (m := ⟨2, 8⟩) (meth := k2m8) (c := k2c8) (by decide +kernel) rfl rfl rfl (by decide +kernel)
set_option maxRecDepth 65536 in
theorem w_c10 : (Jvm.Cond.code ({ cls := "com/example/admission_by_rate/admissionbyrate/KeyTable", name := "digestAt", desc := "(I)J" } : Jvm.MethodName) prog_28_method_6_code (2 : Nat) (Option.some Jvm.ClassFile.FieldType.long)).before args0 about1 = true := code_word (m := ⟨2, 3⟩) (meth := k2m3) (c := k2c3) (by decide +kernel) rfl rfl rfl (by decide +kernel)
set_option maxRecDepth 65536 in
theorem w_c11 : (Jvm.Cond.code ({ cls := "com/example/admission_by_rate/admissionbyrate/KeyTable", name := "longOf", desc := "(I)J" } : Jvm.MethodName) prog_28_method_24_code (2 : Nat) (Option.some Jvm.ClassFile.FieldType.long)).before args0 about1 = true := code_word (m := ⟨2, 12⟩) (meth := k2m12) (c := k2c12) (by decide +kernel) rfl rfl rfl (by decide +kernel)
set_option maxRecDepth 65536 in
theorem w_c12 : (Jvm.Cond.code ({ cls := "com/example/admission_by_rate/admissionbyrate/KeyTable", name := "near", desc := "(JJ)Z" } : Jvm.MethodName) prog_28_method_22_code (6 : Nat) (Option.some Jvm.ClassFile.FieldType.boolean)).before args0 about1 = true := code_word (m := ⟨2, 10⟩) (meth := k2m10) (c := k2c10) (by decide +kernel) rfl rfl rfl (by decide +kernel)
set_option maxRecDepth 65536 in
theorem w_c13 : (Jvm.Cond.code ({ cls := "com/example/admission_by_rate/admissionbyrate/KeyTable", name := "baseFor", desc := "(J)J" } : Jvm.MethodName) prog_28_method_23_code (2 : Nat) (Option.some Jvm.ClassFile.FieldType.long)).before args0 about1 = true := code_word (m := ⟨2, 11⟩) (meth := k2m11) (c := k2c11) (by decide +kernel) rfl rfl rfl (by decide +kernel)
set_option maxRecDepth 65536 in
theorem w_c14 : (Jvm.Cond.code ({ cls := "com/example/admission_by_rate/admissionbyrate/KeyTable", name := "laidOut", desc := "(IJI)Lcom/example/admission_by_rate/admissionbyrate/KeyTable;" } : Jvm.MethodName) prog_28_method_21_code (9 : Nat) (Option.some (Jvm.ClassFile.FieldType.object "com/example/admission_by_rate/admissionbyrate/KeyTable"))).before args0 about1 = true := code_word (m := ⟨2, 9⟩) (meth := k2m9) (c := k2c9) (by decide +kernel) rfl rfl rfl (by decide +kernel)
set_option maxRecDepth 65536 in
theorem w_c15 : (Jvm.Cond.code ({ cls := "com/example/admission_by_rate/admissionbyrate/KeyTable", name := "places", desc := "()I" } : Jvm.MethodName) prog_28_method_3_code (1 : Nat) (Option.some Jvm.ClassFile.FieldType.int)).before args0 about1 = true := code_word (m := ⟨2, 2⟩) (meth := k2m2) (c := k2c2) (by decide +kernel) rfl rfl rfl (by decide +kernel)
set_option maxRecDepth 65536 in
theorem w_c16 : (Jvm.Cond.code ({ cls := "com/example/admission_by_rate/admissionbyrate/PlaceMarks", name := "at", desc := "(I)I" } : Jvm.MethodName) prog_37_method_2_code (2 : Nat) (Option.some Jvm.ClassFile.FieldType.int)).before args0 about1 = true := code_word (m := ⟨3, 1⟩) (meth := k3m1) (c := k3c1) (by decide +kernel) rfl rfl rfl (by decide +kernel)
set_option maxRecDepth 65536 in
theorem w_c17 : (Jvm.Cond.code ({ cls := "com/example/admission_by_rate/admissionbyrate/KeyTable", name := "putLong", desc := "(IJ)V" } : Jvm.MethodName) prog_28_method_11_code (5 : Nat) (Option.none : Option Jvm.ClassFile.FieldType)).before args0 about1 = true := code_word (m := ⟨2, 6⟩) (meth := k2m6) (c := k2c6) (by decide +kernel) rfl rfl rfl (by decide +kernel)
set_option maxRecDepth 65536 in
theorem w_c18 : (Jvm.Cond.code ({ cls := "com/example/admission_by_rate/admissionbyrate/KeyTable", name := "longAt", desc := "(I)J" } : Jvm.MethodName) prog_28_method_8_code (3 : Nat) (Option.some Jvm.ClassFile.FieldType.long)).before args0 about1 = true := code_word (m := ⟨2, 4⟩) (meth := k2m4) (c := k2c4) (by decide +kernel) rfl rfl rfl (by decide +kernel)
set_option maxRecDepth 65536 in
theorem w_c19 : (Jvm.Cond.code ({ cls := "java/lang/Math", name := "min", desc := "(JJ)J" } : Jvm.MethodName) jdk_29_method_70_code (4 : Nat) (Option.some Jvm.ClassFile.FieldType.long)).before args0 about1 = true := code_word (m := ⟨4, 2⟩) (meth := k4m2) (c := k4c2) (by decide +kernel) rfl rfl rfl (by decide +kernel)
set_option maxRecDepth 65536 in
theorem w_c20 : (Jvm.Cond.code ({ cls := "java/lang/Math", name := "max", desc := "(JJ)J" } : Jvm.MethodName) jdk_29_method_66_code (4 : Nat) (Option.some Jvm.ClassFile.FieldType.long)).before args0 about1 = true := code_word (m := ⟨4, 1⟩) (meth := k4m1) (c := k4c1) (by decide +kernel) rfl rfl rfl (by decide +kernel)
def codes1 : List Jvm.Cond := [Jvm.Cond.code x code maxLocals ret, Jvm.Cond.code ({ cls := "com/example/admission_by_rate/admissionbyrate/KeyTable", name := "<init>", desc := "(ZI)V" } : Jvm.MethodName) prog_28_method_1_code (3 : Nat) (Option.none : Option Jvm.ClassFile.FieldType), Jvm.Cond.code ({ cls := "com/example/admission_by_rate/admissionbyrate/KeyTable", name := "<init>", desc := "(ZIIJ)V" } : Jvm.MethodName) prog_28_method_2_code (6 : Nat) (Option.none : Option Jvm.ClassFile.FieldType), Jvm.Cond.code ({ cls := "java/lang/Object", name := "<init>", desc := "()V" } : Jvm.MethodName) object_method_1_code (1 : Nat) (Option.none : Option Jvm.ClassFile.FieldType), Jvm.Cond.code ({ cls := "com/example/admission_by_rate/admissionbyrate/PlaceMarks", name := "<init>", desc := "(I)V" } : Jvm.MethodName) prog_37_method_1_code (2 : Nat) (Option.none : Option Jvm.ClassFile.FieldType), Jvm.Cond.code ({ cls := "com/example/admission_by_rate/admissionbyrate/KeyTable", name := "holds", desc := "(J)Z" } : Jvm.MethodName) prog_28_method_10_code (5 : Nat) (Option.some Jvm.ClassFile.FieldType.boolean), Jvm.Cond.code ({ cls := "com/example/admission_by_rate/admissionbyrate/KeyTable", name := "occupy", desc := "(IJI)V" } : Jvm.MethodName) prog_28_method_15_code (5 : Nat) (Option.none : Option Jvm.ClassFile.FieldType), Jvm.Cond.code ({ cls := "com/example/admission_by_rate/admissionbyrate/KeyTable", name := "putLongAt", desc := "(IJ)V" } : Jvm.MethodName) prog_28_method_25_code (4 : Nat) (Option.none : Option Jvm.ClassFile.FieldType), Jvm.Cond.code ({ cls := "com/example/admission_by_rate/admissionbyrate/PlaceMarks", name := "set", desc := "(II)V" } : Jvm.MethodName) prog_37_method_3_code (4 : Nat) (Option.none : Option Jvm.ClassFile.FieldType), Jvm.Cond.code ({ cls := "com/example/admission_by_rate/admissionbyrate/KeyTable", name := "relaid", desc := "(IJ)Lcom/example/admission_by_rate/admissionbyrate/KeyTable;" } : Jvm.MethodName) prog_28_method_19_code (9 : Nat) (Option.some (Jvm.ClassFile.FieldType.object "com/example/admission_by_rate/admissionbyrate/KeyTable")), Jvm.Cond.code ({ cls := "com/example/admission_by_rate/admissionbyrate/KeyTable", name := "digestAt", desc := "(I)J" } : Jvm.MethodName) prog_28_method_6_code (2 : Nat) (Option.some Jvm.ClassFile.FieldType.long), Jvm.Cond.code ({ cls := "com/example/admission_by_rate/admissionbyrate/KeyTable", name := "longOf", desc := "(I)J" } : Jvm.MethodName) prog_28_method_24_code (2 : Nat) (Option.some Jvm.ClassFile.FieldType.long), Jvm.Cond.code ({ cls := "com/example/admission_by_rate/admissionbyrate/KeyTable", name := "near", desc := "(JJ)Z" } : Jvm.MethodName) prog_28_method_22_code (6 : Nat) (Option.some Jvm.ClassFile.FieldType.boolean), Jvm.Cond.code ({ cls := "com/example/admission_by_rate/admissionbyrate/KeyTable", name := "baseFor", desc := "(J)J" } : Jvm.MethodName) prog_28_method_23_code (2 : Nat) (Option.some Jvm.ClassFile.FieldType.long), Jvm.Cond.code ({ cls := "com/example/admission_by_rate/admissionbyrate/KeyTable", name := "laidOut", desc := "(IJI)Lcom/example/admission_by_rate/admissionbyrate/KeyTable;" } : Jvm.MethodName) prog_28_method_21_code (9 : Nat) (Option.some (Jvm.ClassFile.FieldType.object "com/example/admission_by_rate/admissionbyrate/KeyTable")), Jvm.Cond.code ({ cls := "com/example/admission_by_rate/admissionbyrate/KeyTable", name := "places", desc := "()I" } : Jvm.MethodName) prog_28_method_3_code (1 : Nat) (Option.some Jvm.ClassFile.FieldType.int), Jvm.Cond.code ({ cls := "com/example/admission_by_rate/admissionbyrate/PlaceMarks", name := "at", desc := "(I)I" } : Jvm.MethodName) prog_37_method_2_code (2 : Nat) (Option.some Jvm.ClassFile.FieldType.int), Jvm.Cond.code ({ cls := "com/example/admission_by_rate/admissionbyrate/KeyTable", name := "putLong", desc := "(IJ)V" } : Jvm.MethodName) prog_28_method_11_code (5 : Nat) (Option.none : Option Jvm.ClassFile.FieldType), Jvm.Cond.code ({ cls := "com/example/admission_by_rate/admissionbyrate/KeyTable", name := "longAt", desc := "(I)J" } : Jvm.MethodName) prog_28_method_8_code (3 : Nat) (Option.some Jvm.ClassFile.FieldType.long), Jvm.Cond.code ({ cls := "java/lang/Math", name := "min", desc := "(JJ)J" } : Jvm.MethodName) jdk_29_method_70_code (4 : Nat) (Option.some Jvm.ClassFile.FieldType.long), Jvm.Cond.code ({ cls := "java/lang/Math", name := "max", desc := "(JJ)J" } : Jvm.MethodName) jdk_29_method_66_code (4 : Nat) (Option.some Jvm.ClassFile.FieldType.long)]
set_option maxRecDepth 65536 in
theorem codes_eq : words1.filter isCode = codes1 := rfl
theorem w_codes : ∀ c ∈ words1.filter isCode, c.before args0 about1 = true := by
  rw [codes_eq]
  intro c hc
  simp only [codes1, List.mem_cons, List.not_mem_nil, or_false] at hc
  rcases hc with rfl | rfl | rfl | rfl | rfl | rfl | rfl | rfl | rfl | rfl | rfl | rfl | rfl | rfl | rfl | rfl | rfl | rfl | rfl | rfl | rfl
  · exact w_c0
  · exact w_c1
  · exact w_c2
  · exact w_c3
  · exact w_c4
  · exact w_c5
  · exact w_c6
  · exact w_c7
  · exact w_c8
  · exact w_c9
  · exact w_c10
  · exact w_c11
  · exact w_c12
  · exact w_c13
  · exact w_c14
  · exact w_c15
  · exact w_c16
  · exact w_c17
  · exact w_c18
  · exact w_c19
  · exact w_c20
set_option maxRecDepth 65536 in
theorem w_t1 : (words1.take 24).all (fun c => isCode c || c.before args0 about1) = true := by decide +kernel
set_option maxRecDepth 65536 in
theorem w_t2 : ((words1.drop 24).take 24).all (fun c => isCode c || c.before args0 about1) = true := by decide +kernel
set_option maxRecDepth 65536 in
theorem w_t3 : (((words1.drop 24).drop 24).take 24).all (fun c => isCode c || c.before args0 about1) = true := by decide +kernel
set_option maxRecDepth 65536 in
theorem w_t4 : ((((words1.drop 24).drop 24).drop 24).take 24).all (fun c => isCode c || c.before args0 about1) = true := by decide +kernel
set_option maxRecDepth 65536 in
theorem w_t5 : (((((words1.drop 24).drop 24).drop 24).drop 24).take 24).all (fun c => isCode c || c.before args0 about1) = true := by decide +kernel
set_option maxRecDepth 65536 in
theorem w_t6 : (((((words1.drop 24).drop 24).drop 24).drop 24).drop 24).all (fun c => isCode c || c.before args0 about1) = true := by decide +kernel
theorem w_tables : (allAtoms (Jvm.Cond.code x code maxLocals ret :: tables_1)).before args0 about1 = true := by
  rw [allAtoms_all]
  show words1.all (fun c => c.before args0 about1) = true
  refine all_split ?_ w_codes
  rw [← List.take_append_drop 24 words1, List.all_append, w_t1, ← List.take_append_drop 24 (words1.drop 24), List.all_append, w_t2, ← List.take_append_drop 24 ((words1.drop 24).drop 24), List.all_append, w_t3, ← List.take_append_drop 24 (((words1.drop 24).drop 24).drop 24), List.all_append, w_t4, ← List.take_append_drop 24 ((((words1.drop 24).drop 24).drop 24).drop 24), List.all_append, w_t5, w_t6]
  rfl
set_option maxRecDepth 65536 in
theorem w_case : (Jvm.Cond.and given_1 narrow_1).before args0 about1 = true := by decide +kernel
theorem w_applies : (headSpec (Jvm.Cond.code x code maxLocals ret :: tables_1) room_1).applies x e0.platform about1 = true :=
  (Spec.applies_iff w_frames).mpr ⟨w_running, w_runnable, w_alone, w_named, w_hears, w_ripe, w_room, w_tables⟩
theorem atStart : AtStart classFile x code maxLocals ret World_1 tables_1 room_1 Calls_1 rest_1 Pre_1 launch0 p0 e0 about1 theMethod args0 below0 :=
  ⟨lists_1, trivial, launch0.admits_env _ _ _, launch0.least_env, fairChoices_fair.cas, fairChoices_fair.clock, w_frames, w_args, w_heap, w_applies, trivial, trivial, w_case⟩
end start1
theorem witness_1 : WitnessClaimed_1 := ⟨start1.p0, start1.e0, start1.about1, start1.theMethod, start1.args0, start1.below0, start1.atStart⟩
end Jvm.Pilot.@@N@@
